/- impl.Bits: making a set -/
import Derived.Test.YtifoeehfblddcaaDoorK
namespace Go.Proofs.YtifoeehfblddcaaDoor
open Go.RowKit

set_option maxHeartbeats 400000 in
theorem ztext_any {lo hi : Nat} {w : World} {b : Nat} {ws : List Nat} (h : Bset lo hi w b ws) (hT : Tabs w) :
    Calls Tryd.prog 21 #[.agg #[.pointer (some ⟨b, 0, none⟩)]] w fun e w' => (∃ s, e = .returned (.string s)) ∧ Below w.heap.size w w' := by
  have hB := bl1 w
  have h0 : 0 < w.heap.size := by have := h.ble; have := h.blt; have := h.top; omega
  have H := hid (fun W (hb : Below w.heap.size w W) => string_any (h.keep (hb.mono h.top)) (hT.keep h0 hb))
  clear h hT
  go_enter Tryd.func21, Tryd.ntmps21
  go_wp2_with (go_at_call 36; refine (H.out _ (bl1 w _)).mono ?_; rintro e w' ⟨⟨s, rfl⟩, hb⟩)
  go_ret
  exact ⟨⟨_, rfl⟩, bl (hB _) hb⟩

/-- a slice of ints that came in -/
structure Ints (w : World) (A : Option Addr) (c : Nat) (xs : List Int) : Prop where
  cap : xs.length ≤ c
  row : 0 < xs.length → ∃ g o, A = some ⟨g, o, none⟩ ∧ g < w.heap.size ∧ ∀ j, j < xs.length → w.cell? ⟨g, o + j, none⟩ = some (.int .i64 (xs.getD j 0))

theorem Ints.keep {w w' : World} {A : Option Addr} {c : Nat} {xs : List Int} (h : Ints w A c xs) (hb : Below w.heap.size w w') : Ints w' A c xs :=
  ⟨h.cap, fun h0 => by
    obtain ⟨g, o, e, hg, hc⟩ := h.row h0
    exact ⟨g, o, e, Nat.lt_of_lt_of_le hg hb.size, fun j hj => (hb.cell (p := ⟨g, o + j, none⟩) hg).trans (hc j hj)⟩⟩

theorem Ints.nil (w : World) : Ints w none 0 [] := ⟨Nat.le_refl _, by simp⟩

def addAll (ws : List Nat) (xs : List Int) : List Nat := xs.foldl (fun ws x => addW ws x.toNat) ws
def clearAll (ws : List Nat) (xs : List Int) : List Nat := xs.foldl (fun ws x => clearW ws x.toNat) ws

theorem addAll_succ (ws : List Nat) (xs : List Int) (j : Nat) (h : j < xs.length) : addAll ws (xs.take (j + 1)) = addW (addAll ws (xs.take j)) (xs.getD j 0).toNat := by
  unfold addAll
  rw [List.take_add_one, List.foldl_append]
  simp [h]
theorem clearAll_succ (ws : List Nat) (xs : List Int) (j : Nat) (h : j < xs.length) : clearAll ws (xs.take (j + 1)) = clearW (clearAll ws (xs.take j)) (xs.getD j 0).toNat := by
  unfold clearAll
  rw [List.take_add_one, List.foldl_append]
  simp [h]

/-- the numbers are from 0 to 200 -/
def In200 (xs : List Int) : Prop := ∀ j, 0 ≤ xs.getD j 0 ∧ xs.getD j 0 ≤ 200

theorem cell_of_heap {w : World} {g : Nat} {v : Value} {t : TypeId} {fr : Nat × Nat} (h : w.heap[g]? = some (.cells #[v] t fr)) : w.cell? ⟨g, 0, none⟩ = some v := by simp [World.cell?, h]

/-- while a set is made: the set, and the variable t that holds it -/
structure Mk (w0 : World) (t b : Nat) (wr : World) (ws : List Nat) : Prop where
  set : Bset w0.heap.size wr.heap.size wr b ws
  bel : Below w0.heap.size w0 wr
  blk : wr.heap[t]? = some (.cells #[.pointer (some ⟨b, 0, none⟩)] 48 (0, 0))
  ne : t ≠ b
  tle : w0.heap.size ≤ t

theorem heap_alloc_new (w : World) (c : Array Value) (t : TypeId) : (w.alloc (.cells c t)).heap[w.heap.size]? = some (.cells c t (0, 0)) := by
  show (w.heap.push _)[w.heap.size]? = _
  exact Array.getElem?_push_size

theorem mk_start {w0 w1 : World} {b : Nat} (hs : Bset w0.heap.size w1.heap.size w1 b []) (hb : Below w0.heap.size w0 w1) :
    Mk w0 w1.heap.size b (w1.alloc (.cells #[.pointer (some ⟨b, 0, none⟩)] 48)) [] :=
  ⟨(hs.keep (bl1 w1 _)).wide (by simp) (Nat.le_refl _), bl hb (bl1 w1 _), heap_alloc_new _ _ _, by have := hs.blt; omega, hb.size⟩

theorem Mk.step {w0 wr w' : World} {t b : Nat} {ws ws' : List Nat} (h : Mk w0 t b wr ws) (h1 : Bset w0.heap.size w'.heap.size w' b ws') (h2 : Below w0.heap.size wr w') (h3 : Fr b wr w') : Mk w0 t b w' ws' :=
  ⟨h1, h.bel.trans h2, (h3.2 t (Array.getElem?_eq_some_iff.1 h.blk).1 h.ne (by intro c fr; rw [h.blk]; simp)).trans h.blk, h.ne, h.tle⟩

theorem Bset.other {lo hi : Nat} {w w' : World} {b : Nat} {ws : List Nat} (h : Bset lo hi w b ws) (hs : w.heap.size ≤ w'.heap.size) (hk : ∀ i, lo ≤ i → i < hi → w'.heap[i]? = w.heap[i]?) : Bset lo hi w' b ws where
  blt := h.blt
  ble := h.ble
  top := Nat.le_trans h.top hs
  own := h.own.imp fun v ⟨t, hh⟩ => ⟨t, (hk _ h.ble h.blt).trans hh⟩
  len := h.len
  wd := h.wd
  row := by
    rcases h.row with ⟨a, b⟩ | ⟨a, d, c, h1, h2, h3, h4, h5, h6, h7⟩
    · exact .inl ⟨a, (World.cell?_of_block (hk _ h.ble h.blt)).trans b⟩
    · exact .inr ⟨a, d, c, h1, h2, h3, h4, h5, (World.cell?_of_block (hk _ h.ble h.blt)).trans h6, (hk _ h1 h2).trans h7⟩

set_option maxRecDepth 100000 in
set_option maxHeartbeats 800000 in
theorem make_any (A B : Option Addr) (ca cb : Nat) (xs ys : List Int) (w : World) (ha : Ints w A ca xs) (hb : Ints w B cb ys) (h2a : In200 xs) (h2b : In200 ys) (hla : xs.length ≤ 2147483647) (hlb : ys.length ≤ 2147483647) :
    Calls Tryd.prog 15 #[.slice A xs.length ca, .slice B ys.length cb] w fun e w' => (∃ b, e = .returned (.agg #[.pointer (some ⟨b, 0, none⟩)]) ∧ Bset w.heap.size w'.heap.size w' b (clearAll (addAll [] xs) ys)) ∧ Below w.heap.size w w' := by
  have HA := hid ha
  have HB := hid hb
  have H2A := hid h2a
  have H2B := hid h2b
  have HZ := hid znew_any
  have hca := ha.cap
  have hcb := hb.cap
  have hsa := addAll_succ [] xs
  have hsb := clearAll_succ (addAll [] xs) ys
  have hta : addAll [] (xs.take xs.length) = addAll [] xs := by rw [List.take_length]
  have htb : clearAll (addAll [] xs) (ys.take ys.length) = clearAll (addAll [] xs) ys := by rw [List.take_length]
  generalize hN : xs.length = N at *
  generalize hM : ys.length = M at *
  have HN := hid hN
  have HM := hid hM
  have HSA := hid hsa
  have HSB := hid hsb
  have HTA := hid hta
  have HTB := hid htb
  clear ha hb h2a h2b hN hM hsa hsb hta htb
  go_enter Tryd.func15, Tryd.ntmps15
  go_wp2_with (go_at_call 16; refine (HZ.out _).mono ?_; rintro e w1 ⟨b, rfl, hs, hbb⟩; have HMK := hid (mk_start hs hbb); clear hs hbb)
  generalize hw0 : w.alloc (.cells #[.pointer none] 48) = w0 at *
  have HW0 := hid hw0
  clear hw0
  generalize w1.heap.size = t at *
  go_loopg [13] N (fun k i wr => ∃ j : Nat, j + k = N ∧ i = .int .i64 j ∧ Mk w0 t b wr (addAll [] (xs.take j)))
  case atStart => exact ⟨0, by omega, rfl, HMK.out⟩
  case round =>
    obtain ⟨j, hj, rfl, hmk⟩ := hrel
    have hbw : Below w.heap.size w wr := (bl1 w (.cells #[.pointer none] 48)).trans (by rw [HW0.out]; exact hmk.bel.mono (by rw [← HW0.out]; simp))
    by_cases hlt : j < N
    · obtain ⟨g, o, rfl, hg, hcs⟩ := HA.out.row (by rw [HN.out]; omega)
      have r0 := (hbw.cell (p := ⟨g, o + j, none⟩) hg).trans (hcs j (by rw [HN.out]; exact hlt))
      have hs1 := HSA.out j hlt
      have h2 := H2A.out j
      obtain ⟨v, hv⟩ : ∃ v : Nat, xs.getD j 0 = v := ⟨(xs.getD j 0).toNat, by omega⟩
      rw [hv] at r0 hs1 h2
      rw [Int.toNat_natCast] at hs1
      have tc := cell_of_heap hmk.blk
      have HMK1 := hid hmk
      have HS1 := hid hs1
      have HAD := hid (zadd_any hmk.set v (by omega))
      clear hv hcs hs1 hmk hbw
      go_wp2_with (go_at_call 17; refine HAD.out.mono ?_; rintro e w2 ⟨rfl, hs, hbb, hff⟩; have HMK2 := hid (HMK1.out.step hs hbb hff); clear hs hbb hff)
      go_roundg (gk - 1)
      case measure => omega
      case rel => exact ⟨j + 1, by omega, by go_num, by rw [HS1.out]; exact HMK2.out⟩
    · have hjN : j = N := by omega
      subst hjN
      have HMK1 := hid hmk
      clear hmk hbw
      rw [HTA.out] at HMK1
      go_wp2_with fail
      go_loopg [23] M (fun k i wr => ∃ j : Nat, j + k = M ∧ i = .int .i64 j ∧ Mk w0 t b wr (clearAll (addAll [] xs) (ys.take j)))
      case atStart => exact ⟨0, by omega, rfl, HMK1.out⟩
      case round =>
        obtain ⟨j2, hj2, rfl, hmk⟩ := hrel
        have hbw : Below w.heap.size w wr := (bl1 w (.cells #[.pointer none] 48)).trans (by rw [HW0.out]; exact hmk.bel.mono (by rw [← HW0.out]; simp))
        by_cases hlt : j2 < M
        · obtain ⟨g, o, rfl, hg, hcs⟩ := HB.out.row (by rw [HM.out]; omega)
          have r0 := (hbw.cell (p := ⟨g, o + j2, none⟩) hg).trans (hcs j2 (by rw [HM.out]; exact hlt))
          have hs1 := HSB.out j2 hlt
          have h2 := H2B.out j2
          obtain ⟨v, hv⟩ : ∃ v : Nat, ys.getD j2 0 = v := ⟨(ys.getD j2 0).toNat, by omega⟩
          rw [hv] at r0 hs1 h2
          rw [Int.toNat_natCast] at hs1
          have tc := cell_of_heap hmk.blk
          have HMK3 := hid hmk
          have HS1 := hid hs1
          have HAD := hid (zremove_any hmk.set v (by omega))
          clear hv hcs hs1 hmk hbw
          go_wp2_with (go_at_call 18; refine HAD.out.mono ?_; rintro e w2 ⟨rfl, hs, hbb, hff⟩; have HMK2 := hid (HMK3.out.step hs hbb hff); clear hs hbb hff)
          go_roundg (gk - 1)
          case measure => omega
          case rel => exact ⟨j2 + 1, by omega, by go_num, by rw [HS1.out]; exact HMK2.out⟩
        · have hjM : j2 = M := by omega
          subst hjM
          have tc := cell_of_heap hmk.blk
          have hw0s : w.heap.size < w0.heap.size := by rw [← HW0.out]; simp
          have r4 : wr.heap[w.heap.size]? = some (.cells #[.pointer none] 48 (0, 0)) := (hmk.bel.block _ hw0s).trans (by rw [← HW0.out]; exact heap_alloc_new _ _ _)
          have c4 := cell_of_heap r4
          have f4 : wr.frozen? ⟨w.heap.size, 0, none⟩ = false := by simp [World.frozen?, r4]
          have HMK3 := hid hmk
          rw [HTB.out] at HMK3
          have HBW := hid hbw
          clear hmk hbw r4
          go_wp2_with fail
          have hsz : (wr.setCell ⟨w.heap.size, 0, none⟩ (.pointer (some ⟨b, 0, none⟩))).heap.size = wr.heap.size := by simp [World.setCell]
          refine bodyPost_ret (v := .agg #[.pointer (some ⟨b, 0, none⟩)]) (by simp [results, Tryd.results15, go_sem, c4]) rfl ⟨⟨b, rfl, ?_⟩, HBW.out.setCell (Nat.le_refl _) _⟩
          rw [hsz]
          refine (HMK3.out.set.other (by rw [hsz]; exact Nat.le_refl _) ?_).low (Nat.le_of_lt hw0s)
          intro i hi _
          exact Below.heap_setCell _ _ _ _ (by simp; omega)
end Go.Proofs.YtifoeehfblddcaaDoor
