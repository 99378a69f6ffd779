/- impl.Bits: telling a set -/
import Derived.Test.YtifoeehfblddcaaDoorL
import Derived.BigRegion
namespace Go.Proofs.YtifoeehfblddcaaDoor
open Go.RowKit

def tellLeast (ws : List Nat) : Nat := if popS ws ws.length = 0 then 0 else minV ws ws.length 0

/-- what a set tells -/
def hasCells (ws : List Nat) (zs : List Int) : List Value := zs.map fun z => .bool (bitN ws z.toNat)

theorem told_cells {X w3 : World} {c : Array Value} {t : TypeId} {g : Nat} (hg : X.heap.size = g) (hb : Below (X.alloc (.cells c t)).heap.size (X.alloc (.cells c t)) w3) : w3.heap[g]? = some (.cells c t (0, 0)) := by
  subst hg
  rw [hb.block _ (by simp)]
  exact heap_alloc_new _ _ _
theorem told_facts {w : World} {g : Nat} {c0 c1 c2 c3 : Value} {t : TypeId} (h : w.heap[g]? = some (.cells #[c0, c1, c2, c3] t (0, 0))) :
    w.cell? ⟨g, 0, none⟩ = some c0 ∧ w.cell? ⟨g, 1, none⟩ = some c1 ∧ w.cell? ⟨g, 2, none⟩ = some c2 ∧ w.cell? ⟨g, 3, none⟩ = some c3 ∧
    w.frozen? ⟨g, 0, none⟩ = false ∧ w.frozen? ⟨g, 1, none⟩ = false ∧ w.frozen? ⟨g, 2, none⟩ = false ∧ w.frozen? ⟨g, 3, none⟩ = false := by
  simp [World.cell?, World.frozen?, h]

theorem told_kk {W w3 w4 : World} {c : Array Value} {t : TypeId} {g : Nat} (hg : W.heap.size = g) (h3 : Below (W.alloc (.cells c t)).heap.size (W.alloc (.cells c t)) w3) (h4 : Below w3.heap.size w3 w4) : w4.heap[g]? = some (.cells c t (0, 0)) := by
  have h5 := told_cells hg h3
  rw [h4.block _ (Array.getElem?_eq_some_iff.1 h5).1]
  exact h5

/-- what is told so far, in its variable -/
structure Tl (wr : World) (g : Nat) (H l m s : Value) : Prop where
  c0 : wr.cell? ⟨g, 0, none⟩ = some H
  c1 : wr.cell? ⟨g, 1, none⟩ = some l
  c2 : wr.cell? ⟨g, 2, none⟩ = some m
  c3 : wr.cell? ⟨g, 3, none⟩ = some s
  fr : ∀ j, wr.frozen? ⟨g, j, none⟩ = false

theorem tl_of {w : World} {g : Nat} {a b c d : Value} {t : TypeId} (h : w.heap[g]? = some (.cells #[a, b, c, d] t (0, 0))) : Tl w g a b c d := by
  obtain ⟨k0, k1, k2, k3, _⟩ := told_facts h
  exact ⟨k0, k1, k2, k3, fun j => by simp [World.frozen?, h]⟩
theorem tl_new (w : World) (a b c d : Value) (t : TypeId) : Tl (w.alloc (.cells #[a, b, c, d] t)) w.heap.size a b c d := tl_of (heap_alloc_new _ _ _)
theorem tl_set {w : World} {g : Nat} {z0 z1 z2 z3 : Value} {t : TypeId} (h : w.heap[g]? = some (.cells #[z0, z1, z2, z3] t (0, 0))) (a b c d : Value) :
    Tl ((((w.setCell ⟨g, 0, none⟩ a).setCell ⟨g, 1, none⟩ b).setCell ⟨g, 2, none⟩ c).setCell ⟨g, 3, none⟩ d) g a b c d := by
  refine tl_of (t := t) ?_
  rw [heap_set (heap_set (heap_set (heap_set h 0 a) 1 b) 2 c) 3 d]
  simp

theorem Tl.keep {w w' : World} {g : Nat} {a b c d : Value} (h : Tl w g a b c d) (hb : Below w.heap.size w w') : Tl w' g a b c d := by
  have hg : g < w.heap.size := World.block_lt_of_cell? _ _ h.c0
  exact ⟨(hb.cell (p := ⟨g, 0, none⟩) hg).trans h.c0, (hb.cell (p := ⟨g, 1, none⟩) hg).trans h.c1, (hb.cell (p := ⟨g, 2, none⟩) hg).trans h.c2, (hb.cell (p := ⟨g, 3, none⟩) hg).trans h.c3, fun j => (hb.frozen (p := ⟨g, j, none⟩) hg).trans (h.fr j)⟩

theorem Tl.set2 {w : World} {g : Nat} {a b c d : Value} (h : Tl w g a b c d) (u : Value) : Tl (w.setCell ⟨g, 2, none⟩ u) g a b u d := by
  have := h.c2
  exact ⟨(World.cell?_setCell_other w _ _ _ (by simp)).trans h.c0, (World.cell?_setCell_other w _ _ _ (by simp)).trans h.c1, by simp [go_sem, this], (World.cell?_setCell_other w _ _ _ (by simp)).trans h.c3, fun j => by have := h.fr j; simp [go_sem, this]⟩
theorem Tl.set0 {w : World} {g : Nat} {a b c d : Value} (h : Tl w g a b c d) (u : Value) : Tl (w.setCell ⟨g, 0, none⟩ u) g u b c d := by
  have := h.c0
  exact ⟨by simp [go_sem, this], (World.cell?_setCell_other w _ _ _ (by simp)).trans h.c1, (World.cell?_setCell_other w _ _ _ (by simp)).trans h.c2, (World.cell?_setCell_other w _ _ _ (by simp)).trans h.c3, fun j => by have := h.fr j; simp [go_sem, this]⟩

theorem cell_new_bool (w : World) (s : Bool) (t : TypeId) (j : Nat) (u : Value) (h : [Value.bool s][j]? = some u) : (w.alloc (.cells #[.bool s] t)).cell? ((⟨w.heap.size, 0, none⟩ : Addr).add j) = some u := by
  have hj : j = 0 := by
    rcases Nat.eq_zero_or_pos j with h0 | h0
    · exact h0
    · rw [List.getElem?_eq_none (by simp; omega)] at h; cases h
  subst hj
  simp only [List.getElem?_cons_zero, Option.some.injEq] at h
  subst h
  have e : (⟨w.heap.size, 0, none⟩ : Addr).add 0 = ⟨w.heap.size, 0, none⟩ := by simp [Addr.add]
  rw [e]
  simp [World.cell?_alloc_new]
theorem grown_cell {a w : World} {row : Option Nat} (h : a.grownBy w row) {p : Addr} (hp : p.block < a.heap.size) (hn : some p.block ≠ row) : w.cell? p = a.cell? p := World.cell?_of_block (h.block _ hp hn)

theorem Tl.grown {w w' : World} {row : Option Nat} {g : Nat} {a b c d : Value} (h : Tl w g a b c d) (hb : w.grownBy w' row) (hne : some g ≠ row) : Tl w' g a b c d := by
  have hg : g < w.heap.size := World.block_lt_of_cell? _ _ h.c0
  have e := hb.block g hg hne
  exact ⟨(World.cell?_of_block (a := ⟨g, 0, none⟩) e).trans h.c0, (World.cell?_of_block (a := ⟨g, 1, none⟩) e).trans h.c1, (World.cell?_of_block (a := ⟨g, 2, none⟩) e).trans h.c2, (World.cell?_of_block (a := ⟨g, 3, none⟩) e).trans h.c3, fun j => (World.frozen?_of_block (a := ⟨g, j, none⟩) e).trans (h.fr j)⟩

theorem own_low {w : World} {base base' : Nat} {e : TypeId} {size : Nat} {v : Value} {n : Nat} {xs : List Value} (h : w.ownsRow base e size v n xs) (hb : base' ≤ base) : w.ownsRow base' e size v n xs :=
  ⟨h.1, h.2.imp id fun ⟨g, cap, cur, h1, h2, r⟩ => ⟨g, cap, cur, h1, Nat.le_trans hb h2, r⟩⟩

theorem own_set {w : World} {base : Nat} {e : TypeId} {size : Nat} {v : Value} {n : Nat} {xs : List Value} (h : w.ownsRow base e size v n xs) (p : Addr) (u : Value) (hne : v.ownBlock ≠ some p.block) : (w.setCell p u).ownsRow base e size v n xs :=
  h.kept (show w.grownBy (w.setCell p u) (some p.block) from ⟨rfl, rfl, rfl, by simp [World.setCell], fun i _ hi => Below.heap_setCell _ _ _ _ (fun e => hi (by rw [e]))⟩) (.inr hne)

theorem hasCells_succ (ws : List Nat) (zs : List Int) (j : Nat) (h : j < zs.length) : hasCells ws (zs.take (j + 1)) = hasCells ws (zs.take j) ++ [.bool (bitN ws (zs.getD j 0).toNat)] := by
  unfold hasCells
  rw [List.take_add_one, List.map_append]
  simp [h]
theorem info4 : (Tryd.prog.info? 4).map (fun i => (i.zero, i.size, i.bytes)) = some (some (.bool false), 1, 1) := by kernel_rfl

set_option maxRecDepth 100000 in
set_option maxHeartbeats 6400000 in
theorem tell_any {lo hi : Nat} (q b c : Nat) (A : Option Addr) (ws : List Nat) (zs : List Int) (w : World) (h : Bset lo hi w b ws) (hT : Tabs w) (hq : q < w.heap.size) (hqc : w.cell? ⟨q, 0, none⟩ = some (.slice A zs.length c)) (hz : Ints w A c zs) (hz3 : ∀ j, 0 ≤ zs.getD j 0 ∧ zs.getD j 0 ≤ 300) (hl : zs.length ≤ 1000) :
    Calls Tryd.prog 19 #[.agg #[.pointer (some ⟨b, 0, none⟩)], .pointer (some ⟨q, 0, none⟩)] w fun e w' => (∃ H s, e = .returned (.agg #[H, .int .i64 (popS ws ws.length : Nat), .int .i64 (tellLeast ws : Nat), .string s]) ∧ w'.ownsRow w.heap.size 4 1 H zs.length (hasCells ws zs)) ∧ Below w.heap.size w w' := by
  have h0 : 0 < w.heap.size := by omega
  have HLEN := hid (fun W (hb : Below w.heap.size w W) => zlength_any (h.keep (hb.mono h.top)))
  have HTXT := hid (fun W (hb : Below w.heap.size w W) => ztext_any (h.keep (hb.mono h.top)) (hT.keep h0 hb))
  have HLST := hid (fun W (hb : Below w.heap.size w W) => zleast_any (h.keep (hb.mono h.top)) (hT.keep h0 hb).tz)
  have HCON := hid (fun v (hv : v ≤ 1000) W (hb : Below w.heap.size w W) => zcontains_any (h.keep (hb.mono h.top)) v hv)
  have hpl := popS_le ws ws.length
  have hlen := h.len
  have HTL := hid (show tellLeast ws = if popS ws ws.length = 0 then 0 else minV ws ws.length 0 from rfl)
  generalize popS ws ws.length = p at *
  generalize minV ws ws.length 0 = mv at *
  have hcap := hz.cap
  have HZ := hid hz
  have HZ3 := hid hz3
  have hpb : p ≤ 1000 := by omega
  clear h hT hz hz3 hpl hlen
  have hhs := fun j (hj : j < zs.length) => hasCells_succ ws zs j hj
  have hht : hasCells ws (zs.take zs.length) = hasCells ws zs := by rw [List.take_length]
  obtain ⟨i0, hi0, hzz⟩ := Option.map_eq_some_iff.1 info4
  simp only [Prod.mk.injEq] at hzz
  obtain ⟨hz0, hz1, hz2⟩ := hzz
  have HHS := hid hhs
  have HHT := hid hht
  clear hhs hht
  go_enter Tryd.func19, Tryd.ntmps19
  go_upto_region 1 with fail
  have hB0 : Below w.heap.size w ((w.alloc (.cells #[.pointer (some ⟨b, 0, none⟩)] 48)).alloc (.cells #[.slice none 0 0, .int .i64 0, .int .i64 0, .string ⟨#[]⟩] 30)) := bl (bl1 w _) (bl1 _ _)
  have hcb : ((w.alloc (.cells #[.pointer (some ⟨b, 0, none⟩)] 48)).alloc (.cells #[.slice none 0 0, .int .i64 0, .int .i64 0, .string ⟨#[]⟩] 30)).cell? ⟨w.heap.size, 0, none⟩ = some (.pointer (some ⟨b, 0, none⟩)) := by
    rw [World.cell?_alloc_lt _ _ _ (by simp)]
    exact cell_of_heap (heap_alloc_new _ _ _)
  have ht3 : ((w.alloc (.cells #[.pointer (some ⟨b, 0, none⟩)] 48)).alloc (.cells #[.slice none 0 0, .int .i64 0, .int .i64 0, .string ⟨#[]⟩] 30)).heap[w.heap.size + 1]? = some (.cells #[.slice none 0 0, .int .i64 0, .int .i64 0, .string ⟨#[]⟩] 30 (0, 0)) := by
    have := heap_alloc_new (w.alloc (.cells #[.pointer (some ⟨b, 0, none⟩)] 48)) #[.slice none 0 0, .int .i64 0, .int .i64 0, .string ⟨#[]⟩] 30
    simpa using this
  have hsz0 : ((w.alloc (.cells #[.pointer (some ⟨b, 0, none⟩)] 48)).alloc (.cells #[.slice none 0 0, .int .i64 0, .int .i64 0, .string ⟨#[]⟩] 30)).heap.size = w.heap.size + 2 := by simp
  generalize hW0 : (w.alloc (.cells #[.pointer (some ⟨b, 0, none⟩)] 48)).alloc (.cells #[.slice none 0 0, .int .i64 0, .int .i64 0, .string ⟨#[]⟩] 30) = w0 at *
  have hqs : w.heap.size < w0.heap.size := by omega
  have hqs1 : w.heap.size + 1 < w0.heap.size := by omega
  have hws : w.heap.size ≤ w0.heap.size := by omega
  have HSZ0 := hid hsz0
  have HT3 := hid ht3
  clear hsz0 hW0 ht3
  go_cut [4] (fun a wx => ∃ g s, a = .pointer (some ⟨g, 0, none⟩) ∧ Tl wx g (.slice none 0 0) (.int .i64 (p : Nat)) (.int .i64 0) (.string s) ∧ Below w0.heap.size w0 wx ∧ w0.heap.size ≤ g)
  case first =>
    have D0 := hid ((Below.refl w0.heap.size w0).drew)
    go_region_with (first
      | (go_at_call 20; refine (HLEN.out _ (by first | exact hB0.drew | exact hB0.drew.alloc hws _)).mono ?_; rintro e w3 ⟨rfl, hb3⟩; have hs3 := hb3.size; have hq3 : w.heap.size < w3.heap.size := Nat.lt_of_lt_of_le hqs (Nat.le_trans (by simp) hs3); have hc3 := hb3.cell (p := ⟨w.heap.size, 0, none⟩) (by simp; omega); have hn3 : w3.heap.size ≠ w.heap.size := Nat.ne_of_gt hq3)
      | (go_at_call 21; refine (HTXT.out _ (by first | exact bl hB0.drew hb3 | exact (bl hB0.drew hb3).alloc (by simp at *; omega) _ | exact bl (hB0.drew.alloc hws _) hb3)).mono ?_; rintro e w4 ⟨⟨s, rfl⟩, hb4⟩; have hs4 := hb4.size;
         (try (have hk := told_facts (told_kk (W := w0.drew) (c := #[.slice none 0 0, .int .i64 0, .int .i64 0, .string ⟨#[]⟩]) (t := 30) (g := w0.heap.size) rfl hb3 hb4); obtain ⟨j0, j1, j2, j3, j4, j5, j6, j7⟩ := hk));
         (try (have hk := told_facts (told_cells (X := w3) (c := #[.slice none 0 0, .int .i64 0, .int .i64 0, .string ⟨#[]⟩]) (t := 30) (g := w3.heap.size) rfl hb4); obtain ⟨j0, j1, j2, j3, j4, j5, j6, j7⟩ := hk))))
    all_goals
      go_wp2_with fail
      go_meet
      first
      | exact ⟨w4.heap.size, s, rfl, tl_new w4 _ _ _ _ _, bl (bl (bl D0.out hb3) hb4) (bl1 w4 _), (bl (bl D0.out hb3) hb4).size⟩
      | exact ⟨w3.heap.size, s, rfl, tl_set (told_cells (X := w3) (c := #[.slice none 0 0, .int .i64 0, .int .i64 0, .string ⟨#[]⟩]) (t := 30) rfl hb4) _ _ _ _, ((((bl (bl (bl D0.out hb3) (bl1 w3 _)) hb4).setCell (bl D0.out hb3).size _).setCell (bl D0.out hb3).size _).setCell (bl D0.out hb3).size _).setCell (bl D0.out hb3).size _, (bl D0.out hb3).size⟩
      | exact ⟨w0.heap.size, s, rfl, tl_set (told_kk (W := w0.drew) (c := #[.slice none 0 0, .int .i64 0, .int .i64 0, .string ⟨#[]⟩]) (t := 30) rfl hb3 hb4) _ _ _ _, ((((bl (bl ((bl1 w0 _).drew) hb3) hb4).setCell (Nat.le_refl _) _).setCell (Nat.le_refl _) _).setCell (Nat.le_refl _) _).setCell (Nat.le_refl _) _, Nat.le_refl _⟩
  case rest =>
    obtain ⟨g, s, rfl, htl, hbx, hg⟩ := hcut
    have HBX := hid hbx
    have hcbx := (hbx.cell (p := ⟨w.heap.size, 0, none⟩) hqs).trans hcb
    have c1 := htl.c1
    have HTLX := hid htl
    clear hbx htl
    go_upto_if 14 with fail
    go_cut [18] (fun _ wy => Tl wy g (.slice none 0 0) (.int .i64 (p : Nat)) (.int .i64 (tellLeast ws : Nat)) (.string s) ∧ Below w0.heap.size w0 wy)
    case first =>
      have hbw := bl hB0 HBX.out
      have HBW := hid hbw
      clear hbw
      by_cases hp0 : p = 0
      · have e := HTL.out
        rw [if_pos hp0] at e
        have HE := hid e
        subst hp0
        clear e
        go_wp2_with fail
        go_meet
        exact ⟨by rw [HE.out]; exact HTLX.out, HBX.out⟩
      · have e := HTL.out
        rw [if_neg hp0] at e
        have HE := hid e
        have hpp : (0 : Int) < (p : Int) := by omega
        clear e hp0
        go_wp2_with (go_at_call 22; refine (HLST.out _ HBW.out).mono ?_; rintro e w5 ⟨rfl, hb5⟩; have t5 := HTLX.out.keep hb5; have c25 := t5.c2; have f25 := t5.fr 2; have HT5 := hid t5; have HB5 := hid hb5; clear t5 hb5)
        go_meet
        exact ⟨by rw [HE.out]; exact HT5.out.set2 _, (bl HBX.out HB5.out).setCell hg _⟩
    case rest =>
      obtain ⟨htl, hby⟩ := hcut
      have hbw := bl hB0 hby
      have hqy := (hbw.cell (p := ⟨q, 0, none⟩) hq).trans hqc
      have HTLY := hid htl
      have HBY := hid hby
      clear htl hby hbw
      generalize hN : zs.length = N at *
      have HNN := hid hN
      clear hN
      go_wp2_with fail
      go_loopg [20] N (fun k i wr => ∃ j : Nat, j + k = N ∧ i = .int .i64 j ∧ ∃ H, Tl wr g H (.int .i64 (p : Nat)) (.int .i64 (tellLeast ws : Nat)) (.string s) ∧ wr.ownsRow w0.heap.size 4 1 H j (hasCells ws (zs.take j)) ∧ Below w0.heap.size w0 wr ∧ H.ownBlock ≠ some g ∧ H.ownBlock ≠ some w.heap.size)
      case atStart => exact ⟨0, by omega, rfl, .slice none 0 0, HTLY.out, World.ownsRow_nil _ _ _ _, HBY.out, by simp [Value.ownBlock], by simp [Value.ownBlock]⟩
      case round =>
        obtain ⟨j, hj, rfl, H, htl, hown, hbr, hne, hne2⟩ := hrel
        have hbw := bl hB0 hbr
        by_cases hlt : j < N
        · obtain ⟨ga, o, rfl, hga, hcs⟩ := HZ.out.row (by rw [HNN.out]; omega)
          have r0 := (hbw.cell (p := ⟨ga, o + j, none⟩) hga).trans (hcs j (by rw [HNN.out]; exact hlt))
          have hs1 := HHS.out j hlt
          have h3 := HZ3.out j
          obtain ⟨v, hv⟩ : ∃ v : Nat, zs.getD j 0 = v := ⟨(zs.getD j 0).toNat, by omega⟩
          rw [hv] at r0 hs1 h3
          rw [Int.toNat_natCast] at hs1
          have c0 := htl.c0
          have hcbr := (hbr.cell (p := ⟨w.heap.size, 0, none⟩) hqs).trans hcb
          have HTLR := hid htl
          have HOWN := hid hown
          have HBR := hid hbr
          have HBW := hid hbw
          have HS1 := hid hs1
          have hv300 : v ≤ 1000 := by omega
          have HV := hid hv
          have hgl : g < wr.heap.size := World.block_lt_of_cell? _ _ c0
          have hwl : w.heap.size < wr.heap.size := World.block_lt_of_cell? _ _ hcbr
          have K := hid (fun W (hb : Below wr.heap.size wr W) => (⟨(hb.cell (p := ⟨g, 0, none⟩) hgl).trans c0, (hb.cell (p := ⟨w.heap.size, 0, none⟩) hwl).trans hcbr, (hb.frozen (p := ⟨g, 0, none⟩) hgl).trans (HTLR.out.fr 0)⟩ : W.cell? ⟨g, 0, none⟩ = some H ∧ W.cell? ⟨w.heap.size, 0, none⟩ = some (.pointer (some ⟨b, 0, none⟩)) ∧ W.frozen? ⟨g, 0, none⟩ = false))
          have D := hid ((Below.refl wr.heap.size wr).drew)
          have HNE := hid hne
          have HNE2 := hid hne2
          have hj1 : j + 1 ≤ maxLen := by unfold maxLen; omega
          have hj2 : (j + 1) * 1 ≤ 140737488355328 := by omega
          clear htl hown hbr hbw hs1 hv hcs h3 hne hne2
          go_wp2_with fail
          obtain ⟨kd0, kd1, kd2⟩ := K.out _ D.out
          have HKD := hid (And.intro kd0 (And.intro kd1 kd2))
          clear kd0 kd1 kd2
          go_region_law (first
              | (refine step_append_lies _ (by rfl) _ _ _ (by rfl) w0.heap.size 4 i0 _ 1 1 Tryd.underlying28 hi0 hz0 hz1 hz2 rfl (by omega) H j (hasCells ws (zs.take j)) (by rfl) ((own_below HOWN.out (bl D.out HB3.out)).alloc _)
                   ⟨w3.heap.size, 0, none⟩ 1 1 [.bool (bitN ws v)] (by rfl) (by rfl) (cell_new_bool w3 (bitN ws v) 4) (by simp [Value.oneCell']) (by omega) hj1 hj2 (by simp; omega) (w3.heap.size + 1) (by simp) ?_
                 intro gg cap w5 hown5 hgrow hat hlt5
                 have hc5 := (grown_cell (p := ⟨g, 0, none⟩) hgrow (by simp; omega) (Ne.symm HNE.out)).trans (K.out _ (bl (bl D.out HB3.out) (bl1 _ _))).1
                 have hf5 := (World.frozen?_of_block (a := ⟨g, 0, none⟩) (hgrow.block g (by simp; omega) (Ne.symm HNE.out))).trans (K.out _ (bl (bl D.out HB3.out) (bl1 _ _))).2.2)
              | (go_simp
                 go_at_call 23
                 refine (HCON.out v hv300 _ (bl HBW.out D.out)).mono ?_
                 rintro e w3 ⟨rfl, hb3⟩
                 have HB3 := hid hb3
                 have hs3 : wr.heap.size ≤ w3.heap.size := hb3.size
                 have hk3 := (K.out _ (bl D.out hb3)).1
                 have hk4 := (K.out _ (bl D.out hb3)).2.1
                 have hk5 := (K.out _ (bl (bl D.out hb3) (bl1 _ (.cells #[.bool (bitN ws v)] 4)))).1
                 clear hb3))
          all_goals
            go_wp2_with fail
            go_roundg (gk - 1)
            case measure => omega
            case rel =>
              have hgg : gg ≠ g ∧ gg ≠ w.heap.size := by
                rcases hat with h | h
                · exact ⟨fun e => HNE.out (by rw [h, e]), fun e => HNE2.out (by rw [h, e])⟩
                · exact ⟨by omega, by omega⟩
              have hb3 := bl D.out HB3.out
              have hb4 := bl hb3 (bl1 w3 (.cells #[.bool (bitN ws v)] 4))
              have hbr : Below w0.heap.size w0 (w3.alloc (.cells #[.bool (bitN ws v)] 4)) := bl HBR.out hb4
              refine ⟨j + 1, by omega, by go_num, _, ((HTLR.out.keep hb4).grown hgrow (Ne.symm HNE.out)).set0 _, ?_, (hbr.grown hgrow hbr.size (fun k hk => (HOWN.out.lt k hk).1)).setCell hg _, by simp [Value.ownBlock, hgg.1], by simp [Value.ownBlock, hgg.2]⟩
              rw [HS1.out]
              exact own_set hown5 _ _ (by simp [Value.ownBlock, hgg.1])
        · have hjN : j = N := by omega
          subst hjN
          obtain ⟨HA, hn1, hc1, rfl⟩ : ∃ HA hn hc, H = .slice HA hn hc := by
            rcases hown.2 with ⟨e, _⟩ | ⟨_, _, _, e, _⟩ <;> exact ⟨_, _, _, e⟩
          have hr3 := told_facts ((hbr.block _ hqs1).trans HT3.out)
          obtain ⟨z0, z1, z2, z3, z4, z5, z6, z7⟩ := hr3
          have k0 := htl.c0
          have k1 := htl.c1
          have k2 := htl.c2
          have k3 := htl.c3
          have HOWN := hid hown
          have HBW := hid hbw
          have HNE := hid hne
          clear hown hbw hne hbr hne2
          go_wp2_with fail
          refine bodyPost_ret (v := .agg #[.slice HA hn1 hc1, .int .i64 (p : Nat), .int .i64 (tellLeast ws : Nat), .string s]) (by simp [results, Tryd.results19, go_sem, z0, z1, z2, z3]) rfl ⟨⟨_, s, rfl, ?_⟩, ?_⟩
          · have ho := own_low HOWN.out hws
            rw [HHT.out] at ho
            have hlo := HOWN.out.lt
            have hnb : (Value.slice HA hn1 hc1).ownBlock ≠ some (w.heap.size + 1) := fun e => by have := (hlo _ e).1; omega
            rw [HNN.out]
            refine own_set (own_set (own_set (own_set ho _ _ ?_) _ _ ?_) _ _ ?_) _ _ ?_ <;> exact hnb
          · have h1 : w.heap.size ≤ w.heap.size + 1 := Nat.le_succ _
            exact (((HBW.out.setCell h1 _).setCell h1 _).setCell h1 _).setCell h1 _
end Go.Proofs.YtifoeehfblddcaaDoor
