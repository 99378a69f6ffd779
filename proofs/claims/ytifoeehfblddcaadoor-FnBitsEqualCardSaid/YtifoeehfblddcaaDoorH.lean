/- the bit set: or -/
import Derived.Test.YtifoeehfblddcaaDoorG
import Derived.Deep.DeepCutAuto
import Derived.Deep.CutBlock
namespace Go.Proofs.YtifoeehfblddcaaDoor
open Go.RowKit

/-- or's words, behind k rounds -/
def orL (g ss : List Nat) : Nat → List Nat
  | 0 => g
  | k + 1 => (orL g ss k).set k ((orL g ss k).getD k 0 ||| ss.getD k 0)

theorem orL_len (g ss : List Nat) : ∀ k, (orL g ss k).length = g.length
  | 0 => rfl
  | k + 1 => by simp [orL, orL_len g ss k]

theorem orL_get (g ss : List Nat) : ∀ k j, k ≤ g.length → (orL g ss k).getD j 0 = if j < k then g.getD j 0 ||| ss.getD j 0 else g.getD j 0
  | 0, j, _ => by simp [orL]
  | k + 1, j, h => by
    unfold orL
    rw [getD_set, orL_get g ss k j (by omega), orL_get g ss k k (by omega), orL_len]
    by_cases hj : k = j
    · subst hj; simp [show k < g.length by omega]
    · by_cases h2 : j < k
      · simp [hj, h2, show j < k + 1 by omega]
      · simp [hj, h2, show ¬ j < k + 1 by omega]

def orW (us ss : List Nat) : List Nat := orL (growW us (max (minL us us.length) (minL ss ss.length))) ss (minL ss ss.length)

theorem orv (x y : Nat) (hx : x < 18446744073709551616) (hy : y < 18446744073709551616) : bits BinOp.or IntKind.u64 (x : Int) (y : Int) = ((x ||| y : Nat) : Int) := u64_or_nat x y hx hy

/-- a word stored -/
theorem Bset.setw {lo hi : Nat} {w : World} {b : Nat} {ws : List Nat} (h : Bset lo hi w b ws) {d c : Nat} (hc : w.cell? ⟨b, 0, none⟩ = some (.slice (some ⟨d, 0, none⟩) ws.length c)) (k x : Nat) (hk : k < ws.length) (hx : x < 18446744073709551616) :
    Bset lo hi (w.setCell ⟨d, k, none⟩ (.int .u64 (x : Int))) b (ws.set k x) ∧ lo ≤ d ∧ d < hi := by
  rcases h.row with ⟨rfl, _⟩ | ⟨hpos, d', c', h1, h2, h3, h4, h5, h6, h7⟩
  · simp at hk
  · have e := hc.symm.trans h6
    simp only [Option.some.injEq, Value.slice.injEq, Addr.mk.injEq] at e
    obtain ⟨⟨rfl, _⟩, _, rfl⟩ := e
    have hg4 := heap_set h7 k (.int .u64 (x : Int))
    rw [wcells_set] at hg4
    have hs2 : (w.setCell ⟨d, k, none⟩ (.int .u64 (x : Int))).heap.size = w.heap.size := by simp [World.setCell]
    have hb4 : (w.setCell ⟨d, k, none⟩ (.int .u64 (x : Int))).heap[b]? = w.heap[b]? := Below.heap_setCell _ _ _ _ (by simp; omega)
    generalize w.setCell ⟨d, k, none⟩ (.int .u64 (x : Int)) = w4 at *
    obtain ⟨v0, t, ho⟩ := h.own
    have htop := h.top
    refine ⟨⟨h.blt, h.ble, by omega, ⟨_, t, hb4.trans ho⟩, by simp [h.len], ?_, .inr ⟨by simp; exact hpos, d, c, h1, h2, h3, by simp [h4], h5, ?_, hg4⟩⟩, h1, h2⟩
    · intro j
      rw [getD_set]
      split
      · exact hx
      · exact h.wd j
    · rw [World.cell?_of_block (a := ⟨b, 0, none⟩) hb4, h6]; simp

theorem Bset.drew {lo hi : Nat} {w : World} {b : Nat} {ws : List Nat} (h : Bset lo hi w b ws) : Bset lo hi w.drew b ws :=
  h.keep ((Below.refl _ _).drew)

/-- words grown: the new row laid into the set -/
theorem Bset.grown {lo hi : Nat} {w : World} {b : Nat} {ws : List Nat} (h : Bset lo hi w b ws) (n : Nat) (hn : ws.length ≤ n) (hn4 : n ≤ 4) (h0 : 0 < n) {w2 : World} (hg : w2.heap[w.heap.size]? = some (.cells (wcells (growW ws n)).toArray 98 (0, 0))) (hb2 : Below w.heap.size w w2) :
    Bset lo w2.heap.size (w2.setCell ⟨b, 0, none⟩ (.slice (some ⟨w.heap.size, 0, none⟩) n n)) b (growW ws n) ∧ Below lo w (w2.setCell ⟨b, 0, none⟩ (.slice (some ⟨w.heap.size, 0, none⟩) n n)) := by
  have hblt := Nat.lt_of_lt_of_le h.blt h.top
  have hgs : w.heap.size < w2.heap.size := (Array.getElem?_eq_some_iff.1 hg).1
  have hle := h.ble
  have hlenG := growW_len ws n hn
  have hg2 : (w2.setCell ⟨b, 0, none⟩ (.slice (some ⟨w.heap.size, 0, none⟩) n n)).heap[w.heap.size]? = some (.cells (wcells (growW ws n)).toArray 98 (0, 0)) := by
    rw [Below.heap_setCell _ _ _ _ (by simp; omega)]
    exact hg
  obtain ⟨v0, t, ho⟩ := h.own
  have hb3 := heap_set ((hb2.block b hblt).trans ho) 0 (.slice (some ⟨w.heap.size, 0, none⟩) n n)
  have hbel : Below lo w (w2.setCell ⟨b, 0, none⟩ (.slice (some ⟨w.heap.size, 0, none⟩) n n)) := ((hb2.mono (by omega)).setCell hle _)
  have hs1 : (w2.setCell ⟨b, 0, none⟩ (.slice (some ⟨w.heap.size, 0, none⟩) n n)).heap.size = w2.heap.size := by simp [World.setCell]
  generalize w2.setCell ⟨b, 0, none⟩ (.slice (some ⟨w.heap.size, 0, none⟩) n n) = w3 at *
  refine ⟨⟨by omega, hle, by omega, ⟨_, t, hb3⟩, by omega, ?_, .inr ⟨by omega, w.heap.size, n, by have := h.blt; have := h.top; omega, by omega, by omega, by omega, by omega, ?_, hg2⟩⟩, hbel⟩
  · intro j; rw [growW_get]; exact h.wd j
  · simp [World.cell?, hb3, hlenG]

theorem Bset.wide {lo hi hi' : Nat} {w : World} {b : Nat} {ws : List Nat} (h : Bset lo hi w b ws) (h1 : hi ≤ hi') (h2 : hi' ≤ w.heap.size) : Bset lo hi' w b ws :=
  ⟨Nat.lt_of_lt_of_le h.blt h1, h.ble, h2, h.own, h.len, h.wd, h.row.imp id fun ⟨a, d, c, k1, k2, k3, k4, k5, k6, k7⟩ => ⟨a, d, c, k1, by omega, k3, k4, k5, k6, k7⟩⟩

set_option maxRecDepth 100000 in
set_option maxHeartbeats 1600000 in
theorem or_any {lo hi lo' : Nat} {w : World} {b b' : Nat} {us ss : List Nat} (h : Bset lo hi w b us) (h' : Bset lo' lo w b' ss) :
    Calls Tryd.prog 39 #[.pointer (some ⟨b, 0, none⟩), .pointer (some ⟨b', 0, none⟩)] w fun e w' => e = .returned (.tuple #[]) ∧ Bset lo w'.heap.size w' b (orW us ss) ∧ Below lo w w' ∧ Fr b w w' := by
  have HL := hid (minlen_any h)
  have HL' := hid (minlen_any h')
  have hm := minL_le us us.length
  have hs := minL_le ss ss.length
  have hlen := h.len
  have hlen' := h'.len
  have HO := hid (show orW us ss = orL (growW us (max (minL us us.length) (minL ss ss.length))) ss (minL ss ss.length) from rfl)
  generalize hme : minL us us.length = m at *
  generalize hse : minL ss ss.length = s at *
  have HX := hid (max_any m s w (by omega) (by omega))
  have hmax : max m s ≤ 4 := by omega
  generalize hn : max m s = n at *
  obtain ⟨A, d, c, hc, hcl, hc4, hA, hcells⟩ := h.read
  have hfr := h.fr
  have hblt := Nat.lt_of_lt_of_le h.blt h.top
  have hne : b ≠ w.heap.size := by omega
  have H := hid h
  have H' := hid h'
  have hsn : s ≤ n := by omega
  have hgl : n ≤ (growW us n).length := by simp [growW]; omega
  have hrow : 0 < us.length → ∃ d, A = some ⟨d, 0, none⟩ ∧ d < w.heap.size ∧ ∀ j, j < us.length → w.cell? ⟨d, j, none⟩ = some (.int .u64 ((us.getD j 0 : Nat) : Int)) := by
    intro h0
    rcases h.row with ⟨rfl, _⟩ | ⟨_, d', c', h1, h2, h3, h4, h5, h6, h7⟩
    · simp at h0
    · rw [hc] at h6
      simp only [Option.some.injEq, Value.slice.injEq] at h6
      exact ⟨d', h6.1, Nat.lt_of_lt_of_le h2 h.top, fun j hj => wcell h7 j hj⟩
  have HR := hid hrow
  have HE1 := hid hme
  have HE2 := hid hse
  have HN := hid hn
  clear h h' hme hse hn hcells hA hrow
  go_enter Tryd.func39, Tryd.ntmps39
  go_upto_if 22 with (first | (go_at_call_of 62 (Value.pointer (some ⟨b, 0, none⟩)); refine HL.out.mono ?_; rintro e w2 ⟨rfl, rfl⟩) | (go_at_call_of 62 (Value.pointer (some ⟨b', 0, none⟩)); refine HL'.out.mono ?_; rintro e w2 ⟨rfl, rfl⟩) | (go_at_call 63; refine HX.out.mono ?_; rintro e w2 ⟨rfl, rfl⟩))
  go_cut [7] (fun _ wx => Bset lo wx.heap.size wx b (growW us n) ∧ Below lo w wx ∧ Fr b w wx)
  case first =>
    by_cases hgr : us.length < n
    · have hd : decide (us.length < n) = true := by simp [hgr]
      have hn0 : 0 < n := by omega
      have hmk := fun W => run_make_row' (P := Tryd.prog) 94 98 (.int .u64 0) 8 Tryd.underlying94 info98 rfl .i64 .i64 n (by omega) (by omega) W
      obtain ⟨w2, hcopy, hg3, hb2⟩ := copy_grow n c A us w (by omega) HR.out
      have hc2 := (hb2.cell (p := ⟨b, 0, none⟩) hblt).trans hc
      have hf2 := (hb2.frozen (p := ⟨b, 0, none⟩) hblt).trans hfr
      obtain ⟨g1, g2⟩ := H.out.grown n (by omega) hmax hn0 hg3 hb2
      have hs1 : (w2.setCell ⟨b, 0, none⟩ (.slice (some ⟨w.heap.size, 0, none⟩) n n)).heap.size = w2.heap.size := by simp [World.setCell]
      have G1 := hid (hs1 ▸ g1)
      have G2 := hid g2
      have G3 := hid (show Fr b w _ from (Fr.of_below hb2).trans (Fr.setb w2 0 (.slice (some ⟨w.heap.size, 0, none⟩) n n)))
      clear g1 g2 hs1 hg3 hb2
      go_wp2_with fail
      go_meet
      exact ⟨G1.out, G2.out, G3.out⟩
    · have hd : decide (us.length < n) = false := by simp [hgr]
      have e : growW us n = us := growW_same us n (by omega)
      have HE := hid e
      clear e
      go_wp2_with fail
      go_meet
      exact ⟨by rw [HE.out]; exact H.out.wide H.out.top (Nat.le_refl _), Below.refl _ _, Fr.of_below (Below.refl _ _)⟩
  case rest =>
    obtain ⟨hB, hbel, hfr0⟩ := hcut
    have HFR0 := hid hfr0
    have HB := hid hB
    have HBL := hid hbel
    clear hB hbel hfr0
    go_wp2_with fail
    go_loopg [8] s (fun k i wr => ∃ j : Nat, j + k = s ∧ i = .int .i64 j ∧ Bset lo wr.heap.size wr b (orL (growW us n) ss j) ∧ Below lo w wr ∧ Fr b w wr)
    case atStart => exact ⟨0, by omega, rfl, HB.out, HBL.out, HFR0.out⟩
    case round =>
      obtain ⟨j, hj, rfl, hB, hbel, hfr1⟩ := hrel
      have HFR1 := hid hfr1
      clear hfr1
      by_cases hlt : j < s
      · obtain ⟨A1, d1, c1, q1, q2, q3, q4, q5⟩ := hB.read
        have hl1 := orL_len (growW us n) ss j
        have hx := hB.wd j
        obtain ⟨A2, d2, c2, r1, r2, r3, r4, r5⟩ := (H'.out.keep hbel).read
        have hy := H'.out.wd j
        obtain rfl := q4 (by omega)
        obtain rfl := r4 (by omega)
        have p1 := q5 j (by omega)
        have p2 := r5 j (by omega)
        have hwr := hid (hB.drew.setw (w := wr.drew) q1 j ((orL (growW us n) ss j).getD j 0 ||| ss.getD j 0) (by omega) (Nat.or_lt_two_pow (n := 64) hx hy))
        have ho := orv _ _ hx hy
        have hB' := hid hB
        have hfz : wr.frozen? ⟨d1, j, none⟩ = false := by
          rcases hB.row with ⟨e, _⟩ | ⟨_, d', c', h1, h2, h3, h4, h5, h6, h7⟩
          · rw [e] at hl1; simp at hl1; omega
          · have e := q1.symm.trans h6
            simp only [Option.some.injEq, Value.slice.injEq, Addr.mk.injEq] at e
            obtain ⟨⟨rfl, _⟩, _, rfl⟩ := e
            exact wfroz h7 j
        have hrow1 : ∃ cc fr, wr.heap[d1]? = some (.cells cc 98 fr) := by
          rcases hB.row with ⟨e, _⟩ | ⟨_, d', c', h1, h2, h3, h4, h5, h6, h7⟩
          · rw [e] at hl1; simp at hl1; omega
          · have e := q1.symm.trans h6
            simp only [Option.some.injEq, Value.slice.injEq, Addr.mk.injEq] at e
            obtain ⟨⟨rfl, _⟩, _, rfl⟩ := e
            exact ⟨_, _, h7⟩
        have HROW := hid hrow1
        have hle1 : j < (orL (growW us n) ss j).length := by omega
        have HBL := hid hbel
        have HS := hid (show orL (growW us n) ss (j + 1) = (orL (growW us n) ss j).set j ((orL (growW us n) ss j).getD j 0 ||| ss.getD j 0) from rfl)
        clear hB hbel q5 r5 hl1 hrow1
        generalize (orL (growW us n) ss j).length = L1 at *
        generalize hLs : ss.length = L2 at *
        have hj1 : (j : Int) < (L1 : Int) := by omega
        have hj2 : (j : Int) < (L2 : Int) := by omega
        have hj0 : (0 : Int) ≤ (j : Int) := by omega
        generalize (orL (growW us n) ss j).getD j 0 = x at *
        generalize ss.getD j 0 = y at *
        clear hx hy
        go_wp2_with fail
        go_still_tail 16, (by kernel_rfl)
        change wpList _ _ _ _ _ wr.drew
        go_wp2_with fail
        go_roundg (gk - 1)
        case measure => omega
        case rel => 
          obtain ⟨z1, z2, z3⟩ := hwr.out
          have hs1 : (wr.drew.setCell ⟨d1, j, none⟩ (.int .u64 ((x ||| y : Nat) : Int))).heap.size = wr.heap.size := by simp [World.setCell]
          refine ⟨j + 1, by omega, by go_num, ?_, ?_, ?_⟩
          · rw [HS.out]
            exact z1.wide (by simp [World.setCell]) (Nat.le_refl _)
          · exact (HBL.out.drew).setCell z2 _
          · obtain ⟨cc, fr, h7⟩ := HROW.out
            exact (HFR1.out.trans (show Fr b wr wr.drew from ⟨Nat.le_refl _, fun _ _ _ _ => rfl⟩)).trans (Fr.setrow (w := wr.drew) h7 _ _)
      · have hjN : j = s := by omega
        have HB := hid hB
        have HBL := hid hbel
        clear hB hbel
        subst hjN
        go_wp2_with fail
        go_end0
        exact ⟨rfl, by rw [HO.out]; exact HB.out, HBL.out, HFR1.out⟩
end Go.Proofs.YtifoeehfblddcaaDoor
