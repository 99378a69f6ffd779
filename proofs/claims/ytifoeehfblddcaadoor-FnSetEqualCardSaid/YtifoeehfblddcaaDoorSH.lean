/- laws.setAwake -/
import Derived.Test.YtifoeehfblddcaaDoorSG
namespace Go.Proofs.YtifoeehfblddcaaDoor
open Go.RowKit

set_option maxHeartbeats 800000 in
/-- slices.Equal on bools -/
theorem eqb_any (g1 o1 c1 g2 o2 c2 N : Nat) (f : Nat → Bool) (w : World) (h1 : ∀ j, j < N → w.cell? ⟨g1, o1 + j, none⟩ = some (.bool (f j))) (h2 : ∀ j, j < N → w.cell? ⟨g2, o2 + j, none⟩ = some (.bool (f j))) (hc1 : N ≤ c1) (hc2 : N ≤ c2) (hN : N ≤ 1000) :
    Calls Tryd.prog 14 #[.slice (some ⟨g1, o1, none⟩) N c1, .slice (some ⟨g2, o2, none⟩) N c2] w fun e w' => e = .returned (.bool true) ∧ ∃ n, w' = w.drewN n := by
  have H1 := hid h1
  have H2 := hid h2
  clear h1 h2
  go_enter Tryd.func14, Tryd.ntmps14
  go_wp2_with fail
  go_loopg [13] N (fun k i wr => ∃ j : Nat, j + k = N ∧ i = .int .i64 j ∧ ∃ q, wr = w.drewN q)
  case atStart => exact ⟨0, by omega, rfl, 0, rfl⟩
  case round =>
    obtain ⟨j, hj, rfl, q, rfl⟩ := hrel
    by_cases hlt : j < N
    · have r1 := H1.out j hlt
      have r2 := H2.out j hlt
      have hj1 : (j : Int) < (N : Int) := by omega
      have hj0 : (0 : Int) ≤ (j : Int) := by omega
      generalize f j = bv at *
      go_wp2_with fail
      go_quiet (fail)
      go_wp2_with fail
      go_roundg (gk - 1)
      case measure => omega
      case rel => exact ⟨j + 1, by omega, by go_num, q + nq, rfl⟩
    · have hjN : j = N := by omega
      subst hjN
      go_wp2_with fail
      go_ret
      exact ⟨rfl, q, rfl⟩

/-- the set behind the one step -/
def Fa : FS := updF F0 0 (fAdd (F0 0) 3 (5 + 1))
theorem fa_ok : fAddOk (F0 0) 3 5 = true := by
  unfold fAddOk joinsB
  rw [show runsI (F0 0) 141 = [] from runs_none 141]
  decide
theorem fa_steps : stepsF F0 [⟨1, 0, 3, 5⟩] = some Fa := by
  have h : stepF F0 ⟨1, 0, 3, 5⟩ = some Fa := by
    unfold stepF
    rw [if_neg (by decide), if_neg (by decide), if_pos rfl]
    exact if_pos fa_ok
  show (stepF F0 ⟨1, 0, 3, 5⟩).bind (fun G => stepsF G []) = some Fa
  rw [h]; rfl
theorem fa_runs : runsI (Fa 0) 141 = [(3, 6)] := by
  have h := fAddOk_runs fa_ok
  rw [show runsI (F0 0) 141 = [] from runs_none 141] at h
  exact h.symm
theorem fa_len : lenI (runsI (Fa 0) 141) = 3 := by rw [fa_runs]; rfl
theorem fa_has : hasCells (runsI (Fa 0) 141) [2, 3, 5, 6] = [.bool false, .bool true, .bool true, .bool false] := by rw [fa_runs]; rfl

theorem awake_sets (w : World) (hT : PwTab w) :
    Calls Tryd.prog 29 #[.slice (some ⟨w.heap.size, 0, none⟩) 1 1, .slice (some ⟨w.heap.size + 1, 0, none⟩) 4 4] ((w.alloc (.cells #[.int .u8 1, .int .i64 0, .int .i64 3, .int .i64 5] 69)).alloc (.cells #[.int .i64 2, .int .i64 3, .int .i64 5, .int .i64 6] 3)) fun e w' =>
      (∃ gT cT gH cH q, e = .returned (.tuple #[.slice (some ⟨gT, 0, none⟩) 4 cT, .bool q]) ∧ 4 ≤ cT ∧ 4 ≤ cH ∧ gT < w'.heap.size ∧ gH < w'.heap.size ∧ w'.cell? ⟨gT, 0, none⟩ = some (.slice (some ⟨gH, 0, none⟩) 4 cH) ∧ w'.cell? ⟨gT, 1, none⟩ = some (.int .i64 3) ∧
        ∀ j, j < 4 → w'.cell? ⟨gH, j, none⟩ = some (.bool (decide (j = 1) || decide (j = 2)))) ∧ Below w.heap.size w w' := by
  have b1 := bl1 w (.cells #[.int .u8 1, .int .i64 0, .int .i64 3, .int .i64 5] 69)
  have b2 := bl1 (w.alloc (.cells #[.int .u8 1, .int .i64 0, .int .i64 3, .int .i64 5] 69)) (.cells #[.int .i64 2, .int .i64 3, .int .i64 5, .int .i64 6] 3)
  have o1 := World.ownsRow_lit (base := w.heap.size) (e := 69) (size := 4) w #[.int .u8 1, .int .i64 0, .int .i64 3, .int .i64 5] 1 (Nat.le_refl _) (by decide) rfl
  have s1 : (w.alloc (.cells #[.int .u8 1, .int .i64 0, .int .i64 3, .int .i64 5] 69)).heap.size = w.heap.size + 1 := by simp
  have o2 := World.ownsRow_lit (base := w.heap.size) (e := 3) (size := 1) (w.alloc (.cells #[.int .u8 1, .int .i64 0, .int .i64 3, .int .i64 5] 69)) #[.int .i64 2, .int .i64 3, .int .i64 5, .int .i64 6] 4 (by rw [s1]; exact Nat.le_succ _) (by decide) rfl
  rw [s1] at o2
  have hst : Steps ((w.alloc (.cells #[.int .u8 1, .int .i64 0, .int .i64 3, .int .i64 5] 69)).alloc (.cells #[.int .i64 2, .int .i64 3, .int .i64 5, .int .i64 6] 3)) (some ⟨w.heap.size, 0, none⟩) 1 [⟨1, 0, 3, 5⟩] := Steps.of_own (own_below o1 b2)
  have hin : Ints ((w.alloc (.cells #[.int .u8 1, .int .i64 0, .int .i64 3, .int .i64 5] 69)).alloc (.cells #[.int .i64 2, .int .i64 3, .int .i64 5, .int .i64 6] 3)) (some ⟨w.heap.size + 1, 0, none⟩) 4 [2, 3, 5, 6] := Ints.of_own o2
  have b := bl b1 b2
  refine (sets_any _ _ 1 4 [⟨1, 0, 3, 5⟩] [2, 3, 5, 6] Fa _ hst hin fa_steps (by decide) (by decide) (hT.keep b)).mono ?_
  rintro e w' ⟨⟨TV, T, H0, rfl, oT, t0, t1, oH⟩, hb⟩
  rw [fa_len] at t1
  rw [fa_has] at oH
  obtain ⟨gT, cT, rfl, _, hgT⟩ := oT.form (by decide)
  obtain ⟨gH, cH, rfl, _, hgH⟩ := oH.form (by decide)
  refine ⟨⟨gT, cT, gH, cH, _, rfl, own_cap oT, own_cap oH, hgT, hgH, (oT.cellAt 0 (by decide)).trans t0, (oT.cellAt 1 (by decide)).trans t1, fun j hj => ?_⟩, bl b hb⟩
  rw [oH.cellAt j (by simp; omega)]
  rcases (show j = 0 ∨ j = 1 ∨ j = 2 ∨ j = 3 by omega) with rfl | rfl | rfl | rfl <;> rfl

theorem eqb_four (gh c : Nat) (W : World) (n : Nat) (hn : W.heap.size = n) (hg : gh < W.heap.size) (hc : 4 ≤ c) (h0 : ∀ j, j < 4 → W.cell? ⟨gh, j, none⟩ = some (.bool (decide (j = 1) || decide (j = 2)))) :
    Calls Tryd.prog 14 #[.slice (some ⟨gh, 0, none⟩) 4 c, .slice (some ⟨n, 0, none⟩) 4 4] (W.alloc (.cells #[.bool false, .bool true, .bool true, .bool false] 4)) fun e w' => e = .returned (.bool true) ∧ ∃ n, w' = (W.alloc (.cells #[.bool false, .bool true, .bool true, .bool false] 4)).drewN n := by
  have hne := heap_alloc_new W #[.bool false, .bool true, .bool true, .bool false] 4
  subst hn
  refine eqb_any gh 0 c W.heap.size 0 4 4 (fun j => decide (j = 1) || decide (j = 2)) _ ?_ ?_ hc (Nat.le_refl _) (by decide)
  · intro j hj
    rw [Nat.zero_add, (bl1 W _).cell (p := ⟨gh, j, none⟩) hg]
    exact h0 j hj
  · intro j hj
    rw [Nat.zero_add]
    rw [cell_of_row _ _ j _ _ _ hne]
    rcases (show j = 0 ∨ j = 1 ∨ j = 2 ∨ j = 3 by omega) with rfl | rfl | rfl | rfl <;> rfl

set_option maxRecDepth 100000 in
set_option maxHeartbeats 1600000 in
theorem awake_any (w : World) (hT : PwTab w) :
    Calls Tryd.prog 13 #[] w fun e w' => e = .returned (.bool true) ∧ Below w.heap.size w w' := by
  have HC := hid (awake_sets w hT)
  clear hT
  go_enter Tryd.func13, Tryd.ntmps13
  go_wp2_with (first
    | (go_at_call 29; refine HC.out.mono ?_; rintro e w1 ⟨⟨gT, cT, gH, cH, q, rfl, hcT, hcH, hgT, hgH, x0, x1, hx⟩, hb⟩; have HB := hid hb; have HX := hid hx; clear hb hx)
    | (go_at_call 14; refine (eqb_four gH cH w1 _ rfl hgH hcH HX.out).mono ?_; rintro e w2 ⟨rfl, n, rfl⟩))
  go_ret
  exact ⟨rfl, bl HB.out (bdn (bl1 w1 _) n)⟩

end Go.Proofs.YtifoeehfblddcaaDoor
