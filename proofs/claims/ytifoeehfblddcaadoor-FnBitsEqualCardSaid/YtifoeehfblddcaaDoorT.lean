/- slices.Equal on bools -/
import Derived.Test.YtifoeehfblddcaaDoorS
namespace Go.Proofs.YtifoeehfblddcaaDoor
open Go.RowKit

set_option maxHeartbeats 800000 in
theorem eqb_any (g1 o1 c1 g2 o2 c2 N : Nat) (f : Nat → Bool) (w : World) (h1 : ∀ j, j < N → w.cell? ⟨g1, o1 + j, none⟩ = some (.bool (f j))) (h2 : ∀ j, j < N → w.cell? ⟨g2, o2 + j, none⟩ = some (.bool (f j))) (hc1 : N ≤ c1) (hc2 : N ≤ c2) (hN : N ≤ 1000) :
    Calls Tryd.prog 14 #[.slice (some ⟨g1, o1, none⟩) N c1, .slice (some ⟨g2, o2, none⟩) N c2] w fun e w' => e = .returned (.bool true) ∧ ∃ n, w' = w.drewN n := by
  have H1 := hid h1
  have H2 := hid h2
  clear h1 h2
  go_enter Tryd.func14, Tryd.ntmps14
  go_wp2_with fail
  go_loopg [13] N (fun k i wr => ∃ j : Nat, j + k = N ∧ i = .int .i64 j ∧ ∃ q, wr = w.drewN q)
  case atStart => exact ⟨0, by omega, rfl, 0, rfl⟩
  case round =>
    obtain ⟨j, hj, rfl, q, rfl⟩ := hrel
    by_cases hlt : j < N
    · have r1 := H1.out j hlt
      have r2 := H2.out j hlt
      have hj1 : (j : Int) < (N : Int) := by omega
      have hj0 : (0 : Int) ≤ (j : Int) := by omega
      generalize f j = bv at *
      go_wp2_with fail
      go_quiet (fail)
      go_wp2_with fail
      go_roundg (gk - 1)
      case measure => omega
      case rel => exact ⟨j + 1, by omega, by go_num, q + nq, rfl⟩
    · have hjN : j = N := by omega
      subst hjN
      go_wp2_with fail
      go_ret
      exact ⟨rfl, q, rfl⟩
end Go.Proofs.YtifoeehfblddcaaDoor
