/- the bit set: its length, its least number -/
import Derived.Test.YtifoeehfblddcaaDoorC
namespace Go.Proofs.YtifoeehfblddcaaDoor
open Go.RowKit

/-- what is read of a bit set -/
theorem Bset.read {lo hi : Nat} {w : World} {b : Nat} {ws : List Nat} (h : Bset lo hi w b ws) : ∃ A d c, w.cell? ⟨b, 0, none⟩ = some (.slice A ws.length c) ∧ ws.length ≤ c ∧ c ≤ 4 ∧ (0 < ws.length → A = some ⟨d, 0, none⟩) ∧
    (∀ j, j < ws.length → w.cell? ⟨d, j, none⟩ = some (.int .u64 ((ws.getD j 0 : Nat) : Int))) := by
  rcases h.row with ⟨rfl, hc⟩ | ⟨hpos, d, c, h1, h2, h3, h4, h5, h6, h7⟩
  · exact ⟨none, 0, 0, hc, Nat.le_refl _, by decide, by simp, by simp⟩
  · exact ⟨_, d, c, h6, h4, h5, fun _ => rfl, fun j hj => wcell h7 j hj⟩

def popS (ws : List Nat) (n : Nat) : Nat := ((ws.take n).map (pop 64)).sum

theorem pop_le (n : Nat) : ∀ x, pop n x ≤ n := by
  induction n with
  | zero => intro x; exact Nat.le_refl _
  | succ n ih => intro x; have := ih (x / 2); simp only [pop]; omega

theorem popS_succ (ws : List Nat) (n : Nat) (h : n < ws.length) : popS ws (n + 1) = popS ws n + pop 64 (ws.getD n 0) := by
  unfold popS
  rw [List.take_add_one, List.map_append, List.sum_append]
  simp [h]
theorem popS_le (ws : List Nat) (n : Nat) : popS ws n ≤ 64 * n := by
  induction n with
  | zero => simp [popS]
  | succ n ih =>
    by_cases h : n < ws.length
    · rw [popS_succ ws n h]; have := pop_le 64 (ws.getD n 0); omega
    · have : popS ws (n + 1) = popS ws n := by unfold popS; rw [List.take_of_length_le (by omega), List.take_of_length_le (by omega)]
      omega

set_option maxHeartbeats 400000 in
theorem length_any {lo hi : Nat} {w : World} {b : Nat} {ws : List Nat} (h : Bset lo hi w b ws) :
    Calls Tryd.prog 35 #[.pointer (some ⟨b, 0, none⟩)] w fun e w' => e = .returned (.int .i64 ((popS ws ws.length : Nat) : Int)) ∧ w = w' := by
  obtain ⟨A, d, c, hc, hcl, hc4, hA, hcells⟩ := h.read
  have hwd := h.wd
  have hps := fun n (hn : n < ws.length) => popS_succ ws n hn
  have hle := fun n => popS_le ws n
  have h0 : popS ws 0 = 0 := rfl
  have hlen := h.len
  generalize hN : ws.length = N at *
  generalize hp : popS ws = ps at *
  have HC := hid hcells
  have HW := hid hwd
  have HS := hid hps
  have HL := hid hle
  have H0 := hid h0
  clear hN hp hcells hwd hps hle h0 h
  go_enter Tryd.func35, Tryd.ntmps35
  go_wp2_with fail
  go_loopg [3, 11] N (fun k s i wr => ∃ j : Nat, j + k = N ∧ i = .int .i64 j ∧ s = .int .i64 ((ps j : Nat) : Int) ∧ w = wr)
  case atStart => exact ⟨0, by omega, rfl, by rw [H0.out]; rfl, rfl⟩
  case round =>
    obtain ⟨j, hj, rfl, rfl, rfl⟩ := hrel
    have hl1 := HL.out j
    by_cases hlt : j < N
    · obtain rfl := hA (by omega)
      have r0 := HC.out j hlt
      have e1 := HS.out j hlt
      have hp1 := pop_le 64 (ws.getD j 0)
      have HO := hid (fun w => ones_any (ws.getD j 0) w (HW.out j))
      have hs1 : IntKind.i64.wrap (((ps j : Nat) : Int) + ((pop 64 (ws.getD j 0) : Nat) : Int)) = ((ps (j + 1) : Nat) : Int) := by rw [e1, IntWalk.i64_in _ (by omega)]; omega
      clear e1
      generalize hpe : ps (j + 1) = p1 at *
      have PE := hid hpe
      clear hpe
      generalize ps j = p0 at *
      generalize pop 64 (ws.getD j 0) = pj at *
      generalize ws.getD j 0 = x at *
      go_wp2_with (first | (go_at_call 58; refine (HO.out _).mono ?_; rintro e w2 ⟨rfl, rfl⟩) | simp only [hs1])
      go_roundg (gk - 1)
      case measure => omega
      case rel => exact ⟨j + 1, by omega, by go_num, by rw [PE.out], rfl⟩
    · have hjN : j = N := by omega
      subst hjN
      go_wp2_with fail
      go_ret
      exact ⟨rfl, rfl⟩


/-- words up to the last one that is not 0 -/
def minL (ws : List Nat) : Nat → Nat
  | 0 => 0
  | n + 1 => if ws.getD n 0 = 0 then minL ws n else n + 1

theorem minL_le (ws : List Nat) : ∀ n, minL ws n ≤ n
  | 0 => Nat.le_refl _
  | n + 1 => by unfold minL; split; exact Nat.le_succ_of_le (minL_le ws n); exact Nat.le_refl _

set_option maxHeartbeats 400000 in
theorem minlen_any {lo hi : Nat} {w : World} {b : Nat} {ws : List Nat} (h : Bset lo hi w b ws) :
    Calls Tryd.prog 62 #[.pointer (some ⟨b, 0, none⟩)] w fun e w' => e = .returned (.int .i64 ((minL ws ws.length : Nat) : Int)) ∧ w = w' := by
  obtain ⟨A, d, c, hc, hcl, hc4, hA, hcells⟩ := h.read
  have hwd := h.wd
  have hlen := h.len
  generalize hN : ws.length = N at *
  have HC := hid hcells
  have HW := hid hwd
  clear hN hcells hwd h
  go_enter Tryd.func62, Tryd.ntmps62
  go_wp2_with fail
  go_loopg [3] N (fun k s wr => s = .int .i64 (k : Nat) ∧ k ≤ N ∧ minL ws k = minL ws N ∧ w = wr)
  case atStart => exact ⟨rfl, Nat.le_refl _, rfl, rfl⟩
  case round =>
    obtain ⟨rfl, hkN, hm, rfl⟩ := hrel
    rcases Nat.eq_zero_or_pos gk with rfl | hpos
    · have HM := hid hm
      clear hm
      go_wp2_with fail
      go_ret
      refine ⟨?_, rfl⟩
      rw [← HM.out]
      rfl
    · obtain rfl := hA (by omega)
      obtain ⟨m, rfl⟩ : ∃ m, gk = m + 1 := ⟨gk - 1, by omega⟩
      have r0 := HC.out m (by omega)
      by_cases hz : ws.getD m 0 = 0
      · have hz' : minL ws (m + 1) = minL ws m := by simp only [minL, hz, if_true]
        rw [hz] at r0
        rw [hz'] at hm
        have HM := hid hm
        clear hz hz' hm
        have e1 : ((m + 1 : Nat) : Int) - 1 = m := by omega
        go_wp2_with fail
        go_roundg m
        case measure => omega
        case rel => exact ⟨by go_num, by omega, HM.out, rfl⟩
      · have hz' : minL ws (m + 1) = m + 1 := by simp only [minL, hz, if_false]
        rw [hz'] at hm
        have HM := hid hm
        have hne : (((ws.getD m 0 : Nat) : Int) == 0) = false := by simp; simpa using hz
        clear hz hz' hm
        generalize ws.getD m 0 = x at *
        go_wp2_with fail
        go_ret
        refine ⟨?_, rfl⟩
        rw [← HM.out]
        rfl

end Go.Proofs.YtifoeehfblddcaaDoor
