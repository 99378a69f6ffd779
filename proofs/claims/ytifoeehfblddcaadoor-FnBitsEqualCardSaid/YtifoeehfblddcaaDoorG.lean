/- the bit set: remove -/
import Derived.Test.YtifoeehfblddcaaDoorF
namespace Go.Proofs.YtifoeehfblddcaaDoor
open Go.RowKit

theorem andx_val (x k : Nat) (hx : x < 18446744073709551616) (hk : k < 64) : bits BinOp.and IntKind.u64 (x : Int) (bits BinOp.xor IntKind.u64 IntKind.u64.max ((2 ^ k : Nat) : Int)) = ((x &&& (18446744073709551615 ^^^ 2 ^ k) : Nat) : Int) := by
  have h : 2 ^ k < 2 ^ 64 := Nat.pow_lt_pow_right (by decide) hk
  have e : IntKind.u64.max = ((18446744073709551615 : Nat) : Int) := by decide
  have h2 : 18446744073709551615 ^^^ 2 ^ k < 2 ^ 64 := Nat.xor_lt_two_pow (by decide) h
  rw [e, u64_xor_nat _ _ (by decide) (by omega), u64_and_nat x _ hx (by omega)]

set_option maxRecDepth 100000 in
set_option maxHeartbeats 800000 in
theorem clear_in (b d c v m x k : Nat) (lenw : Nat) (w : World) (hv : v ≤ 1000) (hx : x < 18446744073709551616) (hidx : v / 64 = k) (hm : v % 64 = m) (hk : k < lenw) (hl : lenw ≤ 4) (hlc : lenw ≤ c) (hc4 : c ≤ 4) (hc : w.cell? ⟨b, 0, none⟩ = some (.slice (some ⟨d, 0, none⟩) lenw c))
    (hcell : w.cell? ⟨d, k, none⟩ = some (.int .u64 (x : Int))) (hfr : w.frozen? ⟨d, k, none⟩ = false) :
    Calls Tryd.prog 57 #[.pointer (some ⟨b, 0, none⟩), .int .i64 v] w fun e w' => e = .returned (.tuple #[]) ∧ w' = w.drew.setCell ⟨d, k, none⟩ (.int .u64 ((x &&& (18446744073709551615 ^^^ 2 ^ m) : Nat) : Int)) := by
  have hm64 : m < 64 := by omega
  rw [← andx_val x m hx hm64]
  have h1 : decide ((lenw : Int) ≤ (k : Int)) = false := by simp; omega
  have hi2 : ∀ w, Calls Tryd.prog 54 #[.int .i64 v] w fun e w' => e = .returned (.int .i64 (k : Int)) ∧ w = w' := fun w => hidx ▸ index_any v w hv
  have hm2 : ∀ w, Calls Tryd.prog 56 #[.int .i64 v] w fun e w' => e = .returned (.int .u64 ((2 ^ m : Nat) : Int)) ∧ w' = w := fun w => hm ▸ (mask_any v w hv).mono fun _ _ ⟨a, b⟩ => ⟨a, b.symm⟩
  generalize ((2 ^ m : Nat) : Int) = mm at *
  have HI := hid hi2
  have HM := hid hm2
  have hjN : (k : Int) < (lenw : Int) := by omega
  have hj0 : (0 : Int) ≤ (k : Int) := by omega
  clear hi2 hm2 hidx hm
  go_enter Tryd.func57, Tryd.ntmps57
  go_wp2_with (go_at_call 54; refine (HI.out _).mono ?_; rintro e w' ⟨rfl, rfl⟩)
  go_still_tail 12, (by kernel_rfl)
  still_call (HM.out _)
  repeat still_step
  refine wpStill_nil ?_
  change wpList _ _ _ _ _ w.drew
  go_wp2_with fail
  go_end0
  exact ⟨rfl, rfl⟩

set_option maxHeartbeats 400000 in
theorem clear_out (b v k : Nat) (A : Option Addr) (lenw c : Nat) (w : World) (hv : v ≤ 1000) (hidx : v / 64 = k) (hk : lenw ≤ k) (hc : w.cell? ⟨b, 0, none⟩ = some (.slice A lenw c)) :
    Calls Tryd.prog 57 #[.pointer (some ⟨b, 0, none⟩), .int .i64 v] w fun e w' => e = .returned (.tuple #[]) ∧ w = w' := by
  have h1 : decide ((lenw : Int) ≤ (k : Int)) = true := by simp; omega
  have hi2 : ∀ w, Calls Tryd.prog 54 #[.int .i64 v] w fun e w' => e = .returned (.int .i64 (k : Int)) ∧ w = w' := fun w => hidx ▸ index_any v w hv
  have HI := hid hi2
  clear hi2 hidx
  go_enter Tryd.func57, Tryd.ntmps57
  go_wp2_with (go_at_call 54; refine (HI.out _).mono ?_; rintro e w' ⟨rfl, rfl⟩)
  refine bodyPost_ret (results_none rfl _ _ _) rfl ?_
  exact ⟨rfl, rfl⟩

def clearW (ws : List Nat) (v : Nat) : List Nat := ws.set (v / 64) (ws.getD (v / 64) 0 &&& (18446744073709551615 ^^^ 2 ^ (v % 64)))

theorem clear_any {lo hi : Nat} {w : World} {b : Nat} {ws : List Nat} (h : Bset lo hi w b ws) (v : Nat) (hv : v ≤ 255) :
    Calls Tryd.prog 57 #[.pointer (some ⟨b, 0, none⟩), .int .i64 v] w fun e w' => e = .returned (.tuple #[]) ∧ Bset lo w'.heap.size w' b (clearW ws v) ∧ Below lo w w' ∧ Fr b w w' := by
  have hm64 : v % 64 < 64 := Nat.mod_lt _ (by decide)
  have htop := h.top
  have hbl := h.blt
  by_cases hl : ws.length ≤ v / 64
  · obtain ⟨A, d, c, hc, hcl, hc4, hA, hcells⟩ := h.read
    refine (clear_out b v _ A _ c w (by omega) rfl hl hc).mono ?_
    rintro e w' ⟨rfl, rfl⟩
    refine ⟨rfl, ?_, Below.refl _ _, Fr.of_below (Below.refl _ _)⟩
    have e : clearW ws v = ws := List.set_eq_of_length_le hl
    rw [e]
    exact ⟨by omega, h.ble, Nat.le_refl _, h.own, h.len, h.wd, h.row.imp id fun ⟨a, d, c, h1, h2, h3, h4, h5, h6, h7⟩ => ⟨a, d, c, h1, by omega, h3, h4, h5, h6, h7⟩⟩
  · rcases h.row with ⟨rfl, _⟩ | ⟨hpos, d, c, h1, h2, h3, h4, h5, h6, h7⟩
    · simp at hl
    · refine (clear_in b d c v _ _ _ ws.length w (by omega) (h.wd _) rfl rfl (by omega) h.len h4 h5 h6 (wcell h7 _ (by omega)) (wfroz h7 _)).mono ?_
      rintro e w' ⟨rfl, rfl⟩
      have hg4 := heap_set (w := w.drew) h7 (v / 64) (.int .u64 ((ws.getD (v / 64) 0 &&& (18446744073709551615 ^^^ 2 ^ (v % 64)) : Nat) : Int))
      rw [wcells_set] at hg4
      have hs2 : (w.drew.setCell ⟨d, v / 64, none⟩ (.int .u64 ((ws.getD (v / 64) 0 &&& (18446744073709551615 ^^^ 2 ^ (v % 64)) : Nat) : Int))).heap.size = w.heap.size := by simp [World.setCell]
      have hb4 : (w.drew.setCell ⟨d, v / 64, none⟩ (.int .u64 ((ws.getD (v / 64) 0 &&& (18446744073709551615 ^^^ 2 ^ (v % 64)) : Nat) : Int))).heap[b]? = w.heap[b]? := Below.heap_setCell _ _ _ _ (by simp; omega)
      refine ⟨rfl, ?_, ((Below.refl _ _).drew).setCell h1 _, (show Fr b w w.drew from ⟨Nat.le_refl _, fun _ _ _ _ => rfl⟩).trans (Fr.setrow (w := w.drew) h7 _ _)⟩
      unfold clearW
      have hlt : ws.getD (v / 64) 0 &&& (18446744073709551615 ^^^ 2 ^ (v % 64)) < 18446744073709551616 := Nat.lt_of_le_of_lt Nat.and_le_left (h.wd _)
      generalize w.drew.setCell ⟨d, v / 64, none⟩ (.int .u64 ((ws.getD (v / 64) 0 &&& (18446744073709551615 ^^^ 2 ^ (v % 64)) : Nat) : Int)) = w4 at *
      obtain ⟨v0, t, ho⟩ := h.own
      refine ⟨by omega, h.ble, Nat.le_refl _, ⟨_, t, hb4.trans ho⟩, by simp [h.len], ?_, .inr ⟨by simp; exact hpos, d, c, h1, by omega, h3, by simp [h4], h5, ?_, hg4⟩⟩
      · intro j
        rw [getD_set]
        split
        · exact hlt
        · exact h.wd j
      · rw [World.cell?_of_block (a := ⟨b, 0, none⟩) hb4, h6]; simp

set_option maxHeartbeats 400000 in
theorem remove_any {lo hi : Nat} {w : World} {b : Nat} {ws : List Nat} (h : Bset lo hi w b ws) (v : Nat) (hv : v ≤ 255) :
    Calls Tryd.prog 34 #[.pointer (some ⟨b, 0, none⟩), .int .i64 v] w fun e w' => e = .returned (.tuple #[]) ∧ Bset lo w'.heap.size w' b (clearW ws v) ∧ Below lo w w' ∧ Fr b w w' := by
  have H := hid (clear_any h v hv)
  clear h
  go_enter Tryd.func34, Tryd.ntmps34
  go_wp2_with (go_at_call 57; refine H.out.mono ?_; rintro e w' ⟨rfl, hb, hbb, hff⟩; have HB := hid hb; have HFF := hid hff; clear hb hff)
  go_end0
  exact ⟨rfl, HB.out, hbb, HFF.out⟩

/-- what the words have, behind an addition and behind a removal -/
theorem bitN_add (ws : List Nat) (v n : Nat) : bitN (addW ws v) n = (decide (v = n) || bitN ws n) := by
  unfold bitN addW
  rw [getD_set]
  have hl : (growW ws (v / 64 + 1)).length = max ws.length (v / 64 + 1) := by simp [growW]; omega
  by_cases h : v / 64 = n / 64
  · rw [if_pos ⟨h, by rw [hl]; omega⟩, Nat.testBit_or, Nat.testBit_two_pow, ← h]
    have : decide (v % 64 = n % 64) = decide (v = n) := decide_eq_decide.2 (by omega)
    rw [this, Bool.or_comm]
  · rw [if_neg (by simp [h]), growW_get]
    have : v ≠ n := fun e => h (by rw [e])
    simp [this]
theorem bitN_clear (ws : List Nat) (v n : Nat) : bitN (clearW ws v) n = (!decide (v = n) && bitN ws n) := by
  unfold bitN clearW
  rw [getD_set]
  by_cases h : v / 64 = n / 64
  · by_cases h2 : n / 64 < ws.length
    · rw [if_pos ⟨h, h2⟩, Nat.testBit_and, Nat.testBit_xor, Nat.testBit_two_pow, ← h]
      rw [show (18446744073709551615 : Nat) = 2 ^ 64 - 1 from rfl, Nat.testBit_two_pow_sub_one]
      have h3 : n % 64 < 64 := Nat.mod_lt _ (by decide)
      have : decide (v % 64 = n % 64) = decide (v = n) := decide_eq_decide.2 (by omega)
      rw [this]
      cases hd : decide (v = n) <;> simp [h3]
    · rw [if_neg (by simp [h2])]
      have : ws.getD (n / 64) 0 = 0 := by rw [List.getD_eq_getElem?_getD, List.getElem?_eq_none (by omega)]; rfl
      rw [this]; simp
  · rw [if_neg (by simp [h])]
    have : v ≠ n := fun e => h (by rw [e])
    simp [this]

end Go.Proofs.YtifoeehfblddcaaDoor
