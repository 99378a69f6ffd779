/- the bit set's smallest functions -/
import Derived.Test.YtifoeehfblddcaaDoorProg
import Derived.WalkKit
import Derived.WalkSpells
import Derived.WalkLawsBesides
import Derived.BigQuiet
import Derived.Deep.QuietTactic
import Derived.Laws.BitsAllLaws
import Derived.Laws.Bits64
import Derived.IntWalk
namespace Go.Proofs.YtifoeehfblddcaaDoor
open Go.RowKit

/-- a fact kept from the walk -/
theorem hid {p : Prop} (h : p) : Hid p := h

set_option maxHeartbeats 400000 in
theorem index_any (v : Nat) (w : World) (hv : v ≤ 1000) :
    Calls Tryd.prog 54 #[.int .i64 v] w fun e w' => e = .returned (.int .i64 ((v / 64 : Nat) : Int)) ∧ w = w' := by
  go_enter Tryd.func54, Tryd.ntmps54
  go_wp2
  go_ret
  exact ⟨rfl, rfl⟩

set_option maxHeartbeats 400000 in
theorem words_any (v : Nat) (w : World) (hv : v ≤ 1000) :
    Calls Tryd.prog 55 #[.int .i64 v] w fun e w' => e = .returned (.int .i64 ((v / 64 + 1 : Nat) : Int)) ∧ w = w' := by
  go_enter Tryd.func55, Tryd.ntmps55
  go_wp2_with (go_at_call 54; refine (index_any v _ hv).mono ?_; rintro e w' ⟨rfl, rfl⟩)
  go_ret
  exact ⟨rfl, rfl⟩

theorem mask_val (v : Nat) : IntKind.u64.wrap (2 ^ (v % 64)) = ((2 ^ (v % 64) : Nat) : Int) := by
  have h : 2 ^ (v % 64) < 2 ^ 64 := Nat.pow_lt_pow_right (by decide) (Nat.mod_lt _ (by decide))
  have e : ((2 : Int) ^ (v % 64)) = ((2 ^ (v % 64) : Nat) : Int) := by simp
  rw [e]
  generalize 2 ^ (v % 64) = m at h
  exact IntWalk.u64_in _ (by omega)

set_option maxHeartbeats 400000 in
theorem mask_any (v : Nat) (w : World) (hv : v ≤ 1000) :
    Calls Tryd.prog 56 #[.int .i64 v] w fun e w' => e = .returned (.int .u64 ((2 ^ (v % 64) : Nat) : Int)) ∧ w = w' := by
  rw [← mask_val v]
  go_enter Tryd.func56, Tryd.ntmps56
  go_wp2
  go_ret
  exact ⟨rfl, rfl⟩

set_option maxHeartbeats 400000 in
theorem max_any (x y : Nat) (w : World) (hx : x ≤ 1000) (hy : y ≤ 1000) :
    Calls Tryd.prog 63 #[.int .i64 x, .int .i64 y] w fun e w' => e = .returned (.int .i64 ((max x y : Nat) : Int)) ∧ w = w' := by
  by_cases h : y < x
  · have h1 : decide ((y : Int) < (x : Int)) = true := by simp; omega
    rw [show max x y = x by omega]
    go_enter Tryd.func63, Tryd.ntmps63
    go_wp2_with fail
    go_ret
    exact ⟨rfl, rfl⟩
  · have h1 : decide ((y : Int) < (x : Int)) = false := by simp; omega
    rw [show max x y = y by omega]
    go_enter Tryd.func63, Tryd.ntmps63
    go_wp2_with fail
    go_ret
    exact ⟨rfl, rfl⟩
end Go.Proofs.YtifoeehfblddcaaDoor
