/- walks of the stream's small methods -/
import Derived.Test.YtcakbheoibaiiaaDoorProg
import Derived.WalkKit
import Derived.WalkSpells
import Derived.WalkLawsBesides
import Derived.BigQuiet
import Derived.Deep.QuietTactic
namespace Go.Proofs.YtcakbheoibaiiaaDoor
open Go.RowKit

/-- a fact kept from the walk -/
theorem hid {p : Prop} (h : p) : Hid p := h

set_option maxHeartbeats 400000 in
theorem mark_any (v : Value) (w : World) :
    Calls Tryd.prog 26 #[v] w fun e w' => e = .returned (.int .i64 (-1)) ∧ w = w' := by
  go_enter Tryd.func26, Tryd.ntmps26
  go_wp2
  go_ret
  exact ⟨rfl, rfl⟩

set_option maxHeartbeats 400000 in
theorem index_any (a : Nat) (i : Int) (w : World) (hc : w.cell? ⟨a, 1, none⟩ = some (.int .i64 i)) :
    Calls Tryd.prog 27 #[.pointer (some ⟨a, 0, none⟩)] w fun e w' => e = .returned (.int .i64 i) ∧ w = w' := by
  go_enter Tryd.func27, Tryd.ntmps27
  go_wp2
  go_ret
  exact ⟨rfl, rfl⟩

set_option maxHeartbeats 400000 in
theorem size_any (a : Nat) (i : Int) (w : World) (hc : w.cell? ⟨a, 3, none⟩ = some (.int .i64 i)) :
    Calls Tryd.prog 28 #[.pointer (some ⟨a, 0, none⟩)] w fun e w' => e = .returned (.int .i64 i) ∧ w = w' := by
  go_enter Tryd.func28, Tryd.ntmps28
  go_wp2
  go_ret
  exact ⟨rfl, rfl⟩

set_option maxHeartbeats 400000 in
theorem release_any (v u : Value) (w : World) :
    Calls Tryd.prog 25 #[v, u] w fun e w' => e = .returned (.tuple #[]) ∧ w = w' := by
  go_enter Tryd.func25, Tryd.ntmps25
  go_wp2
  go_end0
  exact ⟨rfl, rfl⟩

set_option maxHeartbeats 400000 in
theorem intmin_any (a b : Int) (w : World) :
    Calls Tryd.prog 33 #[.int .i64 a, .int .i64 b] w fun e w' => e = .returned (.int .i64 (if a < b then a else b)) ∧ w = w' := by
  by_cases h : a < b
  · go_enter Tryd.func33, Tryd.ntmps33
    go_wp2
    go_ret
    exact ⟨rfl, rfl⟩
  · go_enter Tryd.func33, Tryd.ntmps33
    go_wp2
    go_ret
    exact ⟨rfl, rfl⟩
end Go.Proofs.YtcakbheoibaiiaaDoor
