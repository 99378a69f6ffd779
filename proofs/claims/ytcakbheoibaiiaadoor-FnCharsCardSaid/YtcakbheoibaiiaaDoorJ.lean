/- walks: Characters; the texts of characters -/
import Derived.Test.YtcakbheoibaiiaaDoorI
import Derived.Laws.RangeAny
namespace Go.Proofs.YtcakbheoibaiiaaDoor
open Go.RowKit

theorem width_pos (s : ByteArray) (pos : Nat) (h : pos < s.size) : 1 ≤ (Utf8.decode s pos).2 := by
  by_cases ha : (s[pos]'h).toNat < 128
  · rw [decode_ascii s pos h ha]
    exact Nat.le_refl _
  · exact (decode_high s pos h (by omega)).2

/-- no replacement character among a text's -/
def plainFrom (s : ByteArray) (k i : Nat) : Bool := (runeList s k i).all fun r => !(r == 65533)
def plain (s : ByteArray) : Bool := plainFrom s s.size 0

set_option maxHeartbeats 400000 in
theorem characters_any (s : ByteArray) (w : World) (hs : s.size ≤ 1000000) :
    Calls Tryd.prog 13 #[.string s] w fun e w' => e = .returned (.bool (plain s)) ∧ Below w.heap.size w w' := by
  obtain ⟨ANS, hANS⟩ : ∃ ANS, plain s = ANS := ⟨_, rfl⟩
  rw [hANS]
  have HA := hid hANS
  clear hANS
  have hbi : ∀ p, Below w.heap.size w (w.iter s p) := fun p => (Below.refl _ _).alloc (Nat.le_refl _) _
  have HB := hid hbi
  clear hbi
  go_enter Tryd.func13, Tryd.ntmps13
  go_wp2
  go_loopg [] (s.size + 1) (fun k wr => ∃ pos fuel : Nat, wr = w.iter s pos ∧ plainFrom s fuel pos = ANS ∧ s.size ≤ pos + fuel ∧ s.size + 1 ≤ pos + k)
  case atStart => exact ⟨0, s.size, rfl, HA.out, by omega, by omega⟩
  case round =>
    obtain ⟨pos, fuel, rfl, hans, hfu, hgk⟩ := hrel
    by_cases hp : pos < s.size
    · have hnx : ∀ ty, (Instr.next (.pointer (some ⟨w.heap.size, 0, none⟩)) true ty).run Tryd.prog (w.iter s pos) = _ := fun ty => run_next_any w s pos ty hp
      have hwd := width_pos s pos hp
      obtain ⟨f, rfl⟩ : ∃ f, fuel = f + 1 := ⟨fuel - 1, by omega⟩
      have hans2 := hid hans
      have hd := decode_le s pos
      clear hans
      by_cases hr : (((Utf8.decode s pos).1 : Int) == 65533) = true
      · go_wp2
        go_ret
        refine ⟨?_, HB.out _⟩
        have := hans2.out
        rw [← this]
        simp only [plainFrom, runeList, if_pos hp, List.all_cons, hr]
        rfl
      · have hr' : (((Utf8.decode s pos).1 : Int) == 65533) = false := by simpa using hr
        clear hr
        go_wp2
        go_roundg (gk - 1)
        case measure => omega
        case rel =>
          refine ⟨pos + (Utf8.decode s pos).2, f, rfl, ?_, by omega, by omega⟩
          have := hans2.out
          rw [← this]
          simp only [plainFrom, runeList, if_pos hp, List.all_cons, hr']
          rfl
    · have hnx : ∀ ty, (Instr.next (.pointer (some ⟨w.heap.size, 0, none⟩)) true ty).run Tryd.prog (w.iter s pos) = _ := fun ty => run_next_end w s pos ty hp
      have hans2 := hid hans
      clear hans
      go_wp2
      go_ret
      refine ⟨?_, HB.out _⟩
      have := hans2.out
      rw [← this]
      cases fuel <;> simp [plainFrom, runeList, hp]

end Go.Proofs.YtcakbheoibaiiaaDoor
