/- walks: FnCharsText -/
import Derived.Test.YtcakbheoibaiiaaDoorL
import Derived.Deep.RegionHeld3
namespace Go.Proofs.YtcakbheoibaiiaaDoor
open Go.RowKit

theorem tabs_below {w w' : World} (h : Tabs w) (hb : Below w.heap.size w w') : Tabs w' := Utf8Tabs_below h hb

set_option maxHeartbeats 400000 in
theorem text_long (s : ByteArray) (cut : Int) (w : World) (hs : 2147483647 < s.size) :
    Calls Tryd.prog 3 #[.string s, .int .u8 cut] w fun e w' => e = .returned (.bool true) ∧ Below w.heap.size w w' := by
  have h1 : decide ((2147483647 : Int) < (s.size : Int)) = true := by simp; omega
  go_enter Tryd.func3, Tryd.ntmps3
  go_wp2_with fail
  go_ret
  exact ⟨rfl, Below.refl _ _⟩

/-- '[]rune(s)', as the walks take it -/
theorem conv_runes (s : ByteArray) (w : World) (hs : s.size ≤ 2147483647) :
    ∃ (c : Nat) (C : Array Value), (runes s).length ≤ c ∧ (convert 9 22 (.string s)).run Tryd.prog w = .ok (.slice (some ⟨w.heap.size, 0, none⟩) (runes s).length c) (w.drew.alloc (.cells C 21)) ∧
      ∀ j, j < (runes s).length → C[j]? = some (.int .i32 ((runes s).getD j 0)) := by
  have hlen : (Conv.runesFrom s s.size 0 #[]).size = (runes s).length := by rw [runes_conv]; simp
  have hl := runes_length s
  have h := run_runes_of_string (P := Tryd.prog) w 9 22 21 s Tryd.underlying9 Tryd.underlying22 Tryd.underlying21 (by omega)
  rw [hlen] at h
  refine ⟨_, _, grownCap_ge w (runes s).length 0 21, h, ?_⟩
  · intro j hj
    rw [runes_conv, Array.getElem?_append_left (by simpa using hj)]
    simp [List.getD, List.getElem?_eq_getElem hj]

set_option maxHeartbeats 400000 in
theorem text_unfit (s : ByteArray) (cut : Int) (w : World) (hs : s.size ≤ 2147483647) (hT : Tabs w) (hf : fitsB s 0 = false ∨ (runes s).length < 2) :
    Calls Tryd.prog 3 #[.string s, .int .u8 cut] w fun e w' => e = .returned (.bool true) ∧ Below w.heap.size w w' := by
  obtain ⟨c, C, hc, hconv, hC⟩ := conv_runes s w hs
  have hbC : Below w.heap.size w (w.drew.alloc (.cells C 21)) := (Below.refl _ _).drew.alloc (Nat.le_refl _) _
  have hfit := charsfit_any s none 0 0 (w.drew.alloc (.cells C 21)) hs (by omega) (tabs_below hT hbC)
  have h1 : decide ((2147483647 : Int) < (s.size : Int)) = false := by simp; omega
  have HBC := hid hbC
  have hn : (runes s).length ≤ 2147483647 := by have := runes_length s; omega
  generalize (runes s).length = n at *
  clear hC hT hbC
  cases hfb : fitsB s 0
  · rw [hfb] at hfit
    have HF := hid hfit
    clear hfit hf hfb
    go_enter Tryd.func3, Tryd.ntmps3
    go_wp2_with (first | (go_at_call 5; refine HF.out.mono ?_; rintro e w1 ⟨rfl, hb⟩) | (go_at_call 6; refine (awake_any _).mono ?_; rintro e w2 ⟨rfl, hb2⟩))
    go_ret
    exact ⟨rfl, (HBC.out.trans (hb.mono HBC.out.size)).trans (hb2.mono (Nat.le_trans HBC.out.size hb.size))⟩
  · have hn2 : decide ((n : Int) < 2) = true := by
      rcases hf with h | h
      · rw [hfb] at h; cases h
      · simp; omega
    rw [hfb] at hfit
    have HF := hid hfit
    clear hfit hf hfb
    go_enter Tryd.func3, Tryd.ntmps3
    go_wp2_with (first | (go_at_call 5; refine HF.out.mono ?_; rintro e w1 ⟨rfl, hb⟩) | (go_at_call 6; refine (awake_any _).mono ?_; rintro e w2 ⟨rfl, hb2⟩))
    go_ret
    exact ⟨rfl, (HBC.out.trans (hb.mono HBC.out.size)).trans (hb2.mono (Nat.le_trans HBC.out.size hb.size))⟩
end Go.Proofs.YtcakbheoibaiiaaDoor
