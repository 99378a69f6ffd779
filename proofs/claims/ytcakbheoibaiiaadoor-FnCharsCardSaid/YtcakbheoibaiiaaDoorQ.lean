/- walks: the sizes of steps; answers held against answers -/
import Derived.Test.YtcakbheoibaiiaaDoorL
namespace Go.Proofs.YtcakbheoibaiiaaDoor
open Go.RowKit

set_option maxHeartbeats 400000 in
theorem fits15_any (s : Stp) (w : World) (hs : s.tl ≤ 9223372036854775807) :
    Calls Tryd.prog 16 #[.agg #[.int .u8 s.op, .int .i64 s.a, .int .i64 s.b, .slice s.tA s.tl s.tc]] w fun e w' => e = .returned (.bool (decide (s.tl ≤ 2147483647))) ∧ w.alloc (.cells #[.int .u8 s.op, .int .i64 s.a, .int .i64 s.b, .slice s.tA s.tl s.tc] 31) = w' := by
  by_cases h : s.tl ≤ 2147483647
  · rw [decide_eq_true h]
    have hz : decide ((2147483647 : Int) < (s.tl : Int)) = false := by simp; omega
    go_enter Tryd.func16, Tryd.ntmps16
    go_wp2_with fail
    go_ret
    exact ⟨rfl, rfl⟩
  · rw [decide_eq_false h]
    have hz : decide ((2147483647 : Int) < (s.tl : Int)) = true := by simp; omega
    go_enter Tryd.func16, Tryd.ntmps16
    go_wp2_with fail
    go_ret
    exact ⟨rfl, rfl⟩

def fitsAll (ss : List Stp) : Bool := ss.all fun s => decide (s.tl ≤ 2147483647)

set_option maxHeartbeats 400000 in
theorem fits14_long (A : Option Addr) (n c : Nat) (w : World) (hn : 2147483647 < n) :
    Calls Tryd.prog 9 #[.slice A n c] w fun e w' => e = .returned (.bool false) ∧ Below w.heap.size w w' := by
  have h1 : decide ((2147483647 : Int) < (n : Int)) = true := by simp; omega
  go_enter Tryd.func9, Tryd.ntmps9
  go_wp2_with fail
  go_ret
  exact ⟨rfl, Below.refl _ _⟩

set_option maxHeartbeats 400000 in
theorem fits14_nil (A : Option Addr) (c : Nat) (w : World) :
    Calls Tryd.prog 9 #[.slice A 0 c] w fun e w' => e = .returned (.bool true) ∧ Below w.heap.size w w' := by
  go_enter Tryd.func9, Tryd.ntmps9
  go_wp2_with fail
  refine wp_loop_rounds 1 ?_
  rw [rounds_succ]
  go_wp2_with fail
  go_ret
  exact ⟨rfl, Below.refl _ _⟩

set_option maxHeartbeats 400000 in
theorem fits14_any (g o c : Nat) (ss : List Stp) (w : World) (hg : g < w.heap.size) (hss : StepRow w g o ss) (hn : ss.length ≤ 2147483647) (htl : ∀ s ∈ ss, s.tl ≤ 9223372036854775807) :
    Calls Tryd.prog 9 #[.slice (some ⟨g, o, none⟩) ss.length c] w fun e w' => e = .returned (.bool (fitsAll ss)) ∧ Below w.heap.size w w' := by
  generalize hN : ss.length = N at hn ⊢
  obtain ⟨ANS, hANS⟩ : ∃ ANS, fitsAll ss = ANS := ⟨_, rfl⟩
  rw [hANS]
  have h1 : decide ((2147483647 : Int) < (N : Int)) = false := by simp; omega
  have HS := hid hss
  have HN := hid hN
  have HT := hid htl
  have HA := hid hANS
  clear hss hN htl hANS
  go_enter Tryd.func9, Tryd.ntmps9
  go_wp2_with fail
  go_loopg [10] N (fun k i wr => ∃ j : Nat, j + k = N ∧ i = .int .i64 j ∧ fitsAll (ss.drop j) = ANS ∧ Below w.heap.size w wr)
  case atStart => exact ⟨0, by omega, rfl, HA.out, Below.refl _ _⟩
  case round =>
    obtain ⟨j, hj, rfl, hans, hb⟩ := hrel
    by_cases hlt : j < N
    · obtain ⟨s, hs⟩ : ∃ s, ss[j]? = some s := ⟨ss[j]'(by have := HN.out; omega), List.getElem?_eq_getElem _⟩
      obtain ⟨q0, q1, q2, q3⟩ := HS.out j s hs
      have r0 := (hb.cell (p := ⟨g, o + j * 4, none⟩) hg).trans q0
      have r1 := (hb.cell (p := ⟨g, o + j * 4 + 1, none⟩) hg).trans q1
      have r2 := (hb.cell (p := ⟨g, o + j * 4 + 2, none⟩) hg).trans q2
      have r3 := (hb.cell (p := ⟨g, o + j * 4 + 3, none⟩) hg).trans q3
      have hmem : s ∈ ss := List.mem_of_getElem? hs
      have hcl := fits15_any s (wr.alloc (.cells #[.int .u8 s.op, .int .i64 s.a, .int .i64 s.b, .slice s.tA s.tl s.tc] 31)) (HT.out s hmem)
      rw [drop_cons hs] at hans
      have hbs := hb.size
      have hb2 : Below w.heap.size w ((wr.alloc (.cells #[.int .u8 s.op, .int .i64 s.a, .int .i64 s.b, .slice s.tA s.tl s.tc] 31)).alloc (.cells #[.int .u8 s.op, .int .i64 s.a, .int .i64 s.b, .slice s.tA s.tl s.tc] 31)) := (hb.alloc hbs _).alloc (by simp; omega) _
      have HB2 := hid hb2
      cases hd : decide (s.tl ≤ 2147483647)
      · rw [hd] at hcl
        have HC := hid hcl
        have hfin : ANS = false := by rw [← hans]; simp [fitsAll, hd]
        subst hfin
        clear q0 q1 q2 q3 hs hans hcl hb2 hd hmem
        go_wp2_with (go_at_call 16; refine HC.out.mono ?_; rintro e w2 ⟨rfl, rfl⟩)
        go_ret
        exact ⟨rfl, HB2.out⟩
      · rw [hd] at hcl
        have HC := hid hcl
        have hfin : fitsAll (ss.drop (j + 1)) = ANS := by rw [← hans]; simp [fitsAll, hd]
        have HF := hid hfin
        clear q0 q1 q2 q3 hs hans hcl hb2 hd hmem hfin
        go_wp2_with (go_at_call 16; refine HC.out.mono ?_; rintro e w2 ⟨rfl, rfl⟩)
        go_roundg (gk - 1)
        case measure => omega
        case rel => exact ⟨j + 1, by omega, by go_num, HF.out, HB2.out⟩
    · have HA2 := hid hans
      clear hans
      go_wp2_with fail
      go_ret
      refine ⟨?_, hb⟩
      have h2 := HA2.out
      rw [List.drop_eq_nil_of_le (by have := HN.out; omega)] at h2
      rw [← h2]
      rfl

set_option maxHeartbeats 400000 in
theorem equal_nil (w : World) :
    Calls Tryd.prog 19 #[.slice none 0 0, .slice none 0 0] w fun e w' => e = .returned (.bool true) ∧ w = w' := by
  go_enter Tryd.func19, Tryd.ntmps19
  go_wp2_with fail
  refine wp_loop_rounds 1 ?_
  rw [rounds_succ]
  go_wp2_with fail
  go_ret
  exact ⟨rfl, rfl⟩

set_option maxHeartbeats 400000 in
theorem seen1_same (o : Out) (w : World) :
    Calls Tryd.prog 18 #[.agg #[.int .i64 o.num, .string o.text, .slice none 0 0, .bool o.pan], .agg #[.int .i64 o.num, .string o.text, .slice none 0 0, .bool o.pan]] w fun e w' => e = .returned (.bool true) ∧ Below w.heap.size w w' := by
  have hbb : ∀ W, (binOp .eql 4 (.bool o.pan) (.bool o.pan)).run Tryd.prog W = .ok (.bool true) W := fun W => by cases o.pan <;> kernel_rfl
  have hb : Below w.heap.size w ((w.alloc (.cells #[.int .i64 o.num, .string o.text, .slice none 0 0, .bool o.pan] 34)).alloc (.cells #[.int .i64 o.num, .string o.text, .slice none 0 0, .bool o.pan] 47)) := ((Below.refl _ _).alloc (Nat.le_refl _) _).alloc (by simp) _
  have HB := hid hb
  clear hb
  go_enter Tryd.func18, Tryd.ntmps18
  go_wp2_with (go_at_call 19; refine (equal_nil _).mono ?_; rintro e w2 ⟨rfl, rfl⟩)
  go_ret
  exact ⟨rfl, HB.out⟩
end Go.Proofs.YtcakbheoibaiiaaDoor
