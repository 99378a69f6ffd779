/- walks: FnChars -/
import Derived.Test.YtcakbheoibaiiaaDoorS
namespace Go.Proofs.YtcakbheoibaiiaaDoor
open Go.RowKit

theorem run_take (rs : List Int) : ∀ (ss : List Stp) (i : Int) (outs : List Out), runSteps rs i ss = some outs → outs.length ≤ ss.length ∧ runSteps rs i (ss.take outs.length) = some outs ∧ (ss ≠ [] → outs ≠ []) := by
  intro ss
  induction ss with
  | nil => intro i outs h; simp only [runSteps, Option.some.injEq] at h; subst h; simp [runSteps]
  | cons s r ih =>
    intro i outs h
    simp only [runSteps] at h
    split at h
    · cases h
    · rename_i o i' hs
      cases hp : o.pan
      · rw [hp] at h
        simp only [Bool.false_eq_true, if_false] at h
        obtain ⟨t, h3, h4⟩ := Option.map_eq_some_iff.1 h
        obtain ⟨a, b, _⟩ := ih i' t h3
        subst h4
        refine ⟨by simp; exact a, ?_, by simp⟩
        simp only [List.length_cons, List.take_succ_cons, runSteps, hs, hp]
        rw [b]; rfl
      · rw [hp] at h
        simp only [if_true, Option.some.injEq] at h
        subst h
        refine ⟨by simp, ?_, by simp⟩
        simp [runSteps, hs, hp]

theorem stepRow_take {w : World} {g o : Nat} {ss : List Stp} (h : StepRow w g o ss) (m : Nat) : StepRow w g o (ss.take m) := by
  intro k s hk
  refine h k s ?_
  rw [List.getElem?_take] at hk
  split at hk
  · exact hk
  · cases hk

theorem stepRow_below {w w' : World} {g o : Nat} {ss : List Stp} (h : StepRow w g o ss) (hg : g < w.heap.size) (hb : Below w.heap.size w w') : StepRow w' g o ss := by
  intro k s hk
  obtain ⟨a, b, c, d⟩ := h k s hk
  exact ⟨(hb.cell (p := ⟨g, _, none⟩) hg).trans a, (hb.cell (p := ⟨g, _, none⟩) hg).trans b, (hb.cell (p := ⟨g, _, none⟩) hg).trans c, (hb.cell (p := ⟨g, _, none⟩) hg).trans d⟩

theorem bl {w a b : World} (h : Below w.heap.size w a) (k : Below a.heap.size a b) : Below w.heap.size w b := h.trans (k.mono h.size)
theorem own_below {w w' : World} {base : Nat} {e : TypeId} {size : Nat} {v : Value} {n : Nat} {xs : List Value} (h : w.ownsRow base e size v n xs) (hb : Below w.heap.size w w') : w'.ownsRow base e size v n xs :=
  h.kept (gb_of_below hb none) (by cases v.ownBlock <;> simp)

set_option maxHeartbeats 400000 in
theorem chars_long (s : ByteArray) (A : Option Addr) (n c : Nat) (w : World) (hs : 2147483647 < s.size) :
    Calls Tryd.prog 4 #[.string s, .slice A n c] w fun e w' => e = .returned (.bool true) ∧ Below w.heap.size w w' := by
  have h1 : decide ((2147483647 : Int) < (s.size : Int)) = true := by simp; omega
  go_enter Tryd.func4, Tryd.ntmps4
  go_wp2_with fail
  go_ret
  exact ⟨rfl, Below.refl _ _⟩

set_option maxHeartbeats 400000 in
theorem chars_nofit (s : ByteArray) (A : Option Addr) (n c : Nat) (w : World) (hs : s.size ≤ 2147483647)
    (hF : Calls Tryd.prog 9 #[.slice A n c] w fun e w' => e = .returned (.bool false) ∧ Below w.heap.size w w') :
    Calls Tryd.prog 4 #[.string s, .slice A n c] w fun e w' => e = .returned (.bool true) ∧ Below w.heap.size w w' := by
  have h1 : decide ((2147483647 : Int) < (s.size : Int)) = false := by simp; omega
  have HF := hid hF
  clear hF
  go_enter Tryd.func4, Tryd.ntmps4
  go_wp2_with (go_at_call 9; refine HF.out.mono ?_; rintro e w1 ⟨rfl, hb⟩)
  go_ret
  exact ⟨rfl, hb⟩

set_option maxHeartbeats 400000 in
theorem chars_unfit (s : ByteArray) (A : Option Addr) (n c : Nat) (w : World) (hs : s.size ≤ 2147483647) (hn : n ≤ 2147483647) (hT : Tabs w)
    (hF : Calls Tryd.prog 9 #[.slice A n c] w fun e w' => e = .returned (.bool true) ∧ Below w.heap.size w w') (hf : fitsB s n = false) :
    Calls Tryd.prog 4 #[.string s, .slice A n c] w fun e w' => e = .returned (.bool true) ∧ Below w.heap.size w w' := by
  have h1 : decide ((2147483647 : Int) < (s.size : Int)) = false := by simp; omega
  have hfit : ∀ W, Below w.heap.size w W → Calls Tryd.prog 5 #[.string s, .slice A n c] W fun e w' => e = .returned (.bool false) ∧ Below W.heap.size W w' := fun W hb => hf ▸ charsfit_any s A n c W hs hn (tabs_below hT hb)
  have HF := hid hF
  have HC := hid hfit
  clear hF hfit hf hT
  go_enter Tryd.func4, Tryd.ntmps4
  go_wp2_with (first | (go_at_call 9; refine HF.out.mono ?_; rintro e w1 ⟨rfl, hb⟩) | (go_at_call 5; refine (HC.out _ hb).mono ?_; rintro e w2 ⟨rfl, hb2⟩) | (go_at_call 6; refine (awake_any _).mono ?_; rintro e w3 ⟨rfl, hb3⟩))
  go_ret
  exact ⟨rfl, (hb.trans (hb2.mono hb.size)).trans (hb3.mono (Nat.le_trans hb.size hb2.size))⟩

set_option maxHeartbeats 400000 in
theorem chars_unasked (s : ByteArray) (A : Option Addr) (n c : Nat) (w : World) (hs : s.size ≤ 2147483647) (hn : n ≤ 2147483647) (hT : Tabs w)
    (hF : Calls Tryd.prog 9 #[.slice A n c] w fun e w' => e = .returned (.bool true) ∧ Below w.heap.size w w') (hf : fitsB s n = true)
    (hD : ∀ W, Below w.heap.size w W → Calls Tryd.prog 10 #[.string s, .slice A n c] W fun e w' => e = .returned (.tuple #[.slice none 0 0, .bool false]) ∧ Below W.heap.size W w') :
    Calls Tryd.prog 4 #[.string s, .slice A n c] w fun e w' => e = .returned (.bool true) ∧ Below w.heap.size w w' := by
  have h1 : decide ((2147483647 : Int) < (s.size : Int)) = false := by simp; omega
  have hfit : ∀ W, Below w.heap.size w W → Calls Tryd.prog 5 #[.string s, .slice A n c] W fun e w' => e = .returned (.bool true) ∧ Below W.heap.size W w' := fun W hb => hf ▸ charsfit_any s A n c W hs hn (tabs_below hT hb)
  have HF := hid hF
  have HC := hid hfit
  have HD := hid hD
  clear hF hfit hf hT hD
  go_enter Tryd.func4, Tryd.ntmps4
  go_wp2_with (first | (go_at_call 9; refine HF.out.mono ?_; rintro e w1 ⟨rfl, hb⟩) | (go_at_call 5; refine (HC.out _ hb).mono ?_; rintro e w2 ⟨rfl, hb2⟩) | (go_at_call 10; refine (HD.out _ (hb.trans (hb2.mono hb.size))).mono ?_; rintro e w4 ⟨rfl, hb4⟩) | (go_at_call 6; refine (awake_any _).mono ?_; rintro e w3 ⟨rfl, hb3⟩))
  go_ret
  exact ⟨rfl, ((hb.trans (hb2.mono hb.size)).trans (hb4.mono (Nat.le_trans hb.size hb2.size))).trans (hb3.mono (Nat.le_trans hb.size (Nat.le_trans hb2.size hb4.size)))⟩

set_option maxHeartbeats 800000 in
theorem chars_main (s : ByteArray) (A : Option Addr) (n c m : Nat) (w : World) (hs : s.size ≤ 2147483647) (hn : n ≤ 2147483647) (hT : Tabs w) (hmc : m ≤ c) 
    (hF : Calls Tryd.prog 9 #[.slice A n c] w fun e w' => e = .returned (.bool true) ∧ Below w.heap.size w w') (hf : fitsB s n = true)
    (hD : ∀ W, Below w.heap.size w W → Calls Tryd.prog 10 #[.string s, .slice A n c] W fun e w' => (∃ B d, e = .returned (.tuple #[.slice B m d, .bool true]) ∧ ∃ os b, os.length = m ∧ w'.ownsRow b 47 4 (.slice B m d) m (outCells os) ∧
      ∀ W1, Below w'.heap.size w' W1 → Calls Tryd.prog 8 #[.slice A m c] W1 fun e w2 => ∃ v, e = .returned v ∧ Below W1.heap.size W1 w2 ∧
        Calls Tryd.prog 7 #[.string s, v] w2 fun e w3 => ∃ v1, e = .returned v1 ∧ Below w2.heap.size w2 w3 ∧ Calls Tryd.prog 11 #[v1, .slice B m d] w3 fun e w4 => e = .returned (.bool true) ∧ Below w3.heap.size w3 w4) ∧ Below W.heap.size W w') :
    Calls Tryd.prog 4 #[.string s, .slice A n c] w fun e w' => e = .returned (.bool true) ∧ Below w.heap.size w w' := by
  have h1 : decide ((2147483647 : Int) < (s.size : Int)) = false := by simp; omega
  have hfit : ∀ W, Below w.heap.size w W → Calls Tryd.prog 5 #[.string s, .slice A n c] W fun e w' => e = .returned (.bool true) ∧ Below W.heap.size W w' := fun W hb => hf ▸ charsfit_any s A n c W hs hn (tabs_below hT hb)
  have HF := hid hF
  have HC := hid hfit
  have HD := hid hD
  clear hF hfit hf hT hD
  have hm0 : (0 : Int) ≤ (m : Int) := by omega
  have hm1 : (m : Int) ≤ (c : Int) := by omega
  go_enter Tryd.func4, Tryd.ntmps4
  go_wp2_with (first | (go_at_call 9; refine HF.out.mono ?_; rintro e w1 ⟨rfl, hb⟩) | (go_at_call 5; refine (HC.out _ hb).mono ?_; rintro e w2 ⟨rfl, hb2⟩) | (go_at_call 10; refine (HD.out _ (hb.trans (hb2.mono hb.size))).mono ?_; rintro e w4 ⟨⟨B, d, rfl, os, b, hol, hown, hrest⟩, hb4⟩; have HR := hid hrest; clear hrest hown) | (go_at_call 6; refine (awake_any _).mono ?_; rintro e w3 ⟨rfl, hb3⟩) | (go_at_call 8; refine (HR.out _ hb3).mono ?_; rintro e w5 ⟨v5, rfl, hb5, hc7⟩; have H7 := hid hc7; clear hc7) | (go_at_call 7; refine H7.out.mono ?_; rintro e w6 ⟨v6, rfl, hb6, hc11⟩; have H11 := hid hc11; clear hc11) | (go_at_call 11; refine H11.out.mono ?_; rintro e w7 ⟨rfl, hb7⟩))
  go_ret
  exact ⟨rfl, bl (bl (bl (bl (bl (bl (bl hb hb2) hb4) hb3) hb5) hb6) hb7) (Below.refl _ _)⟩

set_option maxHeartbeats 400000 in
theorem totok_nil (A : Option Addr) (c : Nat) (w : World) :
    Calls Tryd.prog 8 #[.slice A 0 c] w fun e w' => e = .returned (.slice none 0 0) ∧ w = w' := by
  go_enter Tryd.func8, Tryd.ntmps8
  go_wp2_with fail
  refine wp_loop_rounds 1 ?_
  rw [rounds_succ]
  go_wp2_with fail
  go_ret
  exact ⟨rfl, rfl⟩

set_option maxHeartbeats 400000 in
theorem chars_nil (text : ByteArray) (c : Nat) (w : World) (ht : text.size ≤ 1000000) :
    Calls Tryd.prog 7 #[.string text, .slice none 0 c] w fun e w' => e = .returned (.slice none 0 0) ∧ Below w.heap.size w w' := by
  have H := hid (newstream_any text w ht)
  go_enter Tryd.func7, Tryd.ntmps7
  go_wp2_with (go_at_call 14; refine H.out.mono ?_; rintro e w1 ⟨rfl, hb1, hz1, hstrm⟩; have HS := hid hstrm; have HZ := hid hz1; clear hstrm hz1)
  refine wp_loop_rounds 1 ?_
  rw [rounds_succ]
  go_wp2_with fail
  go_ret
  exact ⟨rfl, hb1⟩

set_option maxRecDepth 100000 in
set_option maxHeartbeats 800000 in
theorem charsdo_nil (text : ByteArray) (A : Option Addr) (c : Nat) (w : World) (ht : text.size ≤ 1000000) :
    Calls Tryd.prog 10 #[.string text, .slice A 0 c] w fun e w' => e = .returned (.tuple #[.slice none 0 0, .bool true]) ∧ Below w.heap.size w w' := by
  obtain ⟨cc, C, hcc, hconv, hC⟩ := conv_runes text w (by omega)
  have hbC : Below w.heap.size w (w.drew.alloc (.cells C 21)) := (Below.refl _ _).drew.alloc (Nat.le_refl _) _
  have HBC := hid hbC
  clear hC hcc hbC
  generalize (runes text).length = n at hconv
  go_enter Tryd.func10, Tryd.ntmps10
  go_wp2_with fail
  refine wp_loop_rounds 1 ?_
  rw [rounds_succ]
  go_wp2_with fail
  go_ret2
  exact ⟨rfl, HBC.out⟩

theorem fitsB_parts {s : ByteArray} {n : Nat} (h : fitsB s n = true) : s.size ≤ 200 ∧ plain s = true ∧ n ≤ 60 := by
  unfold fitsB at h
  simp only [Bool.and_eq_true, decide_eq_true_eq] at h
  exact ⟨h.1, h.2.2.1, h.2.2.2⟩

/-- FnChars without steps -/
theorem law_empty (s : ByteArray) (A : Option Addr) (c : Nat) (w : World) (hT : Tabs w) :
    Calls Tryd.prog 4 #[.string s, .slice A 0 c] w fun e w' => e = .returned (.bool true) ∧ Below w.heap.size w w' := by
  by_cases h1 : s.size ≤ 2147483647
  · cases hf : fitsB s 0
    · exact chars_unfit s A 0 c w h1 (by omega) hT (fits14_nil A c w) hf
    · obtain ⟨hs, _, _⟩ := fitsB_parts hf
      refine chars_main s A 0 c 0 w h1 (by omega) hT (by omega) (fits14_nil A c w) hf ?_
      intro W hb
      refine (charsdo_nil s A c W (by omega)).mono ?_
      rintro e w' ⟨rfl, hb'⟩
      refine ⟨⟨none, 0, rfl, [], 0, rfl, World.ownsRow_nil _ _ _ _, ?_⟩, hb'⟩
      intro W1 _
      refine (totok_nil A c W1).mono ?_
      rintro e w2 ⟨rfl, rfl⟩
      refine ⟨_, rfl, Below.refl _ _, ?_⟩
      refine (chars_nil s 0 W1 (by omega)).mono ?_
      rintro e w3 ⟨rfl, hb3⟩
      refine ⟨_, rfl, hb3, ?_⟩
      exact seenis_same (.slice none 0 0) (.slice none 0 0) [] 0 0 w3 (World.ownsRow_nil _ _ _ _) (World.ownsRow_nil _ _ _ _) (by decide)
  · exact chars_long s A 0 c w (by omega)

/-- FnChars at some steps -/
theorem law_steps (s : ByteArray) (g o c : Nat) (ss : List Stp) (w : World) (hT : Tabs w) (hg : g < w.heap.size) (hss : StepRow w g o ss) (hc : ss.length ≤ c) (htl : ∀ x ∈ ss, x.tl ≤ 9223372036854775807) (h0 : 0 < ss.length) :
    Calls Tryd.prog 4 #[.string s, .slice (some ⟨g, o, none⟩) ss.length c] w fun e w' => e = .returned (.bool true) ∧ Below w.heap.size w w' := by
  by_cases h1 : s.size ≤ 2147483647
  · by_cases hn : ss.length ≤ 2147483647
    · have hfit := fits14_any g o c ss w hg hss hn htl
      cases hfa : fitsAll ss
      · rw [hfa] at hfit
        exact chars_nofit s _ _ c w h1 hfit
      · rw [hfa] at hfit
        cases hf : fitsB s ss.length
        · exact chars_unfit s _ _ c w h1 hn hT hfit hf
        · obtain ⟨hs, hpl, hn60⟩ := fitsB_parts hf
          have hdo : ∀ W, Below w.heap.size w W → Calls Tryd.prog 10 #[.string s, .slice (some ⟨g, o, none⟩) ss.length c] W (ChPost (runSteps (runes s) 0 ss) W) := fun W hb =>
            charsdo_any s g o c ss _ W hs hpl (Nat.lt_of_lt_of_le hg hb.size) (stepRow_below hss hg hb) (by omega) (by unfold RunO; simp)
          cases hr : runSteps (runes s) 0 ss with
          | none =>
            refine chars_unasked s _ _ c w h1 hn hT hfit hf ?_
            intro W hb
            have h := hdo W hb
            rw [hr] at h
            exact h
          | some outs =>
            obtain ⟨hol, htk, hne⟩ := run_take (runes s) ss 0 outs hr
            have hop : 0 < outs.length := by
              have : outs ≠ [] := hne (by intro e; rw [e] at h0; simp at h0)
              exact List.length_pos_iff.2 this
            have htl' : (ss.take outs.length).length = outs.length := by simp; omega
            refine chars_main s _ ss.length c outs.length w h1 hn hT (by omega) hfit hf ?_
            intro W hb
            have h := hdo W hb
            rw [hr] at h
            refine h.mono ?_
            rintro e w' ⟨⟨v, rfl, hown⟩, hb'⟩
            obtain ⟨g3, c3, rfl, _, _⟩ := hown.form hop
            refine ⟨⟨_, _, rfl, outs, W.heap.size, rfl, hown, ?_⟩, hb'⟩
            intro W1 hb1
            have hbW1 : Below w.heap.size w W1 := bl (bl hb hb') hb1
            have ht := totok_some g o c (ss.take outs.length) W1 (Nat.lt_of_lt_of_le hg hbW1.size) (stepRow_below (stepRow_take hss _) hg hbW1) (by omega)
            rw [htl'] at ht
            refine ht.mono ?_
            rintro e w2 ⟨v5, rfl, hown5, hb5⟩
            refine ⟨_, rfl, hb5, ?_⟩
            obtain ⟨g5, c5, rfl, _, hl5⟩ := hown5.form hop
            have hrow : StepRow w2 g5 0 (ss.take outs.length) := stepRow_own (by rw [htl']; exact hown5)
            have hch := chars_any s g5 0 c5 (ss.take outs.length) outs w2 (by omega) hl5 hrow (by omega) htk
            rw [htl'] at hch
            refine hch.mono ?_
            rintro e w3 ⟨v6, rfl, hown6, hb6⟩
            refine ⟨_, rfl, hb6, ?_⟩
            exact seenis_same v6 _ outs _ _ w3 hown6 (own_below (own_below (own_below hown hb1) hb5) hb6) (by omega)
    · exact chars_nofit s _ _ c w h1 (fits14_long _ _ c w (by omega))
  · exact chars_long s _ _ c w (by omega)
end Go.Proofs.YtcakbheoibaiiaaDoor
