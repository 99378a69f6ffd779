/- walks: FnCharsText, the main way -/
import Derived.Test.YtcakbheoibaiiaaDoorM
import Derived.Deep.RegionHeld3
namespace Go.Proofs.YtcakbheoibaiiaaDoor
open Go.RowKit

/-- the five steps of FnCharsText -/
def fiveSteps (k m : Nat) : List Stp := [⟨6, 0, k, none, 0, 0⟩, ⟨6, (k : Int) + 1, m, none, 0, 0⟩, ⟨7, 0, k, none, 0, 0⟩, ⟨7, (k : Int) + 1, m, none, 0, 0⟩, ⟨8, 0, 0, none, 0, 0⟩]
def fiveOuts (t1 t2 t : ByteArray) : List Out := [⟨0, t1, false⟩, ⟨0, t2, false⟩, ⟨0, t1, false⟩, ⟨0, t2, false⟩, ⟨0, t, false⟩]

theorem five_run (rs : List Int) (k m : Nat) (hm : rs.length = m + 1) (hk : k < m) :
    runSteps rs 0 (fiveSteps k m) = some (fiveOuts (runesBytes (rs.take (k + 1))) (runesBytes (rs.drop (k + 1))) (runesBytes rs)) := by
  have e1 : ((k : Int) + 1).toNat = k + 1 := by omega
  have e2 : (rs.drop (k + 1)).take (m + 1 - (k + 1)) = rs.drop (k + 1) := List.take_of_length_le (by simp; omega)
  have h1 : ¬ ((0 : Int) < 0 ∨ (k : Int) < 0 ∨ (rs.length : Int) ≤ k) := by omega
  have h2 : ¬ ((k : Int) + 1 < 0 ∨ (m : Int) < (k : Int) + 1 ∨ (rs.length : Int) ≤ m) := by omega
  have s1 : ∀ o : Int, o = 6 ∨ o = 7 → stepTo rs 0 ⟨o, 0, k, none, 0, 0⟩ = some (⟨0, runesBytes (rs.take (k + 1)), false⟩, 0) := by
    rintro o (rfl | rfl) <;> simp only [stepTo] <;> rw [if_neg (by decide), if_neg (by decide), if_neg (by decide), if_neg (by decide), if_neg (by decide), if_neg (by decide), if_pos (by decide), if_neg h1] <;> simp
  have s2 : ∀ o : Int, o = 6 ∨ o = 7 → stepTo rs 0 ⟨o, (k : Int) + 1, m, none, 0, 0⟩ = some (⟨0, runesBytes (rs.drop (k + 1)), false⟩, 0) := by
    rintro o (rfl | rfl) <;> simp only [stepTo] <;> rw [if_neg (by decide), if_neg (by decide), if_neg (by decide), if_neg (by decide), if_neg (by decide), if_neg (by decide), if_pos (by decide), if_neg h2, e1, Int.toNat_natCast, e2]
  have s3 : stepTo rs 0 ⟨8, 0, 0, none, 0, 0⟩ = some (⟨0, runesBytes rs, false⟩, 0) := by simp [stepTo]
  simp only [fiveSteps, runSteps, s1 6 (.inl rfl), s1 7 (.inr rfl), s2 6 (.inl rfl), s2 7 (.inr rfl), s3, fiveOuts]
  simp

set_option maxHeartbeats 2000000 in
theorem text_main (s : ByteArray) (cut : Int) (m k : Nat) (w : World) (hT : Tabs w) (hf : fitsB s 0 = true) (hc0 : 0 ≤ cut) (hc1 : cut ≤ 255) (hm : (runes s).length = m + 1) (hm1 : 0 < m) (hk : cut % (m : Int) = k) (hkm : k < m) :
    Calls Tryd.prog 3 #[.string s, .int .u8 cut] w fun e w' => e = .returned (.bool true) ∧ Below w.heap.size w w' := by
  have hs : s.size ≤ 200 := by
    unfold fitsB at hf
    simp only [Bool.and_eq_true, decide_eq_true_eq] at hf
    exact hf.1
  have hpl : plain s = true := by
    unfold fitsB at hf
    simp only [Bool.and_eq_true, decide_eq_true_eq] at hf
    exact hf.2.2.1
  have htx := plain_text s hpl
  obtain ⟨c, C, hc, hconv, hC⟩ := conv_runes s w (by omega)
  have hbC : Below w.heap.size w (w.drew.alloc (.cells C 21)) := (Below.refl _ _).drew.alloc (Nat.le_refl _) _
  have hfit := charsfit_any s none 0 0 (w.drew.alloc (.cells C 21)) (by omega) (by omega) (tabs_below hT hbC)
  have h1 : decide ((2147483647 : Int) < (s.size : Int)) = false := by simp; omega
  have hHBC := hbC
  have HBC := hid hbC
  have hml : m ≤ 200 := by have := runes_length s; omega
  rw [hf] at hfit
  have HF := hid hfit
  rw [hm] at hconv hC hc
  obtain ⟨T1, hT1⟩ : ∃ T1, runesBytes ((runes s).take (k + 1)) = T1 := ⟨_, rfl⟩
  obtain ⟨T2, hT2⟩ : ∃ T2, runesBytes ((runes s).drop (k + 1)) = T2 := ⟨_, rfl⟩
  have h12 : T1 ++ T2 = s := by rw [← hT1, ← hT2, ← runesBytes_append, List.take_append_drop, htx]
  have hrun := five_run (runes s) k m hm hkm
  rw [hT1, hT2, htx] at hrun
  -- string(l[:k]) at any later world
  have hcv : ∀ W, Below (w.heap.size + 1) (w.drew.alloc (.cells C 21)) W → (convert 22 9 (.slice (some ⟨w.heap.size, 0, none⟩) (k + 1) c)).run Tryd.prog W = .ok (.string T1) W := by
    intro W hb
    rw [← hT1]
    refine run_convert_runes W 22 9 21 ⟨w.heap.size, 0, none⟩ (k + 1) c (runes s) (by omega) Tryd.underlying22 Tryd.underlying21 Tryd.underlying9 ?_
    intro j hj
    have ea : (⟨w.heap.size, 0, none⟩ : Addr).add j = ⟨w.heap.size, j, none⟩ := by
      unfold Addr.add; split
      · subst_vars; rfl
      · simp
    rw [ea, hb.cell (p := ⟨w.heap.size, j, none⟩) (by simp)]
    have := World.cell?_alloc_mark w.drew C 21 (0, 0) j
    exact this.trans (hC j (by omega))
  have hchars : ∀ (W : World) (g c : Nat), g < W.heap.size → StepRow W g 0 (fiveSteps k m) → Calls Tryd.prog 7 #[.string s, .slice (some ⟨g, 0, none⟩) 5 c] W fun e w' => ∃ v, e = .returned v ∧ w'.ownsRow W.heap.size 34 4 v 5 (outCells (fiveOuts T1 T2 s)) ∧ Below W.heap.size W w' :=
    fun W g c hg hr => chars_any s g 0 c (fiveSteps k m) _ W (by omega) hg hr (by show 5 ≤ 1000000; omega) hrun
  have htok : ∀ (W : World) (g c : Nat), g < W.heap.size → StepRow W g 0 (fiveSteps k m) → Calls Tryd.prog 8 #[.slice (some ⟨g, 0, none⟩) 5 c] W fun e w' => ∃ v, e = .returned v ∧ w'.ownsRow W.heap.size 42 4 v 5 (stpCells (fiveSteps k m)) ∧ Below W.heap.size W w' :=
    fun W g c hg hr => totok_some g 0 c (fiveSteps k m) W hg hr (by show 5 ≤ 1000000; omega)
  have HCV := hid hcv
  have HCH := hid hchars
  have HTK := hid htok
  have hn2 : decide ((m : Int) + 1 < 2) = false := by simp; omega
  have hkc : k + 1 ≤ c := by omega
  have hq : (m : Int) ≠ 0 := by omega
  clear hcv hchars htok hrun hT1 hT2 hC hbC hfit hf htx hpl hT hm hHBC
  have hcat : ∀ W, (Op.stringOp .add T1 T2).run Tryd.prog W = .ok (.string s) W := fun W => by
    have hz : T1.size + T2.size ≤ 200 := by rw [← ByteArray.size_append, h12]; exact hs
    rw [run_string_add_sum W T1 T2 (by omega), h12]
  have HCAT := hid hcat
  clear hcat h12
  have e1k : (1 : Int) + (k : Int) = (k : Int) + 1 := by omega
  go_enter Tryd.func3, Tryd.ntmps3
  go_wp2_with (first | (go_at_call 5; refine HF.out.mono ?_; rintro e w1 ⟨rfl, hb1⟩) | (go_at_call 8; refine (HTK.out _ w1.heap.size 5 (by simp) (stepRow_new w1 (fiveSteps k m) 31)).mono ?_; rintro e w2 ⟨v2, rfl, hown2, hb2⟩; obtain ⟨g2, c2, rfl, hg2, hl2⟩ := hown2.form (by decide)) | (go_at_call 7; refine (HCH.out _ g2 c2 hl2 (stepRow_own hown2)).mono ?_; rintro e w3 ⟨v3, rfl, hown3, hb3⟩; obtain ⟨g3, c3, rfl, hg3, hl3⟩ := hown3.form (by decide)))
  have c1 : w3.cell? ⟨g3, 1, none⟩ = some (.string T1) := (hown3.cellAt 1 (by decide)).trans rfl
  have c5 : w3.cell? ⟨g3, 5, none⟩ = some (.string T2) := (hown3.cellAt 5 (by decide)).trans rfl
  have c9 : w3.cell? ⟨g3, 9, none⟩ = some (.string T1) := (hown3.cellAt 9 (by decide)).trans rfl
  have c13 : w3.cell? ⟨g3, 13, none⟩ = some (.string T2) := (hown3.cellAt 13 (by decide)).trans rfl
  have c17 : w3.cell? ⟨g3, 17, none⟩ = some (.string s) := (hown3.cellAt 17 (by decide)).trans rfl
  have sz1 : w.heap.size + 1 ≤ w1.heap.size := by have := hb1.size; simp at this; omega
  have sz2 : w1.heap.size + 1 ≤ w2.heap.size := by have := hb2.size; simp at this; omega
  have sz3 := hb3.size
  have bq : Below (w.heap.size + 1) (w.drew.alloc (.cells C 21)) w3 := ((hb1.mono (by simp)).trans (((Below.refl _ _).alloc (by omega) _).trans (hb2.mono (by simp; omega)))).trans (hb3.mono (by omega))
  have hconv3 := HCV.out w3 bq
  have hbw : Below w.heap.size w w3 := HBC.out.trans (bq.mono (by omega))
  have BQ := hid bq
  have BW := hid hbw
  have keepW : ∀ W, Below w3.heap.size w3 W → W.cell? ⟨g3, 1, none⟩ = some (.string T1) ∧ W.cell? ⟨g3, 5, none⟩ = some (.string T2) ∧ W.cell? ⟨g3, 9, none⟩ = some (.string T1) ∧ W.cell? ⟨g3, 13, none⟩ = some (.string T2) ∧ W.cell? ⟨g3, 17, none⟩ = some (.string s) ∧ (convert 22 9 (.slice (some ⟨w.heap.size, 0, none⟩) (k + 1) c)).run Tryd.prog W = .ok (.string T1) W := fun W hb =>
    ⟨(hb.cell (p := ⟨g3, 1, none⟩) hl3).trans c1, (hb.cell (p := ⟨g3, 5, none⟩) hl3).trans c5, (hb.cell (p := ⟨g3, 9, none⟩) hl3).trans c9, (hb.cell (p := ⟨g3, 13, none⟩) hl3).trans c13, (hb.cell (p := ⟨g3, 17, none⟩) hl3).trans c17, HCV.out W (bq.trans (hb.mono (by omega)))⟩
  have KW := hid keepW
  have hk0 : (0 : Int) ≤ (k : Int) + 1 := by omega
  have hk1 : (k : Int) + 1 ≤ (c : Int) := by omega
  clear keepW hb1 hb2 hb3 hown2 hown3 hg2 hl2 hg3 sz1 sz2 sz3 bq hbw HF HCH HTK HBC hconv
  have hcat := HCAT.out
  go_region_held3 (fun W => W.cell? ⟨g3, 1, none⟩ = some (.string T1) ∧ W.cell? ⟨g3, 5, none⟩ = some (.string T2) ∧ W.cell? ⟨g3, 9, none⟩ = some (.string T1) ∧ W.cell? ⟨g3, 13, none⟩ = some (.string T2) ∧ W.cell? ⟨g3, 17, none⟩ = some (.string s) ∧ (convert 22 9 (.slice (some ⟨w.heap.size, 0, none⟩) (k + 1) c)).run Tryd.prog W = .ok (.string T1) W)
    (first | exact KW.out _ ((Below.refl _ _).drew) | exact KW.out _ ((Below.refl _ _).drew.trans hb4))
    ((go_at_call 6; refine (awake_any _).mono ?_; rintro e w4 ⟨rfl, hb4⟩))
  clear HCV KW BQ c1 c5 c9 c13 c17 hconv3 hcat HCAT
  go_wp2
  go_ret
  exact ⟨rfl, BW.out.drew.trans (hb4.mono BW.out.size)⟩

theorem text_any (s : ByteArray) (cut : Int) (w : World) (hT : Tabs w) (hc0 : 0 ≤ cut) (hc1 : cut ≤ 255) (hs : s.size ≤ 9223372036854775807) :
    Calls Tryd.prog 3 #[.string s, .int .u8 cut] w fun e w' => e = .returned (.bool true) ∧ Below w.heap.size w w' := by
  by_cases h1 : s.size ≤ 2147483647
  · by_cases h2 : fitsB s 0 = false ∨ (runes s).length < 2
    · exact text_unfit s cut w h1 hT h2
    · have hf : fitsB s 0 = true := by
        cases h : fitsB s 0
        · exact absurd (Or.inl h) h2
        · rfl
      have hl : ¬ (runes s).length < 2 := fun h => h2 (.inr h)
      obtain ⟨m, hm⟩ : ∃ m, (runes s).length = m + 1 := ⟨(runes s).length - 1, by omega⟩
      have hm1 : 0 < m := by omega
      have hr0 := Int.emod_nonneg cut (show (m : Int) ≠ 0 by omega)
      have hr1 := Int.emod_lt_of_pos cut (show (0 : Int) < m by omega)
      exact text_main s cut m (cut % (m : Int)).toNat w hT hf hc0 hc1 hm hm1 (by omega) (by omega)
  · exact text_long s cut w (by omega)
end Go.Proofs.YtcakbheoibaiiaaDoor
