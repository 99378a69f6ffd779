/- spec.BitsOf: lists with a number that is beyond -/
import Derived.Test.YtifoeehfblddcaaDoorO
namespace Go.Proofs.YtifoeehfblddcaaDoor
open Go.RowKit

set_option maxHeartbeats 1600000 in
theorem bitsof_bad1 (A B : Option Addr) (ca cb : Nat) (xs ys : List Int) (w : World) (ha : Ints w A ca xs) (hb : Ints w B cb ys) (p : Nat) (hp : p < xs.length) (hbad : xs.getD p 0 < 0 ∨ 200 < xs.getD p 0) (h2a : ∀ j, j < p → 0 ≤ xs.getD j 0 ∧ xs.getD j 0 ≤ 200) (hla : xs.length ≤ 2147483647) (hlb : ys.length ≤ 2147483647) :
    Calls Tryd.prog 6 #[.slice A xs.length ca, .slice B ys.length cb] w fun e w' => e = .returned (.tuple #[.map none, .bool false]) ∧ Below w.heap.size w w' := by
  have HA := hid ha
  have HB := hid hb
  have H2A := hid h2a
  have HBAD := hid hbad
  have hca := ha.cap
  have hcb := hb.cap
  have hsa := fun j (hj : j < xs.length) => putAll_succ (fun _ => false) xs j hj
  have hsb := fun j (hj : j < ys.length) => delAll_succ (putAll (fun _ => false) xs) ys j hj
  have hta : putAll (fun _ => false) (xs.take xs.length) = putAll (fun _ => false) xs := by rw [List.take_length]
  have htb : delAll (putAll (fun _ => false) xs) (ys.take ys.length) = delAll (putAll (fun _ => false) xs) ys := by rw [List.take_length]
  have hmade := World.ownsMap_made (H := Unit) w Tryd.prog 3 (plainElem Tryd.prog 4)
  have hmm := @run_makeMap Tryd.prog
  generalize hN : xs.length = N at *
  generalize hM : ys.length = M at *
  have HN := hid hN
  have HM := hid hM
  have HSA := hid hsa
  have HSB := hid hsb
  have HTA := hid hta
  have HTB := hid htb
  have HMADE := hid hmade
  clear ha hb h2a hbad hN hM hsa hsb hta htb hmade
  go_enter Tryd.func6, Tryd.ntmps6
  go_wp2_with fail
  go_loopg [14] p (fun k i wr => ∃ j : Nat, j + k = p ∧ i = .int .i64 j ∧ Below w.heap.size w wr ∧ ∃ D, wr.ownsMap (H := Unit) Tryd.prog 3 (plainElem Tryd.prog 4) w.heap.size j D ∧ MapF D (putAll (fun _ => false) (xs.take j)))
  case atStart => exact ⟨0, by omega, rfl, bl1 w _, _, HMADE.out, mapF_nil⟩
  case round =>
    obtain ⟨j, hj, rfl, hbw, D, hown, hf⟩ := hrel
    obtain ⟨g, o, rfl, hg, hcs⟩ := HA.out.row (by rw [HN.out]; omega)
    have r0 := (hbw.cell (p := ⟨g, o + j, none⟩) hg).trans (hcs j (by rw [HN.out]; omega))
    by_cases hlt : j < p
    · have hs1 := HSA.out j (by omega)
      have h2 := H2A.out j hlt
      obtain ⟨v, hv⟩ : ∃ v : Nat, xs.getD j 0 = v := ⟨(xs.getD j 0).toNat, by omega⟩
      rw [hv] at r0 hs1 h2
      rw [Int.toNat_natCast] at hs1
      have hd1 : decide ((v : Int) < 0) = false := by simp
      have hd2 : decide ((200 : Int) < (v : Int)) = false := by simp; omega
      obtain ⟨w', D', hrun, hown', hf', hgr⟩ := Mset.put (by omega) hown hf v (by omega)
      have HOWN := hid hown'
      have HF := hid hf'
      have HGR := hid hgr
      have HBW := hid hbw
      have HS1 := hid hs1
      have hjN : j < N := by omega
      clear hown hf hown' hf' hgr hv hcs hs1 hbw h2
      go_wp2_with fail
      go_roundg (gk - 1)
      case measure => omega
      case rel => exact ⟨j + 1, by omega, by go_num, HBW.out.grown HGR.out HBW.out.size (fun k hk => by cases hk; exact Nat.le_refl _), D', HOWN.out, by rw [HS1.out]; exact HF.out⟩
    · have hjN : j = p := by omega
      subst hjN
      have hbd := HBAD.out
      generalize xs.getD j 0 = z at *
      have HBW := hid hbw
      clear hown hf hbw hcs
      by_cases hz : z < 0
      · have hd1 : decide (z < 0) = true := by simp [hz]
        clear hbd
        go_wp2_with fail
        go_ret2
        exact ⟨rfl, HBW.out⟩
      · have hd1 : decide (z < 0) = false := by simp [hz]
        have hd2 : decide (200 < z) = true := by simp; omega
        clear hbd hz
        go_wp2_with fail
        go_ret2
        exact ⟨rfl, HBW.out⟩

set_option maxHeartbeats 1600000 in
theorem bitsof_bad2 (A B : Option Addr) (ca cb : Nat) (xs ys : List Int) (w : World) (ha : Ints w A ca xs) (hb : Ints w B cb ys) (h2a : ∀ j, j < xs.length → 0 ≤ xs.getD j 0 ∧ xs.getD j 0 ≤ 200) (p : Nat) (hp : p < ys.length) (hbad : ys.getD p 0 < 0 ∨ 200 < ys.getD p 0) (h2b : ∀ j, j < p → 0 ≤ ys.getD j 0 ∧ ys.getD j 0 ≤ 200) (hla : xs.length ≤ 2147483647) (hlb : ys.length ≤ 2147483647) :
    Calls Tryd.prog 6 #[.slice A xs.length ca, .slice B ys.length cb] w fun e w' => e = .returned (.tuple #[.map none, .bool false]) ∧ Below w.heap.size w w' := by
  have HA := hid ha
  have HB := hid hb
  have H2A := hid h2a
  have H2B := hid h2b
  have HBAD := hid hbad
  have hca := ha.cap
  have hcb := hb.cap
  have hsa := fun j (hj : j < xs.length) => putAll_succ (fun _ => false) xs j hj
  have hsb := fun j (hj : j < ys.length) => delAll_succ (putAll (fun _ => false) xs) ys j hj
  have hta : putAll (fun _ => false) (xs.take xs.length) = putAll (fun _ => false) xs := by rw [List.take_length]
  have htb : delAll (putAll (fun _ => false) xs) (ys.take ys.length) = delAll (putAll (fun _ => false) xs) ys := by rw [List.take_length]
  have hmade := World.ownsMap_made (H := Unit) w Tryd.prog 3 (plainElem Tryd.prog 4)
  have hmm := @run_makeMap Tryd.prog
  generalize hN : xs.length = N at *
  generalize hM : ys.length = M at *
  have HN := hid hN
  have HM := hid hM
  have HSA := hid hsa
  have HSB := hid hsb
  have HTA := hid hta
  have HTB := hid htb
  have HMADE := hid hmade
  clear ha hb h2a h2b hbad hN hM hsa hsb hta htb hmade
  go_enter Tryd.func6, Tryd.ntmps6
  go_wp2_with fail
  go_loopg [14] N (fun k i wr => ∃ j : Nat, j + k = N ∧ i = .int .i64 j ∧ Below w.heap.size w wr ∧ ∃ D, wr.ownsMap (H := Unit) Tryd.prog 3 (plainElem Tryd.prog 4) w.heap.size j D ∧ MapF D (putAll (fun _ => false) (xs.take j)))
  case atStart => exact ⟨0, by omega, rfl, bl1 w _, _, HMADE.out, mapF_nil⟩
  case round =>
    obtain ⟨j, hj, rfl, hbw, D, hown, hf⟩ := hrel
    by_cases hlt : j < N
    · obtain ⟨g, o, rfl, hg, hcs⟩ := HA.out.row (by rw [HN.out]; omega)
      have r0 := (hbw.cell (p := ⟨g, o + j, none⟩) hg).trans (hcs j (by rw [HN.out]; exact hlt))
      have hs1 := HSA.out j hlt
      have h2 := H2A.out j hlt
      obtain ⟨v, hv⟩ : ∃ v : Nat, xs.getD j 0 = v := ⟨(xs.getD j 0).toNat, by omega⟩
      rw [hv] at r0 hs1 h2
      rw [Int.toNat_natCast] at hs1
      have hd1 : decide ((v : Int) < 0) = false := by simp
      have hd2 : decide ((200 : Int) < (v : Int)) = false := by simp; omega
      obtain ⟨w', D', hrun, hown', hf', hgr⟩ := Mset.put (by omega) hown hf v (by omega)
      have HOWN := hid hown'
      have HF := hid hf'
      have HGR := hid hgr
      have HBW := hid hbw
      have HS1 := hid hs1
      clear hown hf hown' hf' hgr hv hcs hs1 hbw h2
      go_wp2_with fail
      go_roundg (gk - 1)
      case measure => omega
      case rel => exact ⟨j + 1, by omega, by go_num, HBW.out.grown HGR.out HBW.out.size (fun k hk => by cases hk; exact Nat.le_refl _), D', HOWN.out, by rw [HS1.out]; exact HF.out⟩
    · have hjN : j = N := by omega
      subst hjN
      have HOWN1 := hid hown
      have HF1 := hid hf
      have HBW1 := hid hbw
      rw [HTA.out] at HF1
      clear hown hf hbw
      go_wp2_with fail
      go_loopg [29] p (fun k i wr => ∃ j2 : Nat, j2 + k = p ∧ i = .int .i64 j2 ∧ Below w.heap.size w wr ∧ ∃ D, wr.ownsMap (H := Unit) Tryd.prog 3 (plainElem Tryd.prog 4) w.heap.size j D ∧ MapF D (delAll (putAll (fun _ => false) xs) (ys.take j2)))
      case atStart => exact ⟨0, by omega, rfl, HBW1.out, D, HOWN1.out, HF1.out⟩
      case round =>
        obtain ⟨j2, hj2, rfl, hbw, D2, hown, hf⟩ := hrel
        obtain ⟨g, o, rfl, hg, hcs⟩ := HB.out.row (by rw [HM.out]; omega)
        have r0 := (hbw.cell (p := ⟨g, o + j2, none⟩) hg).trans (hcs j2 (by rw [HM.out]; omega))
        by_cases hlt : j2 < p
        · have hs1 := HSB.out j2 (by omega)
          have h2 := H2B.out j2 hlt
          obtain ⟨v, hv⟩ : ∃ v : Nat, ys.getD j2 0 = v := ⟨(ys.getD j2 0).toNat, by omega⟩
          rw [hv] at r0 hs1 h2
          rw [Int.toNat_natCast] at hs1
          have hd1 : decide ((v : Int) < 0) = false := by simp
          have hd2 : decide ((200 : Int) < (v : Int)) = false := by simp; omega
          obtain ⟨w', D', hrun, hown', hf', hgr⟩ := Mset.del hown hf v (by omega)
          have HOWN := hid hown'
          have HF := hid hf'
          have HGR := hid hgr
          have HBW := hid hbw
          have HS1 := hid hs1
          have hjM : j2 < M := by omega
          clear hown hf hown' hf' hgr hv hcs hs1 hbw h2
          go_wp2_with fail
          go_roundg (gk - 1)
          case measure => omega
          case rel => exact ⟨j2 + 1, by omega, by go_num, HBW.out.grown HGR.out HBW.out.size (fun k hk => by cases hk; exact Nat.le_refl _), D', HOWN.out, by rw [HS1.out]; exact HF.out⟩
        · have hjM : j2 = p := by omega
          subst hjM
          have hbd := HBAD.out
          generalize ys.getD j2 0 = z at *
          have HBW := hid hbw
          clear hown hf hbw hcs
          by_cases hz : z < 0
          · have hd1 : decide (z < 0) = true := by simp [hz]
            clear hbd
            go_wp2_with fail
            go_ret2
            exact ⟨rfl, HBW.out⟩
          · have hd1 : decide (z < 0) = false := by simp [hz]
            have hd2 : decide (200 < z) = true := by simp; omega
            clear hbd hz
            go_wp2_with fail
            go_ret2
            exact ⟨rfl, HBW.out⟩


/-- BitsOf at any two lists -/
def goodL (xs : List Int) : Bool := xs.all fun z => decide (0 ≤ z ∧ z ≤ 200)

theorem goodL_true {xs : List Int} (h : goodL xs = true) : ∀ j, j < xs.length → 0 ≤ xs.getD j 0 ∧ xs.getD j 0 ≤ 200 := by
  intro j hj
  have := List.all_eq_true.1 h (xs.getD j 0) (by simp [hj])
  simpa using this
theorem goodL_false {xs : List Int} (h : goodL xs = false) : ∃ p, p < xs.length ∧ (xs.getD p 0 < 0 ∨ 200 < xs.getD p 0) ∧ ∀ j, j < p → 0 ≤ xs.getD j 0 ∧ xs.getD j 0 ≤ 200 := by
  induction xs with
  | nil => simp [goodL] at h
  | cons x r ih =>
    by_cases hx : 0 ≤ x ∧ x ≤ 200
    · have h2 : goodL r = false := by
        unfold goodL at h ⊢
        rw [List.all_cons] at h
        simpa [hx] using h
      obtain ⟨p, h3, h4, h5⟩ := ih h2
      refine ⟨p + 1, by simp; exact h3, by simpa using h4, ?_⟩
      intro j hj
      cases j with
      | zero => simpa using hx
      | succ j => simpa using h5 j (by omega)
    · exact ⟨0, by simp, by simp; omega, fun j hj => by omega⟩

theorem bitsof_any (A B : Option Addr) (ca cb : Nat) (xs ys : List Int) (w : World) (ha : Ints w A ca xs) (hb : Ints w B cb ys) (hla : xs.length ≤ 2147483647) (hlb : ys.length ≤ 2147483647) :
    Calls Tryd.prog 6 #[.slice A xs.length ca, .slice B ys.length cb] w fun e w' => ((goodL xs && goodL ys) = true ∧ (∃ mb, e = .returned (.tuple #[.map (some mb), .bool true]) ∧ w.heap.size ≤ mb ∧ Mset w' mb (delAll (putAll (fun _ => false) xs) ys)) ∨ (goodL xs && goodL ys) = false ∧ e = .returned (.tuple #[.map none, .bool false])) ∧ Below w.heap.size w w' := by
  cases h1 : goodL xs
  · obtain ⟨p, h3, h4, h5⟩ := goodL_false h1
    refine (bitsof_bad1 A B ca cb xs ys w ha hb p h3 h4 h5 hla hlb).mono ?_
    rintro e w' ⟨h6, h7⟩
    exact ⟨.inr ⟨rfl, h6⟩, h7⟩
  · cases h2 : goodL ys
    · obtain ⟨p, h3, h4, h5⟩ := goodL_false h2
      refine (bitsof_bad2 A B ca cb xs ys w ha hb (goodL_true h1) p h3 h4 h5 hla hlb).mono ?_
      rintro e w' ⟨h6, h7⟩
      exact ⟨.inr ⟨rfl, h6⟩, h7⟩
    · refine (bitsof_good A B ca cb xs ys w ha hb (goodL_true h1) (goodL_true h2) hla hlb).mono ?_
      rintro e w' ⟨h6, h7⟩
      exact ⟨.inl ⟨rfl, h6⟩, h7⟩

end Go.Proofs.YtifoeehfblddcaaDoor
