/- spec.SameNumbers -/
import Derived.Test.YtifoeehfblddcaaDoorQ
namespace Go.Proofs.YtifoeehfblddcaaDoor
open Go.RowKit

theorem cnt_le (f g : Nat → Bool) : ∀ n, (∀ i, i < n → f i = true → g i = true) → cnt f n ≤ cnt g n
  | 0, _ => Nat.le_refl _
  | n + 1, h => by
    have := cnt_le f g n (fun i hi => h i (by omega))
    simp only [cnt]
    cases hf : f n
    · simp; omega
    · rw [h n (by omega) hf]; simp; exact this
theorem cnt_same (f g : Nat → Bool) : ∀ n, (∀ i, i < n → f i = true → g i = true) → cnt f n = cnt g n → ∀ i, i < n → f i = g i
  | 0, _, _, i, hi => by omega
  | n + 1, h, e, i, hi => by
    have hle := cnt_le f g n (fun i hi => h i (by omega))
    simp only [cnt] at e
    have h2 := h n (by omega)
    have e2 : cnt f n = cnt g n ∧ f n = g n := by
      cases hf : f n <;> cases hg : g n
      · rw [hf, hg] at e; exact ⟨by simpa using e, rfl⟩
      · rw [hf, hg] at e; simp at e; omega
      · rw [h2 hf] at hg; cases hg
      · rw [hf, hg] at e; exact ⟨by simpa using e, rfl⟩
    by_cases hi2 : i = n
    · rw [hi2]; exact e2.2
    · exact cnt_same f g n (fun i hi => h i (by omega)) e2.1 i (by omega)

/-- are they the same numbers -/
def sameF (f g : Nat → Bool) : Bool := (List.range 201).all fun n => f n == g n
theorem sameF_true {f g : Nat → Bool} (h : ∀ i, i < 201 → f i = g i) : sameF f g = true := by
  unfold sameF
  rw [List.all_eq_true]
  intro i hi
  rw [h i (List.mem_range.1 hi)]
  simp
theorem sameF_false {f g : Nat → Bool} {i : Nat} (hi : i < 201) (h : f i ≠ g i) : sameF f g = false := by
  cases e : sameF f g
  · rfl
  · unfold sameF at e
    rw [List.all_eq_true] at e
    have := e i (List.mem_range.2 hi)
    simp at this
    exact absurd this h

set_option maxRecDepth 100000 in
set_option maxHeartbeats 800000 in
theorem same_any {w : World} {m1 m2 : Nat} {f g : Nat → Bool} (h1 : Mset w m1 f) (h2 : Mset w m2 g) :
    Calls Tryd.prog 11 #[.map (some m1), .map (some m2)] w fun e w' => e = .returned (.bool (sameF f g)) ∧ Below w.heap.size w w' := by
  have hl1 := h1.len 3
  have hl2 := h2.len 3
  by_cases hc : cnt f 201 = cnt g 201
  · obtain ⟨n, D, hn, ho, hf⟩ := h1
    obtain ⟨w1, hrng, hr1, hgr1, hsz1⟩ := ho.range keyed3 Tryd.underlying23
    have hb1 : Below w.heap.size w w1 := ⟨hgr1.os, hgr1.tape, hgr1.output, hgr1.size, fun i hi => hgr1.block i hi (by simp)⟩
    have HR1 := hid hr1
    have HB1 := hid hb1
    have H2 := hid h2
    have HF := hid hf
    have HC := hid hc
    rw [hc] at hl1
    generalize hcg : cnt g 201 = cg at *
    have HCG := hid hcg
    clear hcg hc hr1 hb1 h2 hf hgr1 ho
    go_enter Tryd.func11, Tryd.ntmps11
    go_wp2_with fail
    go_loopg [5] (Maps.size D) (fun k s wr => ∃ left, wr.ranges (H := Unit) Tryd.prog 3 (plainElem Tryd.prog 4) m1 w.heap.size n D left k ∧ Below w.heap.size w wr ∧ ∀ i, i < 201 → f i = true → left (.int .i64 (i : Nat)) = true ∨ g i = true)
    case atStart =>
      refine ⟨_, HR1.out, HB1.out, ?_⟩
      intro i hi hfi
      left
      rw [HF.out.has i (by omega) (by omega), show ((i : Int).toNat) = i from Int.toNat_natCast i, hfi]
      simp; omega
    case round =>
      obtain ⟨left, hr, hb, hinv⟩ := hrel
      rcases hr.next keyed3 0 with ⟨h0, hl, hrun⟩ | ⟨key, v, kl, y, w2, cnt2, hkey, hlk, hv, hat, hrun, hr2, hlt, hgr, hsz, hen⟩
      · have hsame : sameF f g = true := by
          apply sameF_true
          refine cnt_same f g 201 ?_ ?_
          · intro i hi hfi
            rcases hinv i hi hfi with h | h
            · rw [hl] at h; cases h
            · exact h
          · have := HC.out
            rw [this]
            exact HCG.out.symm
        have HS := hid hsame
        have HBB := hid hb
        clear hinv hl hr hb hsame
        go_wp2_with fail
        go_ret
        exact ⟨by rw [HS.out]; rfl, HBB.out⟩
      · obtain ⟨x, rfl, rfl, hwf⟩ := Maps.keyOf_int_inv Tryd.underlying3 hkey
        have hx64 : -9223372036854775808 ≤ x ∧ x ≤ 9223372036854775807 := by
          have := hwf
          have e1 : IntKind.i64.min = -9223372036854775808 := by decide
          simp [Lit.wf] at this
          rw [e1] at this
          exact this
        have hhas := Maps.has_true_of_atKey hat
        rw [HF.out.has x hx64.1 hx64.2] at hhas
        simp only [Bool.and_eq_true, decide_eq_true_eq] at hhas
        obtain ⟨hx, hfx⟩ := hhas
        obtain ⟨u, rfl⟩ : ∃ u : Nat, x = u := ⟨x.toNat, by omega⟩
        rw [Int.toNat_natCast] at hfx
        have hb2 : Below w.heap.size w w2 := hb.grown hgr hb.size (fun k hk => by cases hk; exact Nat.le_refl _)
        have hlook := (H2.out.keep hb2).look u (by omega)
        have HR2 := hid hr2
        have HB2 := hid hb2
        have HINV := hid hinv
        have HLT := hid hlt
        have hu : u < 201 := by omega
        clear hat hr hr2 hb hb2 hinv hgr hsz hkey hwf hx64 hx hv hlk hlt
        cases hg : g u
        · have hne : f u ≠ g u := by rw [hfx, hg]; simp
          have HS := hid (sameF_false hu hne)
          rw [hg] at hlook
          clear hne hg hfx
          go_wp2_with fail
          go_ret
          exact ⟨by rw [HS.out]; rfl, HB2.out⟩
        · rw [hg] at hlook
          have HG := hid hg
          clear hg hfx
          go_wp2_with fail
          go_roundg cnt2
          case measure => exact HLT.out
          case rel =>
            refine ⟨_, HR2.out, HB2.out, ?_⟩
            intro i hi hfi
            by_cases e : i = u
            · right; rw [e]; exact HG.out
            · rcases HINV.out i hi hfi with h | h
              · left
                rw [h, Maps.sameKey_ne (lit_ne (by omega))]
                rfl
              · exact .inr h
  · have hne : (((cnt f 201 : Nat) : Int) == ((cnt g 201 : Nat) : Int)) = false := beq_false_of_ne (fun e => hc (Int.ofNat_inj.1 e))
    have hs : sameF f g = false := by
      cases e : sameF f g
      · rfl
      · exfalso
        apply hc
        apply cnt_congr
        intro i hi
        unfold sameF at e
        rw [List.all_eq_true] at e
        simpa using e i (List.mem_range.2 hi)
    have HS := hid hs
    generalize cnt f 201 = cf at *
    generalize cnt g 201 = cg at *
    clear h1 h2 hc hs
    go_enter Tryd.func11, Tryd.ntmps11
    go_wp2_with fail
    go_ret
    exact ⟨by rw [HS.out]; rfl, Below.refl _ _⟩
end Go.Proofs.YtifoeehfblddcaaDoor
