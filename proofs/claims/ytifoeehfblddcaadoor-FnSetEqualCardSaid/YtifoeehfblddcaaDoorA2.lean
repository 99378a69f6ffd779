/- plain laws of the runs of a set of numbers -/
import Derived.Test.YtifoeehfblddcaaDoorA1
namespace Go.Proofs.YtifoeehfblddcaaDoor

/-- one number more, at the end: the last run grows, or a new one begins -/
def extI : List Iv → Int → List Iv
  | [], z => [(z, z + 1)]
  | [(s, e)], z => if e = z then [(s, z + 1)] else [(s, e), (z, z + 1)]
  | p :: q :: r, z => p :: extI (q :: r) z

theorem extI_law : ∀ (rs : List Iv) (lo z : Int), Canon lo rs → lo < z → (∀ p ∈ rs, p.2 ≤ z) → Canon lo (extI rs z) ∧ (∀ n, inI (extI rs z) n ↔ inI rs n ∨ n = z) ∧ ∀ p ∈ extI rs z, p.2 ≤ z + 1
  | [], lo, z, _, h, _ => by
    refine ⟨⟨h, by omega, trivial⟩, fun n => ?_, fun p hp => ?_⟩
    · unfold extI
      rw [inI_cons]
      simp only [inI_nil, or_false, false_or]
      omega
    · unfold extI at hp
      simp at hp
      subst hp
      exact Int.le_refl _
  | [(s, e)], lo, z, ⟨h1, h2, _⟩, h, h3 => by
    have he := h3 (s, e) (by simp)
    simp only at he
    unfold extI
    by_cases a : e = z
    · rw [if_pos a]
      subst a
      refine ⟨⟨h1, by omega, trivial⟩, fun n => ?_, fun p hp => ?_⟩
      · rw [inI_cons, inI_cons]
        simp only [inI_nil, or_false]
        omega
      · simp at hp
        subst hp
        exact Int.le_refl _
    · rw [if_neg a]
      refine ⟨⟨h1, h2, by omega, by omega, trivial⟩, fun n => ?_, fun p hp => ?_⟩
      · rw [inI_cons, inI_cons, inI_cons]
        simp only [inI_nil, or_false]
        omega
      · simp at hp
        rcases hp with rfl | rfl
        · show e ≤ z + 1; omega
        · exact Int.le_refl _
  | (s, e) :: q :: r, lo, z, ⟨h1, h2, h4⟩, h, h3 => by
    have he := h3 (s, e) (by simp)
    have hq : q.1 < q.2 := h4.2.1
    have heq : e < q.1 := h4.1
    have hqz := h3 q (by simp)
    simp only at he
    obtain ⟨k1, k2, k3⟩ := extI_law (q :: r) e z h4 (by omega) (fun p hp => h3 p (by simp at hp ⊢; exact .inr hp))
    unfold extI
    refine ⟨⟨h1, h2, k1⟩, fun n => ?_, fun p hp => ?_⟩
    · rw [inI_cons (s, e) (extI (q :: r) z), k2, inI_cons (s, e) (q :: r)]
      exact or_assoc.symm
    · rcases List.mem_cons.1 hp with rfl | hp
      · show e ≤ z + 1; omega
      · exact k3 p hp

/-- the runs of the first k of the numbers from -20 on -/
def runsI (f : Nat → Bool) : Nat → List Iv
  | 0 => []
  | k + 1 => if f k then extI (runsI f k) ((k : Int) - 20) else runsI f k

theorem runsI_law (f : Nat → Bool) : ∀ k, Canon (-21) (runsI f k) ∧ (∀ n, inI (runsI f k) n ↔ ∃ j : Nat, j < k ∧ n = (j : Int) - 20 ∧ f j = true) ∧ ∀ p ∈ runsI f k, p.2 ≤ (k : Int) - 20
  | 0 => ⟨trivial, fun n => ⟨fun h => absurd h (inI_nil n), fun ⟨j, h, _⟩ => by omega⟩, fun p hp => by cases hp⟩
  | k + 1 => by
    obtain ⟨a, b, c⟩ := runsI_law f k
    unfold runsI
    cases hf : f k
    · simp only [Bool.false_eq_true, if_false]
      refine ⟨a, fun n => ?_, fun p hp => ?_⟩
      · rw [b]
        constructor
        · rintro ⟨j, h1, h2, h3⟩
          exact ⟨j, by omega, h2, h3⟩
        · rintro ⟨j, h1, h2, h3⟩
          by_cases e : j = k
          · subst e; rw [hf] at h3; cases h3
          · exact ⟨j, by omega, h2, h3⟩
      · have := c p hp
        push_cast
        omega
    · simp only [if_true]
      obtain ⟨k1, k2, k3⟩ := extI_law (runsI f k) (-21) ((k : Int) - 20) a (by omega) c
      refine ⟨k1, fun n => ?_, fun p hp => ?_⟩
      · rw [k2, b]
        constructor
        · rintro (⟨j, h1, h2, h3⟩ | h)
          · exact ⟨j, by omega, h2, h3⟩
          · exact ⟨k, by omega, h, hf⟩
        · rintro ⟨j, h1, h2, h3⟩
          by_cases e : j = k
          · subst e; exact .inr h2
          · exact .inl ⟨j, by omega, h2, h3⟩
      · have := k3 p hp
        push_cast
        omega

/-- a canonical list that has a set's numbers is the list of its runs -/
theorem runsI_ext (f : Nat → Bool) (ivs : List Iv) (hc : Canon (-21) ivs) (h : ∀ n, inI ivs n ↔ ∃ j : Nat, j < 141 ∧ n = (j : Int) - 20 ∧ f j = true) : ivs = runsI f 141 := by
  obtain ⟨a, b, _⟩ := runsI_law f 141
  exact canon_ext ivs (runsI f 141) (-21) hc a (fun n => (h n).trans (b n).symm)

/-- a range added to a set -/
def fAdd (f : Nat → Bool) (L H : Int) : Nat → Bool := fun j => f j || decide (L ≤ (j : Int) - 20 ∧ (j : Int) - 20 < H)

theorem runsI_add (f : Nat → Bool) (L H : Int) (hL : -20 ≤ L) (hH : H ≤ 121) (hLH : L < H) (ht : touch (runsI f 141) L H ≤ 1) : addI (runsI f 141) L H = runsI (fAdd f L H) 141 := by
  obtain ⟨a, b, _⟩ := runsI_law f 141
  obtain ⟨k1, k2⟩ := addI_law (runsI f 141) (-21) L H a (by omega) hLH ht
  refine runsI_ext _ _ k1 (fun n => ?_)
  rw [k2, b]
  constructor
  · rintro (⟨j, h1, h2, h3⟩ | h)
    · exact ⟨j, h1, h2, by unfold fAdd; rw [h3]; rfl⟩
    · refine ⟨(n + 20).toNat, by omega, by omega, ?_⟩
      unfold fAdd
      rw [Bool.or_eq_true]
      right
      simp
      omega
  · rintro ⟨j, h1, h2, h3⟩
    unfold fAdd at h3
    rw [Bool.or_eq_true] at h3
    rcases h3 with h3 | h3
    · exact .inl ⟨j, h1, h2, h3⟩
    · right
      simp at h3
      omega

/-- two sets have the same runs just if they have the same numbers -/
theorem runsI_same (f g : Nat → Bool) : runsI f 141 = runsI g 141 ↔ ∀ j, j < 141 → f j = g j := by
  obtain ⟨_, b, _⟩ := runsI_law f 141
  obtain ⟨_, b', _⟩ := runsI_law g 141
  constructor
  · intro h j hj
    have h1 := b ((j : Int) - 20)
    have h2 := b' ((j : Int) - 20)
    rw [h] at h1
    have h3 := h1.symm.trans h2
    cases hf : f j <;> cases hg : g j
    · rfl
    · obtain ⟨i, _, hi, hfi⟩ := h3.2 ⟨j, hj, rfl, hg⟩
      obtain rfl : i = j := by omega
      rw [hf] at hfi; cases hfi
    · obtain ⟨i, _, hi, hgi⟩ := h3.1 ⟨j, hj, rfl, hf⟩
      obtain rfl : i = j := by omega
      rw [hg] at hgi; cases hgi
    · rfl
  · intro h
    have : ∀ k, k ≤ 141 → runsI f k = runsI g k := by
      intro k
      induction k with
      | zero => intro _; rfl
      | succ k ih =>
        intro hk
        unfold runsI
        rw [ih (by omega), h k (by omega)]
    exact this 141 (Nat.le_refl _)

end Go.Proofs.YtifoeehfblddcaaDoor
