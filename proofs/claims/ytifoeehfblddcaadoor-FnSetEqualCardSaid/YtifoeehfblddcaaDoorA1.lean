/- plain laws of interval sets -/
import Derived.IntWalk
namespace Go.Proofs.YtifoeehfblddcaaDoor

/-- an interval, from the first to behind the last -/
abbrev Iv := Int × Int

/-- rising, none empty, none beside another one; all from lo on (a gap before the first) -/
def Canon : Int → List Iv → Prop
  | _, [] => True
  | lo, (s, e) :: r => lo < s ∧ s < e ∧ Canon e r

/-- is a number in -/
def inI (ivs : List Iv) (n : Int) : Prop := ∃ p ∈ ivs, p.1 ≤ n ∧ n < p.2

theorem inI_nil (n : Int) : ¬ inI [] n := by rintro ⟨p, hp, _⟩; cases hp
theorem inI_cons (p : Iv) (r : List Iv) (n : Int) : inI (p :: r) n ↔ (p.1 ≤ n ∧ n < p.2) ∨ inI r n := by
  unfold inI
  simp only [List.mem_cons]
  constructor
  · rintro ⟨q, rfl | hq, h⟩
    · exact .inl h
    · exact .inr ⟨q, hq, h⟩
  · rintro (h | ⟨q, hq, h⟩)
    · exact ⟨p, .inl rfl, h⟩
    · exact ⟨q, .inr hq, h⟩

theorem canon_lower : ∀ (lo : Int) (ivs : List Iv), Canon lo ivs → ∀ n, inI ivs n → lo < n
  | _, [], _, n, h => absurd h (inI_nil n)
  | lo, (s, e) :: r, ⟨h1, h2, h3⟩, n, h => by
    rcases (inI_cons (s, e) r n).1 h with h | h
    · have := h.1; simp only at this; omega
    · have := canon_lower e r h3 n h; omega

theorem canon_mono : ∀ (lo lo' : Int) (ivs : List Iv), Canon lo ivs → lo' ≤ lo → Canon lo' ivs
  | _, _, [], _, _ => trivial
  | lo, lo', (s, e) :: r, ⟨h1, h2, h3⟩, h => ⟨by omega, h2, h3⟩

/-- a canonical list is told by its numbers -/
theorem canon_ext : ∀ (a b : List Iv) (lo : Int), Canon lo a → Canon lo b → (∀ n, inI a n ↔ inI b n) → a = b
  | [], [], _, _, _, _ => rfl
  | [], (s, e) :: r, lo, _, ⟨h1, h2, h3⟩, h => by
    exfalso
    exact inI_nil s ((h s).2 ((inI_cons (s, e) r s).2 (.inl ⟨Int.le_refl _, h2⟩)))
  | (s, e) :: r, [], lo, ⟨h1, h2, h3⟩, _, h => by
    exfalso
    exact inI_nil s ((h s).1 ((inI_cons (s, e) r s).2 (.inl ⟨Int.le_refl _, h2⟩)))
  | (s, e) :: r, (s', e') :: r', lo, ⟨h1, h2, h3⟩, ⟨k1, k2, k3⟩, h => by
    have hs : s = s' := by
      have a1 := (h s).1 ((inI_cons (s, e) r s).2 (.inl ⟨Int.le_refl _, h2⟩))
      have a2 := (h s').2 ((inI_cons (s', e') r' s').2 (.inl ⟨Int.le_refl _, k2⟩))
      have b1 : s' ≤ s := by
        rcases (inI_cons (s', e') r' s).1 a1 with x | x
        · exact x.1
        · have := canon_lower e' r' k3 s x; omega
      have b2 : s ≤ s' := by
        rcases (inI_cons (s, e) r s').1 a2 with x | x
        · exact x.1
        · have := canon_lower e r h3 s' x; omega
      omega
    subst hs
    have he : e = e' := by
      rcases Int.lt_trichotomy e e' with hlt | he | hlt
      · exfalso
        have a1 := (h e).2 ((inI_cons (s, e') r' e).2 (.inl ⟨by show s ≤ e; omega, hlt⟩))
        rcases (inI_cons (s, e) r e).1 a1 with x | x
        · have := x.2; simp only at this; omega
        · have := canon_lower e r h3 e x; omega
      · exact he
      · exfalso
        have a1 := (h e').1 ((inI_cons (s, e) r e').2 (.inl ⟨by show s ≤ e'; omega, hlt⟩))
        rcases (inI_cons (s, e') r' e').1 a1 with x | x
        · have := x.2; simp only at this; omega
        · have := canon_lower e' r' k3 e' x; omega
    subst he
    congr 1
    refine canon_ext r r' e h3 k3 (fun n => ?_)
    have := h n
    rw [inI_cons, inI_cons] at this
    constructor
    · intro x
      rcases this.1 (.inr x) with y | y
      · have := canon_lower e r h3 n x; have := y.2; simp only at this; omega
      · exact y
    · intro x
      rcases this.2 (.inr x) with y | y
      · have := canon_lower e r' k3 n x; have := y.2; simp only at this; omega
      · exact y

/-- what addInterval makes of a list -/
def addI : List Iv → Int → Int → List Iv
  | [], L, H => [(L, H)]
  | (s, e) :: r, L, H =>
    if H < s then (L, H) :: (s, e) :: r
    else if H = s then (L, e) :: r
    else if L ≤ e then (min s L, max e H) :: r
    else (s, e) :: addI r L H

/-- how many intervals a new one meets or stands beside -/
def touch : List Iv → Int → Int → Nat
  | [], _, _ => 0
  | (s, e) :: r, L, H => (if s ≤ H ∧ L ≤ e then 1 else 0) + touch r L H

theorem touch_none : ∀ (r : List Iv) (lo L H : Int), Canon lo r → H ≤ lo → touch r L H = 0
  | [], _, _, _, _, _ => rfl
  | (s, e) :: r, lo, L, H, ⟨h1, h2, h3⟩, h => by
    unfold touch
    rw [if_neg (by omega), touch_none r e L H h3 (by omega)]

theorem touch_zero_gap : ∀ (r : List Iv) (lo L H : Int), Canon lo r → L < H → lo < L → touch r L H = 0 → ∀ p ∈ r, H < p.1 ∨ p.2 < L
  | [], _, _, _, _, _, _, _, p, hp => by cases hp
  | (s, e) :: r, lo, L, H, ⟨h1, h2, h3⟩, hLH, hlo, h, p, hp => by
    unfold touch at h
    by_cases hc : s ≤ H ∧ L ≤ e
    · rw [if_pos hc] at h; omega
    · rw [if_neg hc] at h
      rcases List.mem_cons.1 hp with rfl | hp
      · show H < s ∨ e < L
        omega
      · by_cases h4 : e < L
        · exact touch_zero_gap r e L H h3 hLH h4 (by omega) p hp
        · left
          have := canon_lower e r h3 p.1
          have hpc : p.1 < p.2 := by
            clear this
            exact canon_pos e r h3 p hp
          have := this ⟨p, hp, Int.le_refl _, hpc⟩
          omega
where
  canon_pos : ∀ (lo : Int) (r : List Iv), Canon lo r → ∀ p ∈ r, p.1 < p.2
    | _, [], _, p, hp => by cases hp
    | lo, (s, e) :: r, ⟨_, h2, h3⟩, p, hp => by
      rcases List.mem_cons.1 hp with rfl | hp
      · exact h2
      · exact canon_pos e r h3 p hp

/-- the law of addInterval -/
theorem addI_law : ∀ (ivs : List Iv) (lo L H : Int), Canon lo ivs → lo < L → L < H → touch ivs L H ≤ 1 → Canon lo (addI ivs L H) ∧ ∀ n, inI (addI ivs L H) n ↔ inI ivs n ∨ (L ≤ n ∧ n < H)
  | [], lo, L, H, _, h1, h2, _ => by
    refine ⟨⟨h1, h2, trivial⟩, fun n => ?_⟩
    unfold addI
    rw [inI_cons]
    simp [inI_nil]
  | (s, e) :: r, lo, L, H, ⟨h1, h2, h3⟩, h4, h5, h6 => by
    unfold addI
    unfold touch at h6
    by_cases a : H < s
    · rw [if_pos a]
      refine ⟨⟨h4, h5, a, h2, h3⟩, fun n => ?_⟩
      rw [inI_cons]
      exact Or.comm
    · rw [if_neg a]
      by_cases b : H = s
      · rw [if_pos b]
        subst b
        refine ⟨⟨h4, by omega, h3⟩, fun n => ?_⟩
        rw [inI_cons, inI_cons]
        simp only
        constructor
        · rintro (h | h)
          · by_cases c : n < H
            · exact .inr ⟨h.1, c⟩
            · exact .inl (.inl ⟨by omega, h.2⟩)
          · exact .inl (.inr h)
        · rintro ((h | h) | h)
          · exact .inl ⟨by omega, h.2⟩
          · exact .inr h
          · exact .inl ⟨h.1, by omega⟩
      · rw [if_neg b]
        by_cases c : L ≤ e
        · rw [if_pos c]
          rw [if_pos ⟨by omega, c⟩] at h6
          have h7 : touch r L H = 0 := by omega
          have hgap : ∀ p ∈ r, H < p.1 := by
            intro p hp
            by_cases d : e < H
            · rcases touch_gap2 r e L H h3 h5 c h7 p hp with x | x
              · exact x
              · exact x
            · have := canon_lower e r h3 p.1 ⟨p, hp, Int.le_refl _, touch_zero_gap.canon_pos e r h3 p hp⟩
              omega
          refine ⟨⟨by omega, by omega, canon_up r e (max e H) h3 (fun p hp => ?_)⟩, fun n => ?_⟩
          · have := hgap p hp
            have := canon_lower e r h3 p.1 ⟨p, hp, Int.le_refl _, touch_zero_gap.canon_pos e r h3 p hp⟩
            omega
          · rw [inI_cons, inI_cons]
            simp only
            constructor
            · rintro (h | h)
              · by_cases x : s ≤ n ∧ n < e
                · exact .inl (.inl x)
                · right; omega
              · exact .inl (.inr h)
            · rintro ((h | h) | h)
              · left; omega
              · exact .inr h
              · left; omega
        · rw [if_neg c]
          rw [if_neg (by omega)] at h6
          obtain ⟨k1, k2⟩ := addI_law r e L H h3 (by omega) h5 (by omega)
          refine ⟨⟨h1, h2, k1⟩, fun n => ?_⟩
          rw [inI_cons, inI_cons, k2]
          exact or_assoc.symm
where
  touch_gap2 : ∀ (r : List Iv) (lo L H : Int), Canon lo r → L < H → L ≤ lo → touch r L H = 0 → ∀ p ∈ r, H < p.1 ∨ H < p.1
    | [], _, _, _, _, _, _, _, p, hp => by cases hp
    | (s, e) :: r, lo, L, H, ⟨h1, h2, h3⟩, hLH, hlo, h, p, hp => by
      unfold touch at h
      by_cases hc : s ≤ H ∧ L ≤ e
      · rw [if_pos hc] at h; omega
      · rw [if_neg hc] at h
        rcases List.mem_cons.1 hp with rfl | hp
        · left; show H < s; omega
        · exact touch_gap2 r e L H h3 hLH (by omega) (by omega) p hp
  canon_up : ∀ (r : List Iv) (lo lo' : Int), Canon lo r → (∀ p ∈ r, lo' < p.1) → Canon lo' r
    | [], _, _, _, _ => trivial
    | (s, e) :: r, lo, lo', ⟨h1, h2, h3⟩, h => ⟨h (s, e) (by simp), h2, h3⟩

end Go.Proofs.YtifoeehfblddcaaDoor
