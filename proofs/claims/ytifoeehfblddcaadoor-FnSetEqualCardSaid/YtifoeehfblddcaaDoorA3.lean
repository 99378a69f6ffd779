/- plain laws of the loops over intervals -/
import Derived.Test.YtifoeehfblddcaaDoorA2
namespace Go.Proofs.YtifoeehfblddcaaDoor

theorem extI_grow : ∀ (rs : List Iv) (s z : Int), extI (rs ++ [(s, z)]) z = rs ++ [(s, z + 1)]
  | [], s, z => by simp [extI]
  | [p], s, z => by simp [extI]
  | p :: q :: r, s, z => by
    show p :: extI (q :: r ++ [(s, z)]) z = _
    rw [extI_grow (q :: r) s z]; rfl

theorem extI_snoc : ∀ (rs : List Iv) (z : Int), (∀ p, rs.getLast? = some p → p.2 ≠ z) → extI rs z = rs ++ [(z, z + 1)]
  | [], _, _ => rfl
  | [(s, e)], z, h => by
    have := h (s, e) rfl
    simp only at this
    simp [extI, this]
  | p :: q :: r, z, h => by
    show p :: extI (q :: r) z = _
    rw [extI_snoc (q :: r) z (fun x hx => h x (by rw [← hx]; exact List.getLast?_cons_cons))]; rfl

/-- the interval at a place -/
abbrev ivAt (ivs : List Iv) (k : Nat) : Iv := ivs.getD k (0, 0)

theorem take_at (ivs : List Iv) (k : Nat) (h : k < ivs.length) : ivs.take (k + 1) = ivs.take k ++ [ivAt ivs k] := by
  rw [List.take_add_one]
  simp [ivAt, h]
theorem drop_at (ivs : List Iv) (k : Nat) (h : k < ivs.length) : ivs.drop k = ivAt ivs k :: ivs.drop (k + 1) := by
  rw [List.drop_eq_getElem_cons h]
  simp [ivAt, h]

theorem touch_append (a b : List Iv) (L H : Int) : touch (a ++ b) L H = touch a L H + touch b L H := by
  induction a with
  | nil => simp [touch]
  | cons p r ih =>
    obtain ⟨s, e⟩ := p
    simp only [List.cons_append, touch, ih]
    omega
theorem touch_succ (ivs : List Iv) (k : Nat) (h : k < ivs.length) (L H : Int) : touch (ivs.take (k + 1)) L H = touch (ivs.take k) L H + if (ivAt ivs k).1 ≤ H ∧ L ≤ (ivAt ivs k).2 then 1 else 0 := by
  rw [take_at ivs k h, touch_append]
  rfl

/-- the first k intervals all lie before the range -/
def Past (ivs : List Iv) (L H : Int) (k : Nat) : Prop := ∀ p ∈ ivs.take k, ¬ H < p.1 ∧ H ≠ p.1 ∧ ¬ L ≤ p.2

theorem past_succ {ivs : List Iv} {L H : Int} {k : Nat} (h : Past ivs L H k) (hk : k < ivs.length) (h1 : ¬ H < (ivAt ivs k).1) (h2 : H ≠ (ivAt ivs k).1) (h3 : ¬ L ≤ (ivAt ivs k).2) : Past ivs L H (k + 1) := by
  intro p hp
  rw [take_at ivs k hk] at hp
  rcases List.mem_append.1 hp with h4 | h4
  · exact h p h4
  · simp at h4; subst h4; exact ⟨h1, h2, h3⟩

theorem addI_past (a b : List Iv) (L H : Int) (h : ∀ p ∈ a, ¬ H < p.1 ∧ H ≠ p.1 ∧ ¬ L ≤ p.2) : addI (a ++ b) L H = a ++ addI b L H := by
  induction a with
  | nil => rfl
  | cons p r ih =>
    obtain ⟨s, e⟩ := p
    obtain ⟨h1, h2, h3⟩ := h (s, e) (by simp)
    simp only at h1 h2 h3
    simp only [List.cons_append, addI]
    rw [if_neg h1, if_neg h2, if_neg h3, ih (fun q hq => h q (by simp [hq]))]

theorem addI_split {ivs : List Iv} {L H : Int} {k : Nat} (h : Past ivs L H k) : addI ivs L H = ivs.take k ++ addI (ivs.drop k) L H := by
  conv => lhs; rw [← List.take_append_drop k ivs]
  exact addI_past _ _ L H h

theorem addI_end {ivs : List Iv} {L H : Int} (h : Past ivs L H ivs.length) : addI ivs L H = ivs ++ [(L, H)] := by
  rw [addI_split h, List.take_length, List.drop_length]; rfl

theorem addI_ins {ivs : List Iv} {L H : Int} {k : Nat} (h : Past ivs L H k) (hk : k < ivs.length) (h1 : H < (ivAt ivs k).1) : addI ivs L H = ivs.take k ++ ((L, H) :: ivs.drop k) := by
  rw [addI_split h, drop_at ivs k hk]
  generalize ivAt ivs k = p at *
  obtain ⟨s, e⟩ := p
  simp only at h1
  simp [addI, h1]

theorem set_at (ivs : List Iv) (k : Nat) (hk : k < ivs.length) (x : Iv) : ivs.set k x = ivs.take k ++ (x :: ivs.drop (k + 1)) := by
  rw [List.set_eq_take_append_cons_drop, if_pos hk]

theorem addI_low {ivs : List Iv} {L H : Int} {k : Nat} (h : Past ivs L H k) (hk : k < ivs.length) (h1 : H = (ivAt ivs k).1) : addI ivs L H = ivs.set k (L, (ivAt ivs k).2) := by
  rw [addI_split h, drop_at ivs k hk, set_at ivs k hk]
  generalize ivAt ivs k = p at *
  obtain ⟨s, e⟩ := p
  simp only at h1
  subst h1
  simp [addI]

theorem addI_meet {ivs : List Iv} {L H : Int} {k : Nat} (h : Past ivs L H k) (hk : k < ivs.length) (h1 : ¬ H < (ivAt ivs k).1) (h2 : H ≠ (ivAt ivs k).1) (h3 : L ≤ (ivAt ivs k).2) :
    addI ivs L H = ivs.set k (min (ivAt ivs k).1 L, max (ivAt ivs k).2 H) := by
  rw [addI_split h, drop_at ivs k hk, set_at ivs k hk]
  generalize ivAt ivs k = p at *
  obtain ⟨s, e⟩ := p
  simp only at h1 h2 h3
  simp [addI, h1, h2, h3]

theorem canon_at : ∀ (ivs : List Iv) (lo : Int) (k : Nat), Canon lo ivs → k < ivs.length → lo < (ivAt ivs k).1 ∧ (ivAt ivs k).1 < (ivAt ivs k).2
  | [], _, _, _, h => by simp at h
  | (s, e) :: r, lo, 0, ⟨h1, h2, _⟩, _ => ⟨h1, h2⟩
  | (s, e) :: r, lo, k + 1, ⟨h1, h2, h3⟩, h => by
    have := canon_at r e k h3 (by simpa using h)
    exact ⟨by have := this.1; show lo < (ivAt r k).1; omega, this.2⟩

theorem canon_next : ∀ (ivs : List Iv) (lo : Int) (k : Nat), Canon lo ivs → k + 1 < ivs.length → (ivAt ivs k).2 < (ivAt ivs (k + 1)).1
  | [], _, _, _, h => by simp at h
  | (s, e) :: r, lo, 0, ⟨_, _, h3⟩, h => (canon_at r e 0 h3 (by simpa using h)).1
  | (s, e) :: r, lo, k + 1, ⟨_, _, h3⟩, h => canon_next r e k h3 (by simpa using h)

theorem touch_mono (a b : List Iv) (L H : Int) : touch a L H ≤ touch (a ++ b) L H := by rw [touch_append]; omega

theorem gap_next {ivs : List Iv} {lo L H : Int} {k : Nat} (hc : Canon lo ivs) (ht : touch ivs L H ≤ 1) (hk : k + 1 < ivs.length) (h1 : (ivAt ivs k).1 ≤ H) (h3 : L ≤ (ivAt ivs k).2) :
    (ivAt ivs k).2 < (ivAt ivs (k + 1)).1 ∧ (ivAt ivs (k + 1)).1 < (ivAt ivs (k + 1)).2 ∧ H < (ivAt ivs (k + 1)).1 := by
  have a := canon_next ivs lo k hc hk
  have b := (canon_at ivs lo (k + 1) hc hk).2
  refine ⟨a, b, ?_⟩
  by_cases hlt : H < (ivAt ivs (k + 1)).1
  · exact hlt
  · exfalso
    have s1 := touch_succ ivs k (by omega) L H
    have s2 := touch_succ ivs (k + 1) hk L H
    rw [if_pos ⟨h1, h3⟩] at s1
    rw [if_pos ⟨by omega, by omega⟩] at s2
    have := touch_mono (ivs.take (k + 1 + 1)) (ivs.drop (k + 1 + 1)) L H
    rw [List.take_append_drop] at this
    omega

/-- bounds on a list of intervals -/
structure Inb (ivs : List Iv) : Prop where
  canon : Canon (-21) ivs
  top : ∀ p ∈ ivs, p.2 ≤ 121

theorem inb_runs (f : Nat → Bool) : Inb (runsI f 141) := by
  obtain ⟨a, _, c⟩ := runsI_law f 141
  exact ⟨a, fun p hp => by have := c p hp; omega⟩

theorem at_mem (ivs : List Iv) (k : Nat) (h : k < ivs.length) : ivAt ivs k ∈ ivs := by
  unfold ivAt
  rw [List.getD_eq_getElem?_getD, List.getElem?_eq_getElem h]
  exact List.getElem_mem h

theorem Inb.at_ {ivs : List Iv} (h : Inb ivs) {k : Nat} (hk : k < ivs.length) : -20 ≤ (ivAt ivs k).1 ∧ (ivAt ivs k).1 < (ivAt ivs k).2 ∧ (ivAt ivs k).2 ≤ 121 := by
  have a := canon_at ivs _ k h.canon hk
  have b := h.top _ (at_mem ivs k hk)
  omega

theorem canon_len : ∀ (ivs : List Iv) (lo hi : Int), Canon lo ivs → (∀ p ∈ ivs, p.2 ≤ hi) → lo ≤ hi → lo + (ivs.length : Int) ≤ hi
  | [], _, _, _, _, h => by simpa using h
  | (s, e) :: r, lo, hi, ⟨h1, h2, h3⟩, h, _ => by
    have := canon_len r e hi h3 (fun p hp => h p (by simp [hp])) (h (s, e) (by simp))
    simp only [List.length_cons]
    push_cast
    omega

theorem Inb.len {ivs : List Iv} (h : Inb ivs) : ivs.length ≤ 142 := by
  have := canon_len ivs (-21) 121 h.canon h.top (by decide)
  omega

/-- how many numbers -/
def lenI : List Iv → Int
  | [] => 0
  | (s, e) :: r => (e - s) + lenI r
theorem lenI_append (a b : List Iv) : lenI (a ++ b) = lenI a + lenI b := by
  induction a with
  | nil => simp [lenI]
  | cons p r ih => obtain ⟨s, e⟩ := p; simp only [List.cons_append, lenI, ih]; omega
theorem lenI_succ (ivs : List Iv) (k : Nat) (h : k < ivs.length) : lenI (ivs.take (k + 1)) = lenI (ivs.take k) + ((ivAt ivs k).2 - (ivAt ivs k).1) := by
  rw [take_at ivs k h, lenI_append]
  generalize ivAt ivs k = p
  obtain ⟨s, e⟩ := p
  simp [lenI]
theorem lenI_le {ivs : List Iv} (h : Inb ivs) : ∀ k, k ≤ ivs.length → 0 ≤ lenI (ivs.take k) ∧ lenI (ivs.take k) ≤ 142 * (k : Int)
  | 0, _ => by simp [lenI]
  | k + 1, hk => by
    have a := lenI_le h k (by omega)
    have b := h.at_ (k := k) (by omega)
    rw [lenI_succ ivs k (by omega)]
    push_cast
    omega

/-- is a number in -/
def hasI (ivs : List Iv) (n : Int) : Bool := ivs.any fun p => decide (p.1 ≤ n) && decide (n < p.2)
theorem hasI_succ (ivs : List Iv) (k : Nat) (h : k < ivs.length) (n : Int) : hasI (ivs.take (k + 1)) n = (hasI (ivs.take k) n || (decide ((ivAt ivs k).1 ≤ n) && decide (n < (ivAt ivs k).2))) := by
  unfold hasI
  rw [take_at ivs k h, List.any_append]
  simp
theorem hasI_yes (ivs : List Iv) (k : Nat) (h : k < ivs.length) (n : Int) (h1 : (ivAt ivs k).1 ≤ n) (h2 : n < (ivAt ivs k).2) : hasI ivs n = true := by
  unfold hasI
  rw [List.any_eq_true]
  exact ⟨_, at_mem ivs k h, by rw [decide_eq_true h1, decide_eq_true h2]; rfl⟩

/-- the same intervals -/
theorem eq_take_succ (a b : List Iv) (k : Nat) (ha : k < a.length) (hb : k < b.length) : a.take (k + 1) = b.take (k + 1) ↔ a.take k = b.take k ∧ ivAt a k = ivAt b k := by
  rw [take_at a k ha, take_at b k hb]
  constructor
  · intro h
    have := List.append_inj h (by simp; omega)
    exact ⟨this.1, by simpa using this.2⟩
  · rintro ⟨h1, h2⟩
    rw [h1, h2]

end Go.Proofs.YtifoeehfblddcaaDoor
