/- plain law: the steps over four sets of numbers -/
import Derived.Test.YtifoeehfblddcaaDoorA3
namespace Go.Proofs.YtifoeehfblddcaaDoor

abbrev FS := Nat → Nat → Bool
def updF (F : FS) (i : Nat) (f : Nat → Bool) : FS := fun k => if k = i then f else F k

/-- does a range meet, or stand beside, one run at most -/
def joinsB (rs : List Iv) (lo hi : Int) : Bool := decide (touch rs lo (hi + 1) ≤ 1)
/-- may a range be added -/
def fAddOk (f : Nat → Bool) (lo hi : Int) : Bool := decide (-20 ≤ lo) && decide (hi ≤ 120) && decide (lo ≤ hi) && joinsB (runsI f 141) lo hi

theorem fAdd_none (f : Nat → Bool) (lo : Int) (j : Nat) : fAdd f lo lo j = f j := by
  have : decide (lo ≤ (j : Int) - 20 ∧ (j : Int) - 20 < lo) = false := decide_eq_false (by omega)
  simp only [fAdd, this, Bool.or_false]
theorem updF_start (F : FS) (i : Nat) (f : Nat → Bool) (lo : Int) (h : F i = f) (i' j : Nat) (_ : i' < 4) (_ : j < 141) : F i' j = updF F i (fAdd f lo lo) i' j := by
  unfold updF
  by_cases e : i' = i
  · rw [if_pos e, e, fAdd_none, h]
  · rw [if_neg e]
theorem fAdd_succ (f : Nat → Bool) (lo n : Int) (k : Nat) (h1 : lo ≤ n) (h2 : -20 ≤ n) : fAdd f lo (n + 1) k = if k = (n + 20).toNat then true else fAdd f lo n k := by
  unfold fAdd
  by_cases e : k = (n + 20).toNat
  · rw [if_pos e, decide_eq_true (by omega), Bool.or_true]
  · rw [if_neg e]
    congr 1
    apply decide_eq_decide.2
    omega

theorem fAddOk_at {f : Nat → Bool} {lo hi : Int} (h : fAddOk f lo hi = true) : -20 ≤ lo ∧ lo ≤ hi ∧ hi ≤ 120 ∧ touch (runsI f 141) lo (hi + 1) ≤ 1 := by
  unfold fAddOk joinsB at h
  simp only [Bool.and_eq_true, decide_eq_true_eq] at h
  exact ⟨h.1.1.1, h.1.2, h.1.1.2, h.2⟩
/-- what addInterval makes of the runs of a set -/
theorem fAddOk_runs {f : Nat → Bool} {lo hi : Int} (h : fAddOk f lo hi = true) : addI (runsI f 141) lo (hi + 1) = runsI (fAdd f lo (hi + 1)) 141 := by
  obtain ⟨h1, h2, h3, h4⟩ := fAddOk_at h
  exact runsI_add f lo (hi + 1) h1 (by omega) (by omega) h4

/-- runs added one by one -/
def addRuns : (Nat → Bool) → List Iv → Option (Nat → Bool)
  | f, [] => some f
  | f, p :: r => if fAddOk f p.1 (p.2 - 1) then addRuns (fAdd f p.1 (p.2 - 1 + 1)) r else none

theorem addRuns_append (a b : List Iv) : ∀ f, addRuns f (a ++ b) = (addRuns f a).bind fun g => addRuns g b := by
  induction a with
  | nil => intro f; rfl
  | cons p r ih =>
    intro f
    simp only [List.cons_append, addRuns]
    by_cases h : fAddOk f p.1 (p.2 - 1) = true
    · rw [if_pos h, if_pos h, ih]
    · rw [if_neg h, if_neg h]; rfl
theorem addRuns_succ {f g : Nat → Bool} {rs : List Iv} {k : Nat} (h : addRuns f (rs.take k) = some g) (hk : k < rs.length) :
    addRuns f (rs.take (k + 1)) = if fAddOk g (ivAt rs k).1 ((ivAt rs k).2 - 1) then some (fAdd g (ivAt rs k).1 ((ivAt rs k).2 - 1 + 1)) else none := by
  rw [take_at rs k hk, addRuns_append, h]
  rfl
theorem addRuns_none {f g : Nat → Bool} {rs : List Iv} {k : Nat} (h : addRuns f (rs.take k) = some g) (hk : k < rs.length) (hn : fAddOk g (ivAt rs k).1 ((ivAt rs k).2 - 1) = false) : addRuns f rs = none := by
  rw [← List.take_append_drop k rs, addRuns_append, h, drop_at rs k hk]
  show addRuns g (ivAt rs k :: rs.drop (k + 1)) = none
  unfold addRuns
  rw [if_neg (by rw [hn]; exact Bool.false_ne_true)]
theorem addRuns_some {f f' : Nat → Bool} {rs : List Iv} (h : addRuns f rs = some f') (k : Nat) : ∃ g, addRuns f (rs.take k) = some g := by
  rw [← List.take_append_drop k rs, addRuns_append] at h
  cases hg : addRuns f (rs.take k) with
  | none => rw [hg] at h; cases h
  | some g => exact ⟨g, rfl⟩
theorem addRuns_step {f f' g : Nat → Bool} {rs : List Iv} (h : addRuns f rs = some f') {k : Nat} (hk : k < rs.length) (hg : addRuns f (rs.take k) = some g) : fAddOk g (ivAt rs k).1 ((ivAt rs k).2 - 1) = true := by
  cases h2 : fAddOk g (ivAt rs k).1 ((ivAt rs k).2 - 1)
  · rw [addRuns_none hg hk h2] at h; cases h
  · rfl

/-- a step over four sets -/
structure Sst where
  op : Nat
  set : Int
  a : Int
  b : Int

/-- one step; none if it is not asked -/
def stepF (F : FS) (s : Sst) : Option FS :=
  if s.set < 0 ∨ 3 < s.set ∨ 2 < s.op then none
  else if s.op = 0 then (if fAddOk (F s.set.toNat) s.a s.a then some (updF F s.set.toNat (fAdd (F s.set.toNat) s.a (s.a + 1))) else none)
  else if s.op = 1 then (if fAddOk (F s.set.toNat) s.a s.b then some (updF F s.set.toNat (fAdd (F s.set.toNat) s.a (s.b + 1))) else none)
  else if s.a < 0 ∨ 3 < s.a ∨ s.a = s.set then none
  else (addRuns (F s.set.toNat) (runsI (F s.a.toNat) 141)).map (updF F s.set.toNat)

def stepsF : FS → List Sst → Option FS
  | F, [] => some F
  | F, s :: r => (stepF F s).bind fun G => stepsF G r

def sst0 : Sst := ⟨0, 0, 0, 0⟩
abbrev stAt (ss : List Sst) (k : Nat) : Sst := ss.getD k sst0
theorem st_take (ss : List Sst) (k : Nat) (h : k < ss.length) : ss.take (k + 1) = ss.take k ++ [stAt ss k] := by
  rw [List.take_add_one]
  simp [stAt, h]
theorem st_drop (ss : List Sst) (k : Nat) (h : k < ss.length) : ss.drop k = stAt ss k :: ss.drop (k + 1) := by
  rw [List.drop_eq_getElem_cons h]
  simp [stAt, h]

theorem stepsF_append (a b : List Sst) : ∀ F, stepsF F (a ++ b) = (stepsF F a).bind fun G => stepsF G b := by
  induction a with
  | nil => intro F; rfl
  | cons s r ih =>
    intro F
    simp only [List.cons_append, stepsF]
    cases stepF F s with
    | none => rfl
    | some G => exact ih G
theorem stepsF_succ {F G : FS} {ss : List Sst} {k : Nat} (h : stepsF F (ss.take k) = some G) (hk : k < ss.length) : stepsF F (ss.take (k + 1)) = stepF G (stAt ss k) := by
  rw [st_take ss k hk, stepsF_append, h]
  show (stepF G (stAt ss k)).bind some = _
  cases stepF G (stAt ss k) <;> rfl
theorem stepsF_none {F G : FS} {ss : List Sst} {k : Nat} (h : stepsF F (ss.take k) = some G) (hk : k < ss.length) (hn : stepF G (stAt ss k) = none) : stepsF F ss = none := by
  rw [← List.take_append_drop k ss, stepsF_append, h, st_drop ss k hk]
  show (stepF G (stAt ss k)).bind _ = none
  rw [hn]; rfl
theorem stepsF_some {F F' : FS} {ss : List Sst} (h : stepsF F ss = some F') (k : Nat) : ∃ G, stepsF F (ss.take k) = some G := by
  rw [← List.take_append_drop k ss, stepsF_append] at h
  cases hg : stepsF F (ss.take k) with
  | none => rw [hg] at h; cases h
  | some g => exact ⟨g, rfl⟩
theorem stepsF_step {F F' G : FS} {ss : List Sst} (h : stepsF F ss = some F') {k : Nat} (hk : k < ss.length) (hg : stepsF F (ss.take k) = some G) : ∃ G', stepF G (stAt ss k) = some G' := by
  cases h2 : stepF G (stAt ss k) with
  | none => rw [stepsF_none hg hk h2] at h; cases h
  | some G' => exact ⟨G', rfl⟩

/-- the cases of a step that is asked -/
theorem stepF_some {F G : FS} {s : Sst} (h : stepF F s = some G) : 0 ≤ s.set ∧ s.set ≤ 3 ∧
    ((s.op = 0 ∧ fAddOk (F s.set.toNat) s.a s.a = true ∧ G = updF F s.set.toNat (fAdd (F s.set.toNat) s.a (s.a + 1))) ∨
     (s.op = 1 ∧ fAddOk (F s.set.toNat) s.a s.b = true ∧ G = updF F s.set.toNat (fAdd (F s.set.toNat) s.a (s.b + 1))) ∨
     (s.op = 2 ∧ 0 ≤ s.a ∧ s.a ≤ 3 ∧ s.a ≠ s.set ∧ ∃ f, addRuns (F s.set.toNat) (runsI (F s.a.toNat) 141) = some f ∧ G = updF F s.set.toNat f)) := by
  unfold stepF at h
  by_cases c : s.set < 0 ∨ 3 < s.set ∨ 2 < s.op
  · rw [if_pos c] at h; cases h
  · rw [if_neg c] at h
    refine ⟨by omega, by omega, ?_⟩
    by_cases c0 : s.op = 0
    · rw [if_pos c0] at h
      by_cases k : fAddOk (F s.set.toNat) s.a s.a = true
      · rw [if_pos k] at h
        exact .inl ⟨c0, k, (Option.some.inj h).symm⟩
      · rw [if_neg k] at h; cases h
    · rw [if_neg c0] at h
      by_cases c1 : s.op = 1
      · rw [if_pos c1] at h
        by_cases k : fAddOk (F s.set.toNat) s.a s.b = true
        · rw [if_pos k] at h
          exact .inr (.inl ⟨c1, k, (Option.some.inj h).symm⟩)
        · rw [if_neg k] at h; cases h
      · rw [if_neg c1] at h
        by_cases c2 : s.a < 0 ∨ 3 < s.a ∨ s.a = s.set
        · rw [if_pos c2] at h; cases h
        · rw [if_neg c2] at h
          cases hr : addRuns (F s.set.toNat) (runsI (F s.a.toNat) 141) with
          | none => rw [hr] at h; cases h
          | some f =>
            rw [hr] at h
            exact .inr (.inr ⟨by omega, by omega, by omega, by omega, f, rfl, (Option.some.inj h).symm⟩)

end Go.Proofs.YtifoeehfblddcaaDoor
