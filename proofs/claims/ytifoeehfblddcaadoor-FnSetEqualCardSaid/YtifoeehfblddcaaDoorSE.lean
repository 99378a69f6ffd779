/- two sets of numbers as values: equal just if they have the same numbers -/
import Derived.Test.YtifoeehfblddcaaDoorS7
import Derived.ChangeKeysEq
namespace Go.Proofs.YtifoeehfblddcaaDoor
open Go.RowKit

/-- one set as a value -/
def c141 (f : Nat → Bool) : List Value := (List.range 141).map fun c => Value.bool (f c)
theorem c141_len (f : Nat → Bool) : (c141 f).length = 141 := by simp [c141]
theorem c141_get (f : Nat → Bool) (c : Nat) (h : c < 141) : (c141 f)[c]? = some (.bool (f c)) := by simp [c141, h]

theorem eqItems_bools (d : Nat) (f g : Nat → Bool) (w : World) : ∀ is : List Nat, (∀ i ∈ is, i < 141) → (Op.eqItems (d + 1) 4 1 (c141 f).toArray (c141 g).toArray is).run Tryd.prog w = .ok (is.all fun i => f i == g i) w
  | [], _ => by simp [Op.eqItems]
  | i :: is, h => by
    have hi := h i (by simp)
    have p1 : (part 4 (c141 f).toArray (i * 1)).run Tryd.prog w = .ok (.bool (f i)) w := run_part_plain w (by kernel_rfl) (by rw [Nat.mul_one]; simpa using c141_get f i hi)
    have p2 : (part 4 (c141 g).toArray (i * 1)).run Tryd.prog w = .ok (.bool (g i)) w := run_part_plain w (by kernel_rfl) (by rw [Nat.mul_one]; simpa using c141_get g i hi)
    have p3 : (Op.equalIn (d + 1) 4 (.bool (f i)) (.bool (g i))).run Tryd.prog w = .ok (f i == g i) w := by
      simp [Op.equalIn, run_underlying Tryd.underlying4]
    have ih := eqItems_bools d f g w is (fun j hj => h j (by simp [hj]))
    simp only [Op.eqItems, Sem.run_bind, p1, p2, p3, Result.andThen_ok, List.all_cons]
    cases h2 : (f i == g i)
    · simp
    · simpa using ih

/-- do two sets have the same numbers -/
def sameN (f g : Nat → Bool) : Bool := (List.range 141).all fun i => f i == g i
theorem sameN_iff (f g : Nat → Bool) : sameN f g = true ↔ ∀ j, j < 141 → f j = g j := by
  unfold sameN
  simp [List.all_eq_true]

/-- the two answers agree -/
theorem same_runs (f g : Nat → Bool) : decide (runsI f 141 = runsI g 141) = sameN f g := by
  cases h : sameN f g
  · apply decide_eq_false
    intro e
    have := (sameN_iff f g).2 ((runsI_same f g).1 e)
    rw [h] at this; cases this
  · exact decide_eq_true ((runsI_same f g).2 ((sameN_iff f g).1 h))

theorem eql40 (f g : Nat → Bool) (w : World) : (binOp .eql 40 (.agg (c141 f).toArray) (.agg (c141 g).toArray)).run Tryd.prog w = .ok (.bool (sameN f g)) w := by
  have hi : (Tryd.prog.info? 4).isSome = true := by kernel_rfl
  obtain ⟨i, hi⟩ := Option.isSome_iff_exists.1 hi
  have hc : Tryd.prog.cellsOf 4 = 1 := by kernel_rfl
  have h := run_equalIn_array (P := Tryd.prog) w 9999 (c141 f).toArray (c141 g).toArray Tryd.underlying40 hi
  rw [hc, eqItems_bools 9998 f g w (List.range 141) (fun i hi => List.mem_range.1 hi)] at h
  simp only [binOp]
  simp [Op.equal, Op.maxDepth, h, sameN]

theorem size40 : (Tryd.prog.info? 40).map (·.size) = some 141 := by kernel_rfl
theorem size40c (f : Nat → Bool) : (Tryd.prog.info? 40).map (·.size) = some (c141 f).length := by rw [c141_len]; exact size40

/-- a set within the four -/
theorem R4.range {w : World} {b : Nat} {F : FS} (h : R4 w b F) (i : Nat) (hi : i < 4) (o : Nat) (ho : o = i * 141) : w.rangeAt b o (c141 (F i)) := by
  intro j v hv
  have hj : j < 141 := by
    have := (List.getElem?_eq_some_iff.1 hv).1
    rw [c141_len] at this
    exact this
  rw [c141_get _ _ hj] at hv
  rw [h.cell hi hj ho, hv]

end Go.Proofs.YtifoeehfblddcaaDoor
