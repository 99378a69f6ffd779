/- words for the walks of interval sets -/
import Derived.Test.YtifoeehfblddcaaDoorProg
import Derived.Test.YtifoeehfblddcaaDoorA4
import Derived.WalkKit
import Derived.WalkSpells
import Derived.WalkLawsBesides
import Derived.BigQuiet
import Derived.Deep.QuietTactic
import Derived.IntWalk
import Derived.Laws.CopyOwn
import Derived.Deep.OwnRows
import Derived.OwnWalk
import Derived.Deep.LoopGhost
import Derived.StillTailTactics
import Derived.Deep.CutBlock
import Derived.Deep.DeepCutAuto
import Derived.Deep.RegionHeld3
import Derived.Deep.AppendLies
import Derived.Deep.MidRow
import Derived.Deep.RegionLaw
import Derived.Maps.AppendAt
import Derived.Outline
import Derived.BigRegion
namespace Go.Proofs.YtifoeehfblddcaaDoor
open Go.RowKit

/-- a fact kept from the walk -/
theorem hid {p : Prop} (h : p) : Hid p := h

theorem bl1 (w : World) (o : Obj) : Below w.heap.size w (w.alloc o) := (Below.refl _ _).alloc (Nat.le_refl _) _
theorem bl {w a b : World} (h : Below w.heap.size w a) (k : Below a.heap.size a b) : Below w.heap.size w b := h.trans (k.mono h.size)
theorem bdn {B : Nat} {a w : World} (h : Below B a w) (n : Nat) : Below B a (w.drewN n) := ⟨h.os, h.tape, h.output, h.size, h.block⟩
theorem heap_alloc_new (w : World) (c : Array Value) (t : TypeId) : (w.alloc (.cells c t)).heap[w.heap.size]? = some (.cells c t (0, 0)) := by
  show (w.heap.push _)[w.heap.size]? = _
  exact Array.getElem?_push_size
theorem heap_set {w : World} {g : Nat} {c : Array Value} {t : TypeId} {fr : Nat × Nat} (h : w.heap[g]? = some (.cells c t fr)) (k : Nat) (u : Value) :
    (w.setCell ⟨g, k, none⟩ u).heap[g]? = some (.cells (c.setIfInBounds k u) t fr) := by
  simp [World.setCell, Array.getElem?_modify, h]
theorem heap_other (w : World) (p : Addr) (u : Value) (g : Nat) (hg : g ≠ p.block) : (w.setCell p u).heap[g]? = w.heap[g]? := Below.heap_setCell _ _ _ _ hg
theorem size_set (w : World) (p : Addr) (u : Value) : (w.setCell p u).heap.size = w.heap.size := by simp [World.setCell]
theorem lt_of_heap {w : World} {g : Nat} {o : Obj} (h : w.heap[g]? = some o) : g < w.heap.size := (Array.getElem?_eq_some_iff.1 h).1

theorem pair_new (w : World) (x y : Int) (t : TypeId) : (w.alloc (.cells #[.int .i64 x, .int .i64 y] t)).cell? ⟨w.heap.size, 0, none⟩ = some (.int .i64 x) ∧ (w.alloc (.cells #[.int .i64 x, .int .i64 y] t)).cell? ⟨w.heap.size, 1, none⟩ = some (.int .i64 y) := by
  have h := heap_alloc_new w #[.int .i64 x, .int .i64 y] t
  exact ⟨cell_of_row _ _ 0 _ _ _ h, cell_of_row _ _ 1 _ _ _ h⟩

/-! ### changed at one block alone -/
theorem gb_below {w w' : World} (h : Below w.heap.size w w') (row : Option Nat) : w.grownBy w' row := ⟨h.os, h.tape, h.output, h.size, fun i hi _ => h.block i hi⟩
theorem gb_set (w : World) (b k : Nat) (u : Value) : w.grownBy (w.setCell ⟨b, k, none⟩ u) (some b) :=
  ⟨rfl, rfl, rfl, by simp [World.setCell], fun i _ hi => Below.heap_setCell _ _ _ _ (fun e => hi (by rw [e]))⟩
theorem below_gb {w w' : World} {row : Option Nat} {B : Nat} (h : w.grownBy w' row) (hB : B ≤ w.heap.size) (hr : ∀ k, row = some k → B ≤ k) : Below B w w' :=
  (Below.refl B w).grown h hB hr

theorem gb_more {w a b : World} {R row : Option Nat} (h : w.grownBy a R) (k : a.grownBy b row) (hr : ∀ r, row = some r → w.heap.size ≤ r ∨ R = some r) : w.grownBy b R :=
  ⟨k.os.trans h.os, k.tape.trans h.tape, k.output.trans h.output, Nat.le_trans h.size k.size, fun i hi hn => by
    rw [k.block i (Nat.lt_of_lt_of_le hi h.size) ?_]
    · exact h.block i hi hn
    · intro e
      rcases hr i e.symm with h1 | h1
      · omega
      · exact hn h1.symm⟩
theorem gb_drew (w : World) (row : Option Nat) : w.grownBy w.drew row := ⟨rfl, rfl, rfl, Nat.le_refl _, fun _ _ _ => rfl⟩
theorem gb_alloc (w : World) (o : Obj) (row : Option Nat) : w.grownBy (w.alloc o) row := gb_below (bl1 w o) row

theorem own_low {w : World} {base base' : Nat} {e : TypeId} {size : Nat} {v : Value} {n : Nat} {xs : List Value} (h : w.ownsRow base e size v n xs) (hb : base' ≤ base) : w.ownsRow base' e size v n xs :=
  ⟨h.1, h.2.imp id fun ⟨g, cap, cur, h1, h2, r⟩ => ⟨g, cap, cur, h1, Nat.le_trans hb h2, r⟩⟩
theorem own_set {w : World} {base : Nat} {e : TypeId} {size : Nat} {v : Value} {n : Nat} {xs : List Value} (h : w.ownsRow base e size v n xs) (p : Addr) (u : Value) (hne : v.ownBlock ≠ some p.block) : (w.setCell p u).ownsRow base e size v n xs :=
  h.kept (show w.grownBy (w.setCell p u) (some p.block) from ⟨rfl, rfl, rfl, by simp [World.setCell], fun i _ hi => Below.heap_setCell _ _ _ _ (fun e => hi (by rw [e]))⟩) (.inr hne)
theorem own_below {w w' : World} {base : Nat} {e : TypeId} {size : Nat} {v : Value} {n : Nat} {xs : List Value} (h : w.ownsRow base e size v n xs) (hb : Below w.heap.size w w') : w'.ownsRow base e size v n xs :=
  h.kept (gb_below hb none) (by cases v.ownBlock <;> simp)
theorem slice_of {w : World} {base : Nat} {e : TypeId} {size : Nat} {v : Value} {n : Nat} {xs : List Value} (h : w.ownsRow base e size v n xs) : ∃ A c, v = .slice A n c := by
  rcases h.2 with ⟨e, rfl⟩ | ⟨_, _, _, e, _⟩ <;> exact ⟨_, _, e⟩
theorem grown_cell {a w : World} {row : Option Nat} (h : a.grownBy w row) {p : Addr} (hp : p.block < a.heap.size) (hn : some p.block ≠ row) : w.cell? p = a.cell? p := World.cell?_of_block (h.block _ hp hn)

theorem ret_bool {a b : Bool} (h : a = b) : Ending.returned (.bool a) = .returned (.bool b) := by rw [h]
theorem ret_i64 {a b : Int} (h : a = b) : Ending.returned (.int .i64 a) = .returned (.int .i64 b) := by rw [h]

/-! ### two cells an element -/
def c2 (x y : Int) : List Value := [.int .i64 x, .int .i64 y]
/-- the runs of a set of numbers, each by its least and greatest number -/
def rcells (rs : List Iv) : List Value := rs.flatMap fun p => c2 p.1 (p.2 - 1)
/-- the intervals of a set, each by its first and the one behind its last -/
def icells (rs : List Iv) : List Value := rs.flatMap fun p => c2 p.1 p.2

theorem rcells_len (rs : List Iv) : (rcells rs).length = rs.length * 2 := by
  induction rs with
  | nil => rfl
  | cons p r ih => simp only [rcells, List.flatMap_cons, List.length_append, List.length_cons] at *; rw [ih]; simp [c2]; omega
theorem icells_len (rs : List Iv) : (icells rs).length = rs.length * 2 := by
  induction rs with
  | nil => rfl
  | cons p r ih => simp only [icells, List.flatMap_cons, List.length_append, List.length_cons] at *; rw [ih]; simp [c2]; omega
theorem rcells_append (a b : List Iv) : rcells (a ++ b) = rcells a ++ rcells b := by simp [rcells]
theorem icells_append (a b : List Iv) : icells (a ++ b) = icells a ++ icells b := by simp [icells]

theorem rcells_at : ∀ (rs : List Iv) (k : Nat), k < rs.length → (rcells rs)[k * 2]? = some (.int .i64 (ivAt rs k).1) ∧ (rcells rs)[k * 2 + 1]? = some (.int .i64 ((ivAt rs k).2 - 1))
  | [], _, h => by simp at h
  | p :: r, 0, _ => ⟨rfl, rfl⟩
  | p :: r, k + 1, h => by
    have := rcells_at r k (by simpa using h)
    have e1 : (rcells (p :: r))[(k + 1) * 2]? = (rcells r)[k * 2]? := by
      show (c2 p.1 (p.2 - 1) ++ rcells r)[(k + 1) * 2]? = _
      rw [List.getElem?_append_right (by simp [c2]; omega)]
      congr 1
      simp [c2]; omega
    have e2 : (rcells (p :: r))[(k + 1) * 2 + 1]? = (rcells r)[k * 2 + 1]? := by
      show (c2 p.1 (p.2 - 1) ++ rcells r)[(k + 1) * 2 + 1]? = _
      rw [List.getElem?_append_right (by simp [c2]; omega)]
      congr 1
      simp [c2]; omega
    rw [e1, e2]
    exact this
theorem icells_at : ∀ (rs : List Iv) (k : Nat), k < rs.length → (icells rs)[k * 2]? = some (.int .i64 (ivAt rs k).1) ∧ (icells rs)[k * 2 + 1]? = some (.int .i64 (ivAt rs k).2)
  | [], _, h => by simp at h
  | p :: r, 0, _ => ⟨rfl, rfl⟩
  | p :: r, k + 1, h => by
    have := icells_at r k (by simpa using h)
    have e1 : (icells (p :: r))[(k + 1) * 2]? = (icells r)[k * 2]? := by
      show (c2 p.1 p.2 ++ icells r)[(k + 1) * 2]? = _
      rw [List.getElem?_append_right (by simp [c2]; omega)]
      congr 1
      simp [c2]; omega
    have e2 : (icells (p :: r))[(k + 1) * 2 + 1]? = (icells r)[k * 2 + 1]? := by
      show (c2 p.1 p.2 ++ icells r)[(k + 1) * 2 + 1]? = _
      rw [List.getElem?_append_right (by simp [c2]; omega)]
      congr 1
      simp [c2]; omega
    rw [e1, e2]
    exact this
theorem oneCell_icells (rs : List Iv) : ∀ u ∈ icells rs, u.oneCell' = true := by
  intro u hu
  simp only [icells, List.mem_flatMap, c2] at hu
  obtain ⟨p, _, h⟩ := hu
  simp at h
  rcases h with rfl | rfl <;> rfl

/-! ### the four sets of numbers in memory -/
/-- block b holds four sets of 141 numbers -/
def R4 (w : World) (b : Nat) (F : FS) : Prop := w.rowIs b 41 564 (fun c => .bool (F (c / 141) (c % 141)))

theorem R4.cell {w : World} {b : Nat} {F : FS} (h : R4 w b F) {i j o : Nat} (hi : i < 4) (hj : j < 141) (ho : o = i * 141) : w.cell? ⟨b, o + j, none⟩ = some (.bool (F i j)) := by
  have := World.rowIs.cell h (i := o + j) (by omega)
  rw [this]
  have e1 : (o + j) / 141 = i := by omega
  have e2 : (o + j) % 141 = j := by omega
  rw [e1, e2]
theorem R4.keep {w w' : World} {b : Nat} {F : FS} (h : R4 w b F) (hb : Below w.heap.size w w') : R4 w' b F := h.of_block (hb.block _ h.lt)
theorem R4.set_ {w : World} {b : Nat} {F : FS} {f g : Nat → Bool} {i j o : Nat} (h : R4 w b (updF F i f)) (hi : i < 4) (hj : j < 141) (ho : o = i * 141) (hg : ∀ k, k < 141 → g k = if k = j then true else f k) :
    R4 (w.setCell ⟨b, o + j, none⟩ (.bool true)) b (updF F i g) := by
  refine (World.rowIs.set h (o + j) (.bool true)).congr ?_
  intro c hc
  by_cases e : c = o + j
  · subst e
    have e1 : (o + j) / 141 = i := by omega
    have e2 : (o + j) % 141 = j := by omega
    rw [if_pos rfl, e1, e2]
    simp [updF, hg j hj]
  · rw [if_neg e]
    unfold updF
    by_cases h1 : c / 141 = i
    · rw [if_pos h1, if_pos h1, hg _ (by omega), if_neg (by omega)]
    · rw [if_neg h1, if_neg h1]

end Go.Proofs.YtifoeehfblddcaaDoor
