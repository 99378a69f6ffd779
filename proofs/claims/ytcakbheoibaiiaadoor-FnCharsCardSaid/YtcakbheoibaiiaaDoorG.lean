/- walks: the steps done one behind the other -/
import Derived.Test.YtcakbheoibaiiaaDoorF
import Derived.Deep.AppendLies
namespace Go.Proofs.YtcakbheoibaiiaaDoor
open Go.RowKit

theorem row_mono {w : World} {base base' : Nat} {e : TypeId} {size : Nat} {v : Value} {n : Nat} {xs : List Value} (h : w.ownsRow base e size v n xs) (hb : base' ≤ base) : w.ownsRow base' e size v n xs :=
  ⟨h.1, h.2.imp id fun ⟨g, cap, cur, h1, h2, h3⟩ => ⟨g, cap, cur, h1, Nat.le_trans hb h2, h3⟩⟩

structure Out where
  num : Int
  text : ByteArray
  pan : Bool

def Out.cells (o : Out) : List Value := [.int .i64 o.num, .string o.text, .slice none 0 0, .bool o.pan]
def outCells (l : List Out) : List Value := l.flatMap Out.cells
theorem outCells_snoc (l : List Out) (s : Out) : outCells (l ++ [s]) = outCells l ++ s.cells := by simp [outCells]
theorem outCells_length (l : List Out) : (outCells l).length = l.length * 4 := by
  induction l with
  | nil => rfl
  | cons s l ih => simp only [outCells, List.flatMap_cons, List.length_append, List.length_cons] at ih ⊢; rw [ih]; simp [Out.cells]; omega

/-- one step over a text's characters: what it tells, and the place behind it; none: not asked -/
def stepTo (rs : List Int) (i : Int) (s : Stp) : Option (Out × Int) :=
  if s.op = 0 then (if i = rs.length then some (⟨0, ⟨#[]⟩, true⟩, i) else some (⟨0, ⟨#[]⟩, false⟩, i + 1))
  else if s.op = 1 then (if s.a = 0 ∨ 1000 < s.a ∨ s.a < -1000 then none else some (⟨laOf rs i s.a, ⟨#[]⟩, false⟩, i))
  else if s.op = 2 then (if s.a < 0 ∨ (rs.length : Int) < s.a then none else some (⟨0, ⟨#[]⟩, false⟩, s.a))
  else if s.op = 3 then some (⟨0, ⟨#[]⟩, false⟩, i)
  else if s.op = 4 then some (⟨i, ⟨#[]⟩, false⟩, i)
  else if s.op = 5 then some (⟨rs.length, ⟨#[]⟩, false⟩, i)
  else if s.op = 6 ∨ s.op = 7 then (if s.a < 0 ∨ s.b < s.a ∨ (rs.length : Int) ≤ s.b then none else some (⟨0, runesBytes ((rs.drop s.a.toNat).take (s.b.toNat + 1 - s.a.toNat)), false⟩, i))
  else if s.op = 8 then some (⟨0, runesBytes rs, false⟩, i)
  else none

/-- steps one behind the other; one that panics is the last -/
def runSteps (rs : List Int) : Int → List Stp → Option (List Out)
  | _, [] => some []
  | i, s :: r => match stepTo rs i s with
    | none => none
    | some (o, i') => if o.pan = true then some [o] else (runSteps rs i' r).map (o :: ·)

theorem step_any (b d : Nat) (rs : List Int) (i i' : Int) (s : Stp) (out : Out) (tv : Value) (w : World) (h : Strm w b d rs i) (hs : stepTo rs i s = some (out, i')) :
    Calls Tryd.prog 15 #[.pointer (some ⟨b, 0, none⟩), .agg #[.int .u8 s.op, .int .i64 s.a, .int .i64 s.b, tv]] w fun e w' =>
      e = .returned (.agg #[.int .i64 out.num, .string out.text, .slice none 0 0, .bool out.pan]) ∧ Stepped b d rs i' w w' := by
  obtain ⟨op, a, bb, tA, tl, tc⟩ := s
  simp only at hs ⊢
  unfold stepTo at hs
  simp only at hs
  by_cases h0 : op = 0
  · subst h0
    simp only [if_true] at hs
    by_cases he : i = rs.length
    · rw [if_pos he] at hs
      cases hs
      exact step_end b d rs i a bb tv w h he
    · rw [if_neg he] at hs
      cases hs
      exact step_consume b d rs i a bb tv w h (by have := h.i1; omega)
  rw [if_neg h0] at hs
  by_cases h1 : op = 1
  · subst h1
    simp only [if_true] at hs
    by_cases he : a = 0 ∨ 1000 < a ∨ a < -1000
    · rw [if_pos he] at hs; cases hs
    · rw [if_neg he] at hs
      cases hs
      exact step_la b d rs i a bb tv w h (by omega) (by omega) (by omega)
  rw [if_neg h1] at hs
  by_cases h2 : op = 2
  · subst h2
    simp only [if_true] at hs
    by_cases he : a < 0 ∨ (rs.length : Int) < a
    · rw [if_pos he] at hs; cases hs
    · rw [if_neg he] at hs
      cases hs
      exact step_seek b d rs i _ bb tv w h (by omega) (by omega)
  rw [if_neg h2] at hs
  by_cases h3 : op = 3
  · subst h3
    simp only [if_true] at hs
    cases hs
    exact step_mark b d rs i a bb tv w h
  rw [if_neg h3] at hs
  by_cases h4 : op = 4
  · subst h4
    simp only [if_true] at hs
    cases hs
    exact step_index b d rs i a bb tv w h
  rw [if_neg h4] at hs
  by_cases h5 : op = 5
  · subst h5
    simp only [if_true] at hs
    cases hs
    exact step_size b d rs i a bb tv w h
  rw [if_neg h5] at hs
  by_cases h67 : op = 6 ∨ op = 7
  · rw [if_pos h67] at hs
    by_cases he : a < 0 ∨ bb < a ∨ (rs.length : Int) ≤ bb
    · rw [if_pos he] at hs; cases hs
    · rw [if_neg he] at hs
      obtain ⟨x, rfl⟩ : ∃ x : Nat, a = x := ⟨a.toNat, by omega⟩
      obtain ⟨y, rfl⟩ : ∃ y : Nat, bb = y := ⟨bb.toNat, by omega⟩
      simp only [Int.toNat_natCast] at hs
      cases hs
      rcases h67 with rfl | rfl
      · exact step_text b d rs i x y tv w h (by omega) (by omega)
      · exact step_ival b d rs i x y tv w h (by omega) (by omega)
  rw [if_neg h67] at hs
  by_cases h8 : op = 8
  · subst h8
    simp only [if_true] at hs
    cases hs
    exact step_all b d rs i a bb tv w h
  rw [if_neg h8] at hs
  cases hs

theorem Strm.keepRow {w w' : World} {b d : Nat} {rs : List Int} {i : Int} (h : Strm w b d rs i) {row : Option Nat} (g : w.grownBy w' row) (hb : some b ≠ row) (hd : some d ≠ row) : Strm w' b d rs i where
  lt := Nat.lt_of_lt_of_le h.lt g.size
  dlt := Nat.lt_of_lt_of_le h.dlt g.size
  ne := h.ne
  n := h.n
  i0 := h.i0
  i1 := h.i1
  c1 := (gb_cell g h.lt hb).trans h.c1
  c2 := h.c2.imp fun c ⟨hc, hh⟩ => ⟨hc, (gb_cell g h.lt hb).trans hh⟩
  c3 := (gb_cell g h.lt hb).trans h.c3
  fr := fun j => (gb_frozen g h.lt hb).trans (h.fr j)
  rc := fun j hj => (gb_cell g h.dlt hd).trans (h.rc j hj)
  rb := h.rb

theorem info34 : (Tryd.prog.info? 34).map (fun i => (i.zero, i.size, i.bytes)) = some (some (.agg #[.int .i64 0, .string ⟨#[]⟩, .slice none 0 0, .bool false]), 4, 56) := by kernel_rfl

end Go.Proofs.YtcakbheoibaiiaaDoor
