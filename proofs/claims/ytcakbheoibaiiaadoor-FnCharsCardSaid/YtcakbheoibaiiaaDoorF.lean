/- walks: the loops over steps -/
import Derived.Test.YtcakbheoibaiiaaDoorE
import Derived.Maps.AppendAt
import Derived.Deep.LoopGhost
namespace Go.Proofs.YtcakbheoibaiiaaDoor
open Go.RowKit

structure Stp where
  op : Int
  a : Int
  b : Int
  tA : Option Addr
  tl : Nat
  tc : Nat

def Stp.tv (s : Stp) : Value := .slice s.tA s.tl s.tc
def Stp.cells (s : Stp) : List Value := [.int .u8 s.op, .int .i64 s.a, .int .i64 s.b, .slice s.tA s.tl s.tc]
def stpCells (l : List Stp) : List Value := l.flatMap Stp.cells

/-- a slice's cells, from block g, place o on, are steps -/
def StepRow (w : World) (g o : Nat) (ss : List Stp) : Prop := ∀ k s, ss[k]? = some s → w.cell? ⟨g, o + k * 4, none⟩ = some (.int .u8 s.op) ∧ w.cell? ⟨g, o + k * 4 + 1, none⟩ = some (.int .i64 s.a) ∧ w.cell? ⟨g, o + k * 4 + 2, none⟩ = some (.int .i64 s.b) ∧ w.cell? ⟨g, o + k * 4 + 3, none⟩ = some (.slice s.tA s.tl s.tc)

theorem cells_new (w : World) (N : Nat) (hN : w.heap.size = N) (xs : List Value) (t : TypeId) : ∀ j u, xs[j]? = some u → (w.alloc (.cells xs.toArray t)).cell? ((⟨N, 0, none⟩ : Addr).add j) = some u := by
  subst hN
  intro j u hj
  have ea : (⟨w.heap.size, 0, none⟩ : Addr).add j = ⟨w.heap.size, j, none⟩ := by
    unfold Addr.add; split
    · subst_vars; rfl
    · simp
  rw [ea, World.cell?_alloc_mark]
  simpa using hj

theorem stpCells_snoc (l : List Stp) (s : Stp) : stpCells (l ++ [s]) = stpCells l ++ s.cells := by simp [stpCells]
theorem take_snoc {α : Type} {l : List α} {j : Nat} {s : α} (h : l[j]? = some s) : l.take (j + 1) = l.take j ++ [s] := by
  obtain ⟨hj, rfl⟩ := List.getElem?_eq_some_iff.1 h
  rw [List.take_succ_eq_append_getElem hj]

theorem info42 : (Tryd.prog.info? 42).map (fun i => (i.zero, i.size, i.bytes)) = some (some (.agg #[.int .u8 0, .int .i64 0, .int .i64 0, .slice none 0 0]), 4, 48) := by kernel_rfl

set_option maxHeartbeats 400000 in
theorem totok_some (g o c : Nat) (ss : List Stp) (w : World) (hg : g < w.heap.size) (hss : StepRow w g o ss) (hn : ss.length ≤ 1000000) :
    Calls Tryd.prog 8 #[.slice (some ⟨g, o, none⟩) ss.length c] w fun e w' => ∃ v, e = .returned v ∧ w'.ownsRow w.heap.size 42 4 v ss.length (stpCells ss) ∧ Below w.heap.size w w' := by
  generalize hN : ss.length = N at hn ⊢
  obtain ⟨i0, hi, hz0, hz1, hz2⟩ := info_parts info42
  go_enter Tryd.func8, Tryd.ntmps8
  go_wp2
  go_loopg [3, 8] N (fun k p i wr => ∃ j : Nat, j + k = N ∧ i = .int .i64 j ∧ wr.ownsRow w.heap.size 42 4 p j (stpCells (ss.take j)) ∧ Below w.heap.size w wr)
  case atStart => exact ⟨0, by omega, rfl, World.ownsRow_nil _ _ _ _, Below.refl _ _⟩
  case round =>
    obtain ⟨j, hj, rfl, hown, hb⟩ := hrel
    by_cases hlt : j < N
    · obtain ⟨s, hs⟩ : ∃ s, ss[j]? = some s := ⟨ss[j], List.getElem?_eq_getElem (by omega)⟩
      obtain ⟨q0, q1, q2, q3⟩ := hss j s hs
      have r0 := (hb.cell (p := ⟨g, o + j * 4, none⟩) hg).trans q0
      have r1 := (hb.cell (p := ⟨g, o + j * 4 + 1, none⟩) hg).trans q1
      have r2 := (hb.cell (p := ⟨g, o + j * 4 + 2, none⟩) hg).trans q2
      have r3 := (hb.cell (p := ⟨g, o + j * 4 + 3, none⟩) hg).trans q3
      have ht := hid (take_snoc hs)
      have hbs := hb.size
      clear q0 q1 q2 q3 hs hss hN
      go_wp2_with (at_builtin; refine wpList_append_own_at _ rfl _ _ 27 rfl w.heap.size 42 i0 _ 4 48 Tryd.underlying27 hi hz0 hz1 hz2 rfl (by decide) _ _ _ rfl ((hown.alloc _).alloc _) ⟨wr.heap.size + 1, 0, none⟩ 1 1 s.cells rfl rfl ?c1 ?c2 ?c3 ?c4 ?c5 ?_)
      case c1 => exact cells_new (wr.alloc _) _ (by simp) s.cells 42
      case c2 => simp [Stp.cells, Value.oneCell']
      case c3 => unfold maxLen; omega
      case c4 => omega
      case c5 => simp; omega
      intro v' w1 hown' hgrow _ _
      have hb1 : Below w.heap.size w w1 := ((hb.alloc hbs _).alloc (by simp; omega) _).grown hgrow (by simp; omega) (fun k e => (hown.lt k e).1)
      clear hgrow hown r0 r1 r2 r3
      go_wp2
      go_roundg (gk - 1)
      case measure => omega
      case rel => exact ⟨j + 1, by omega, by go_num, by rw [ht.out, stpCells_snoc]; exact hown', hb1⟩
    · go_wp2
      go_ret
      have hjN : j = N := by omega
      subst hjN
      rw [List.take_of_length_le (by omega)] at hown
      exact ⟨_, rfl, hown, hb⟩
end Go.Proofs.YtcakbheoibaiiaaDoor
