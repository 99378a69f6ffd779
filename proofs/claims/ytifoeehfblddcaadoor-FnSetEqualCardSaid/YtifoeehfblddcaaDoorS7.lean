/- steps in memory; four sets as one value -/
import Derived.Test.YtifoeehfblddcaaDoorS2
import Derived.Laws.Tables
namespace Go.Proofs.YtifoeehfblddcaaDoor
open Go.RowKit

def F0 : FS := fun _ _ => false

/-- four sets as one value -/
def c564 (F : FS) : Array Value := ((List.range 564).map fun c => Value.bool (F (c / 141) (c % 141))).toArray
theorem c564_size (F : FS) : (c564 F).size = 564 := by simp [c564]
theorem c564_get (F : FS) (c : Nat) (h : c < 564) : (c564 F)[c]? = some (.bool (F (c / 141) (c % 141))) := by simp [c564, h]
theorem c564_one (F : FS) : (c564 F).all (·.oneCell') = true := by
  apply Array.all_eq_true_iff_forall_mem.2
  intro v hv
  simp only [c564, List.mem_toArray, List.mem_map, List.mem_range] at hv
  obtain ⟨c, _, rfl⟩ := hv
  rfl

theorem R4.blk {w : World} {b : Nat} {F : FS} (h : R4 w b F) : w.heap[b]? = some (.cells (c564 F) 41 (0, 0)) := by
  obtain ⟨c, hb, hn, hc⟩ := h
  have e : c = c564 F := by
    apply Array.ext_getElem?
    intro i
    by_cases hi : i < 564
    · rw [hc i hi, c564_get F i hi]
    · rw [Array.getElem?_eq_none (by omega), Array.getElem?_eq_none (by rw [c564_size]; omega)]
  rw [hb, e]
theorem R4.of_blk {w : World} {b : Nat} {F : FS} (h : w.heap[b]? = some (.cells (c564 F) 41 (0, 0))) : R4 w b F :=
  ⟨_, h, c564_size F, fun i hi => c564_get F i hi⟩
theorem R4.row {w : World} {b : Nat} {F G : FS} (h : R4 w b F) : R4 (w.setRow b (c564 G)) b G := R4.of_blk (setRow_heap _ _ _ _ _ _ h.blk)

theorem size41 : (Tryd.prog.info? 41).map (·.size) = some 564 := by kernel_rfl
theorem size41c (F : FS) : (Tryd.prog.info? 41).map (·.size) = some (c564 F).size := by rw [c564_size]; exact size41

theorem load41 {w : World} {b : Nat} {F : FS} (h : R4 w b F) : (loadVar 41 ⟨b, 0, none⟩).run Tryd.prog w = .ok (.agg (c564 F)) w :=
  run_loadVar_row w b 41 41 (c564 F) (0, 0) _ h.blk Tryd.underlying41 rfl (size41c F)

/-- what SetsDo hands back -/
theorem results27_of {tmps : Array Value} {w : World} {b : Nat} {F : FS} {ok : Bool} (h1 : tmps.getD 2 undef = .pointer (some ⟨b, 0, none⟩)) (h2 : tmps.getD 3 undef = .bool ok) (h : R4 w b F) :
    (results Tryd.f27 tmps).run Tryd.prog w = .ok (.tuple #[.agg (c564 F), .bool ok]) w := by
  have h1' : tmps[2]?.getD undef = .pointer (some ⟨b, 0, none⟩) := by simpa using h1
  have h2' : tmps[3]?.getD undef = .bool ok := by simpa using h2
  simp [results, Tryd.results27, h1', h2', asAddr, load41 h]

theorem four_new (w : World) (a b c d : Value) (t : TypeId) : (w.alloc (.cells #[a, b, c, d] t)).cell? ⟨w.heap.size, 0, none⟩ = some a ∧ (w.alloc (.cells #[a, b, c, d] t)).cell? ⟨w.heap.size, 1, none⟩ = some b ∧ (w.alloc (.cells #[a, b, c, d] t)).cell? ⟨w.heap.size, 2, none⟩ = some c ∧ (w.alloc (.cells #[a, b, c, d] t)).cell? ⟨w.heap.size, 3, none⟩ = some d := by
  have h := Go.Proofs.YtifoeehfblddcaaDoor.heap_alloc_new w #[a, b, c, d] t
  exact ⟨cell_of_row _ _ 0 _ _ _ h, cell_of_row _ _ 1 _ _ _ h, cell_of_row _ _ 2 _ _ _ h, cell_of_row _ _ 3 _ _ _ h⟩

/-- steps in memory: a slice of structs of four cells -/
structure Steps (w : World) (A : Option Addr) (c : Nat) (ss : List Sst) : Prop where
  cap : ss.length ≤ c
  row : 0 < ss.length → ∃ g o, A = some ⟨g, o, none⟩ ∧ g < w.heap.size ∧ ∀ j, j < ss.length →
    w.cell? ⟨g, o + j * 4, none⟩ = some (.int .u8 ((stAt ss j).op : Nat)) ∧ w.cell? ⟨g, o + j * 4 + 1, none⟩ = some (.int .i64 (stAt ss j).set) ∧
    w.cell? ⟨g, o + j * 4 + 2, none⟩ = some (.int .i64 (stAt ss j).a) ∧ w.cell? ⟨g, o + j * 4 + 3, none⟩ = some (.int .i64 (stAt ss j).b)

theorem Steps.keep {w w' : World} {A : Option Addr} {c : Nat} {ss : List Sst} (h : Steps w A c ss) (hb : Below w.heap.size w w') : Steps w' A c ss :=
  ⟨h.cap, fun h0 => by
    obtain ⟨g, o, e, hg, hc⟩ := h.row h0
    refine ⟨g, o, e, Nat.lt_of_lt_of_le hg hb.size, fun j hj => ?_⟩
    obtain ⟨k0, k1, k2, k3⟩ := hc j hj
    exact ⟨(hb.cell (p := ⟨g, o + j * 4, none⟩) hg).trans k0, (hb.cell (p := ⟨g, o + j * 4 + 1, none⟩) hg).trans k1, (hb.cell (p := ⟨g, o + j * 4 + 2, none⟩) hg).trans k2, (hb.cell (p := ⟨g, o + j * 4 + 3, none⟩) hg).trans k3⟩⟩

end Go.Proofs.YtifoeehfblddcaaDoor
