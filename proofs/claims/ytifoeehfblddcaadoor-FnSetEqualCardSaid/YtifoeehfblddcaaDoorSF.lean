/- FnSetEqual at any list of steps -/
import Derived.Test.YtifoeehfblddcaaDoorSH
import Derived.Test.YtifoeehfblddcaaDoorSI
import Derived.Test.YtifoeehfblddcaaDoorSE
namespace Go.Proofs.YtifoeehfblddcaaDoor
open Go.RowKit

set_option maxHeartbeats 400000 in
theorem setequal_long (A : Option Addr) (c N : Nat) (w : World) (h : 2147483647 < N) :
    Calls Tryd.prog 5 #[.slice A N c] w fun e w' => e = .returned (.bool true) ∧ Below w.heap.size w w' := by
  have d1 : decide ((2147483647 : Int) < (N : Int)) = true := by simp; omega
  clear h
  go_enter Tryd.func5, Tryd.ntmps5
  go_wp2_with fail
  go_ret
  exact ⟨rfl, Below.refl _ _⟩

set_option maxRecDepth 100000 in
set_option maxHeartbeats 3200000 in
theorem setequal_short (A : Option Addr) (c : Nat) (ss : List Sst) (w : World) (h : Steps w A c ss) (hT : PwTab w) (hl : ss.length ≤ 2147483647) :
    Calls Tryd.prog 5 #[.slice A ss.length c] w fun e w' => e = .returned (.bool true) ∧ Below w.heap.size w w' := by
  have d1 : decide ((2147483647 : Int) < (ss.length : Int)) = false := by simp; omega
  have hb0 := bl1 w (.cells #[.int .u8 0, .int .u8 1, .int .u8 2] 5)
  have hh0 := heap_alloc_new w #[.int .u8 0, .int .u8 1, .int .u8 2] 5
  have hops : ∀ j : Nat, j < 3 → (w.alloc (.cells #[.int .u8 0, .int .u8 1, .int .u8 2] 5)).cell? ⟨w.heap.size, j, none⟩ = some (.int .u8 (j : Nat)) := by
    intro j hj
    rw [cell_of_row _ _ j _ _ _ hh0]
    rcases (show j = 0 ∨ j = 1 ∨ j = 2 by omega) with rfl | rfl | rfl <;> rfl
  have HSD := hid (setdone_any A c w.heap.size ss _ (h.keep hb0) hl (hT.keep hb0) (by simp) hops)
  have HAW := hid (fun W (hb : Below w.heap.size w W) => awake_any W (hT.keep hb))
  have HB0 := hid hb0
  have hcap := h.cap
  clear h hT hl hops hh0 hb0
  generalize ss.length = N at *
  go_enter Tryd.func5, Tryd.ntmps5
  go_upto_region 3 with fail
  go_upto_region 4 with (first
    | (go_at_call 12; refine HSD.out.mono ?_; rintro e w1 ⟨⟨TV, F, eq, asked, rfl, heq⟩, hb1⟩; have HEQ := hid heq; have HB1 := hid hb1; have HBLK := hid (heap_alloc_new w1 Tryd.zeroCells41 41); clear heq hb1)
    | (refine wpList_store_row rfl 41 _ _ rfl w1.heap.size (c564 F) rfl rfl 41 Tryd.zeroCells41 HBLK.out (size41c F) (by rw [zero41, c564_size, c564_size]) (c564_one F) ?_))
  have hr2 : R4 ((w1.alloc (.cells Tryd.zeroCells41 41)).setRow w1.heap.size (c564 F)) w1.heap.size F := R4.of_blk (setRow_heap _ _ _ _ _ _ HBLK.out)
  have hb1w : w.heap.size ≤ w1.heap.size := (bl HB0.out HB1.out).size
  have hb2 : Below w.heap.size w ((w1.alloc (.cells Tryd.zeroCells41 41)).setRow w1.heap.size (c564 F)) := below_setRow (bl (bl HB0.out HB1.out) (bl1 w1 _)) hb1w _
  have HR2 := hid hr2
  have HB2 := hid hb2
  clear hr2 hb2 hb1w
  generalize (w1.alloc (.cells Tryd.zeroCells41 41)).setRow w1.heap.size (c564 F) = w2 at *
  generalize w1.heap.size = qb at *
  cases asked
  · go_wp2_with (go_at_call 13; refine (HAW.out _ HB2.out).mono ?_; rintro e w3 ⟨rfl, hb3⟩)
    go_ret
    exact ⟨rfl, bl HB2.out hb3⟩
  · have heq := (HEQ.out rfl).trans (same_runs (F 0) (F 1))
    subst heq
    have HRA := hid (HR2.out.range 0 (by decide) 0 rfl)
    have HRB := hid (HR2.out.range 1 (by decide) 141 rfl)
    have he := eql40 (F 0) (F 1)
    have HS0 := hid (size40c (F 0))
    have HS1 := hid (size40c (F 1))
    generalize c141 (F 0) = xa at *
    generalize c141 (F 1) = xb at *
    generalize sameN (F 0) (F 1) = sb at *
    cases sb
    all_goals
      go_wp2_with (first
        | (refine wpList_load_mid rfl 40 _ rfl qb 0 rfl xa _ HRA.out Tryd.underlying40 rfl HS0.out ?_)
        | (refine wpList_load_mid rfl 40 _ rfl qb 141 rfl xb _ HRB.out Tryd.underlying40 rfl HS1.out ?_)
        | (go_at_call 13; refine (HAW.out _ HB2.out).mono ?_; rintro e w3 ⟨rfl, hb3⟩))
      go_ret
      exact ⟨rfl, bl HB2.out hb3⟩

/-- FnSetEqual at any list of steps -/
theorem setequal_law (A : Option Addr) (c : Nat) (ss : List Sst) (w : World) (h : Steps w A c ss) (hT : PwTab w) :
    Calls Tryd.prog 5 #[.slice A ss.length c] w fun e w' => e = .returned (.bool true) ∧ Below w.heap.size w w' := by
  by_cases hl : 2147483647 < ss.length
  · exact setequal_long A c ss.length w hl
  · exact setequal_short A c ss w h hT (by omega)

end Go.Proofs.YtifoeehfblddcaaDoor
