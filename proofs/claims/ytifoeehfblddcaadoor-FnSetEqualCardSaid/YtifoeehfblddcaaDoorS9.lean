/- interval sets: addInterval on an empty set -/
import Derived.Test.YtifoeehfblddcaaDoorS5
namespace Go.Proofs.YtifoeehfblddcaaDoor
open Go.RowKit

theorem oneCell_c2n (L H : Int) : ∀ u ∈ c2 L H, u.oneCell' = true := by
  intro u hu
  simp only [c2, List.mem_cons, List.not_mem_nil, or_false] at hu
  rcases hu with rfl | rfl <;> rfl

theorem fin_nil {lo : Nat} {w w4 : World} {b : Nat} {v2 : Value} {L H : Int} (h : Iset lo w b (.slice none 0 0) []) (hB : w.grownBy w4 (some b)) (hblk : ∃ u, w4.heap[b]? = some (.cells #[u, .bool false] 120 (0, 0)))
    (ho : w4.ownsRow lo 92 2 v2 1 (c2 L H)) (hat : ∀ g, v2.ownBlock = some g → w.heap.size ≤ g) :
    Iset lo (w4.setCell ⟨b, 0, none⟩ v2) b v2 [(L, H)] ∧ Chg b (.slice none 0 0) v2 w (w4.setCell ⟨b, 0, none⟩ v2) := by
  have hb := h.lt
  obtain ⟨u, hu⟩ := hblk
  have hb2 : v2.ownBlock ≠ some b := fun e => by have := hat b e; omega
  refine ⟨⟨by simpa using heap_set hu 0 v2, h.ble, own_set (by rw [icells_one]; exact ho) _ _ hb2, fun e => by cases e⟩, ⟨hB.os, hB.tape, hB.output, by rw [size_set]; exact hB.size, fun k hk hkb hkv => ?_, fun g hg => .inr (hat g hg)⟩⟩
  rw [heap_other _ _ _ _ hkb]
  exact hB.block k hk (by simpa using hkb)

set_option maxRecDepth 100000 in
set_option maxHeartbeats 3200000 in
theorem addiv_nil {lo : Nat} {w : World} {b : Nat} {v : Value} (h : Iset lo w b v []) (L H : Int) :
    Calls Tryd.prog 81 #[.pointer (some ⟨b, 0, none⟩), .agg #[.int .i64 L, .int .i64 H]] w fun e w' => e = .returned (.tuple #[]) ∧ ∃ v', Iset lo w' b v' [(L, H)] ∧ Chg b v v' w w' := by
  obtain ⟨hc, hf⟩ := h.cell
  have hbl := h.lt
  have hlo := h.ble
  obtain rfl := h.nil rfl
  have HI := hid h
  have hq := eqnil_yes
  obtain ⟨i0, hi0, hz0, hz1, hz2⟩ := info_parts info92
  obtain ⟨w2, hmk, hown, hgr⟩ := run_make_own (P := Tryd.prog) (w.alloc (.cells #[.int .i64 L, .int .i64 H] 92)) w.heap.size 89 92 i0 _ 2 Tryd.underlying89 hi0 hz0 hz1 .i64 .i64 0 (by rw [hz2]; omega) (by unfold maxLen; omega) (by simp)
  have hmk2 : (Instr.makeSlice 89 (.int .i64 0) (.int .i64 0)).run Tryd.prog (w.alloc (.cells #[.int .i64 L, .int .i64 H] 92)) = _ := hmk
  have hb1 := bl1 w (.cells #[.int .i64 L, .int .i64 H] 92)
  have hb2 : Below (w.alloc (.cells #[.int .i64 L, .int .i64 H] 92)).heap.size (w.alloc (.cells #[.int .i64 L, .int .i64 H] 92)) w2 := ⟨hgr.os, hgr.tape, hgr.output, hgr.size, fun i hi => hgr.block i hi (by simp)⟩
  obtain ⟨x0, x1⟩ := pair_new w L H 92
  have hwq : w.heap.size < (w.alloc (.cells #[.int .i64 L, .int .i64 H] 92)).heap.size := by simp
  have y0 := (hb2.cell (p := ⟨w.heap.size, 0, none⟩) hwq).trans x0
  have y1 := (hb2.cell (p := ⟨w.heap.size, 1, none⟩) hwq).trans x1
  have hc2 := (hb2.cell (p := ⟨b, 0, none⟩) (by simp; omega)).trans ((hb1.cell (p := ⟨b, 0, none⟩) hbl).trans hc)
  have hf2 := (hb2.frozen (p := ⟨b, 0, none⟩) (by simp; omega)).trans ((hb1.frozen (p := ⟨b, 0, none⟩) hbl).trans hf)
  have HB2 := hid (bl hb1 hb2)
  have HOWN := hid hown
  have hsz : (w.alloc (.cells #[.int .i64 L, .int .i64 H] 92)).heap.size = w.heap.size + 1 := by simp
  rw [hsz] at hmk2 HOWN hwq
  clear h hown hgr hb1 hb2 x0 x1 hmk hsz
  go_enter Tryd.func81, Tryd.ntmps81
  go_upto_region 3 with fail
  generalize hgm : w.heap.size + 1 = gm at *
  have hgm2 : gm = w.heap.size + 1 := hgm.symm
  have hb2l : b < w2.heap.size := Nat.lt_of_lt_of_le hbl HB2.out.size
  have hm2 : gm < w2.heap.size := (HOWN.out.lt gm rfl).2
  have hq2 : w.heap.size < w2.heap.size := World.block_lt_of_cell? _ _ y0
  have z0 : (w2.setCell ⟨b, 0, none⟩ (.slice (some ⟨gm, 0, none⟩) 0 0)).cell? ⟨b, 0, none⟩ = some (.slice (some ⟨gm, 0, none⟩) 0 0) := World.cell?_setCell_same _ _ _ hc2
  have z1 := (World.cell?_setCell_other w2 ⟨b, 0, none⟩ ⟨w.heap.size, 0, none⟩ (.slice (some ⟨gm, 0, none⟩) 0 0) (by first | (simp; done) | (simp; omega))).trans y0
  have z2 := (World.cell?_setCell_other w2 ⟨b, 0, none⟩ ⟨w.heap.size, 1, none⟩ (.slice (some ⟨gm, 0, none⟩) 0 0) (by simp)).trans y1
  have z3 : (w2.setCell ⟨b, 0, none⟩ (.slice (some ⟨gm, 0, none⟩) 0 0)).frozen? ⟨b, 0, none⟩ = false := by simp [go_sem, hf2]
  have HO3 := hid (own_set HOWN.out ⟨b, 0, none⟩ (.slice (some ⟨gm, 0, none⟩) 0 0) (by simp [Value.ownBlock]; omega))
  have HG3 := hid (gb_more (gb_below HB2.out (some b)) (gb_set w2 b 0 (.slice (some ⟨gm, 0, none⟩) 0 0)) (fun r hr => .inr hr))
  have HBLK := hid (show ∃ u, (w2.setCell ⟨b, 0, none⟩ (.slice (some ⟨gm, 0, none⟩) 0 0)).heap[b]? = some (.cells #[u, .bool false] 120 (0, 0)) from ⟨_, by simpa using heap_set ((HB2.out.block b hbl).trans HI.out.blk) 0 (.slice (some ⟨gm, 0, none⟩) 0 0)⟩)
  have hs3 := size_set w2 ⟨b, 0, none⟩ (.slice (some ⟨gm, 0, none⟩) 0 0)
  clear hmk2 hgm y0 y1 hc2 hf2
  generalize w2.setCell ⟨b, 0, none⟩ (.slice (some ⟨gm, 0, none⟩) 0 0) = w3 at *
  rw [← hs3] at hb2l hm2 hq2
  have HS3 := hid hs3
  clear hs3
  have n1 := World.new_ne w3 ⟨b, 0, none⟩ z0
  have n2 := World.new_ne w3 ⟨w.heap.size, 0, none⟩ z1
  have n3 := World.new_ne w3 ⟨w.heap.size, 1, none⟩ z2
  generalize hqe : w.heap.size = q at *
  have HQ := hid hqe
  have HGM := hid hgm2
  have hbm : b ≠ gm := by omega
  have hqm : q ≤ gm := by omega
  clear hqe hgm2
  go_region_law ((refine step_append_lies _ (by rfl) _ _ _ (by rfl) q 92 i0 _ 2 16 Tryd.underlying89 hi0 hz0 hz1 hz2 rfl (by omega) (.slice (some ⟨gm, 0, none⟩) 0 0) 0 [] (by rfl) ((HO3.out.alloc _).drew) ⟨w3.heap.size, 0, none⟩ 1 1 (c2 L H) (by rfl) (by rfl) (World.news_of_block (cs := #[.int .i64 L, .int .i64 H]) (t := 92) (fr := (0, 0)) (heap_alloc_new w3 _ _)) (oneCell_c2n L H) (by omega) (by unfold maxLen; omega) (by omega) (by simp; omega) (w3.heap.size + 1) (by simp) ?_; intro g1 cap1 w4 hown4 hgrow4 hat4 hlt4; have hfz4 : w4.frozen? ⟨b, 0, none⟩ = false := (by rw [hgrow4.frozen_far _ (by simp; omega) (by simp [Value.ownBlock]; omega)]; exact ((bl1 w3 _).frozen (p := ⟨b, 0, none⟩) hb2l).trans z3); have hcl4 : w4.cell? ⟨b, 0, none⟩ = some (.slice (some ⟨gm, 0, none⟩) 0 0) := (by rw [hgrow4.cell_far _ (by simp; omega) (by simp [Value.ownBlock]; omega)]; exact ((bl1 w3 _).cell (p := ⟨b, 0, none⟩) hb2l).trans z0)))
  all_goals
    go_wp2_with fail
    go_end0
    have hqlo : lo ≤ q := by omega
    have hq3 : q ≤ w3.heap.size := by omega
    refine ⟨rfl, _, fin_nil HI.out (gb_more (gb_more (gb_more HG3.out (gb_alloc w3 _ none) (by simp)) (gb_drew _ none) (by simp)) hgrow4 (fun r hr => .inl (by cases hr; rw [HQ.out]; exact hqm))) ?_ (own_low hown4 hqlo) ?_⟩
    · obtain ⟨u, hu⟩ := HBLK.out
      exact ⟨u, (hgrow4.block b (by simp; omega) (by simp [Value.ownBlock]; omega)).trans (((bl1 w3 _).block b hb2l).trans hu)⟩
    · intro r hr
      simp only [Value.ownBlock, Option.some.injEq] at hr hat4
      rw [HQ.out]
      omega

end Go.Proofs.YtifoeehfblddcaaDoor
