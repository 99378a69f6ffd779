/- laws.setDone -/
import Derived.Test.YtifoeehfblddcaaDoorSG
import Derived.Test.YtifoeehfblddcaaDoorS8
namespace Go.Proofs.YtifoeehfblddcaaDoor
open Go.RowKit

/-- what setDone hands back -/
def SDone (w : World) (e : Ending) (w' : World) : Prop :=
  (∃ TV F eq asked, e = .returned (.tuple #[TV, .agg (c564 F), .bool eq, .bool asked]) ∧ (asked = true → eq = decide (runsI (F 0) 141 = runsI (F 1) 141))) ∧ Below w.heap.size w w'

theorem range564 {w : World} {b : Nat} {F : FS} (h : R4 w b F) : w.rangeAt b 0 (c564 F).toList := by
  intro j v hv
  rw [Nat.zero_add, cell_of_row _ _ j _ _ _ h.blk]
  simpa using hv
theorem there564 {w : World} {b : Nat} {F : FS} (h : R4 w b F) : w.there b 0 564 := by
  intro j hj
  rw [Nat.zero_add]
  exact ⟨by rw [World.rowIs.cell h hj]; rfl, World.rowIs.frozen h j⟩

theorem results12_of {tmps : Array Value} {w : World} {b : Nat} {F : FS} {TV : Value} {eq asked : Bool} (h0 : tmps.getD 4 undef = TV) (h1 : tmps.getD 5 undef = .pointer (some ⟨b, 0, none⟩)) (h2 : tmps.getD 6 undef = .bool eq) (h3 : tmps.getD 7 undef = .bool asked)
    (h : w.rangeAt b 0 (c564 F).toList) : (results Tryd.f12 tmps).run Tryd.prog w = .ok (.tuple #[TV, .agg (c564 F), .bool eq, .bool asked]) w := by
  have h0' : tmps[4]?.getD undef = TV := by simpa using h0
  have h1' : tmps[5]?.getD undef = .pointer (some ⟨b, 0, none⟩) := by simpa using h1
  have h2' : tmps[6]?.getD undef = .bool eq := by simpa using h2
  have h3' : tmps[7]?.getD undef = .bool asked := by simpa using h3
  have hl := run_loadVar_mid (P := Tryd.prog) w b 0 41 (c564 F).toList _ h Tryd.underlying41 rfl (by rw [Array.length_toList]; exact size41c F)
  simp [results, Tryd.results12, h0', h1', h2', h3', asAddr, hl]

/-- a whole row read at a step of a drawn region's quiet head -/
theorem still_load_row {P : Program} {ops : Array Oper} {rest : List Oper} {o : Oper} {a : Act} {w : World} {Q : Act → Prop} (hgd : o.guard = none) (ty : TypeId) (x : Operand) (ho : o.op = .load ty x)
    (g : Nat) (hx : a.eval x = .pointer (some ⟨g, 0, none⟩)) (t : TypeId) (cs : Array Value) (fr : Nat × Nat) (d : TypeDesc) (hg : w.heap[g]? = some (.cells cs t fr))
    (hu : P.underlying ty = some d) (hd : (match d with | .struct _ | .array _ _ => true | _ => false) = true) (hi : (P.info? ty).map (·.size) = some cs.size)
    (h : wpStill P ops w Q rest (a.put o.dst (.agg cs))) : wpStill P ops w Q (o :: rest) a := by
  have hw : Region.wanted o (yielded ops a.tmps) = true := by simp [Region.wanted, hgd]
  show (if Region.wanted o (yielded ops a.tmps) = true then o.still P a w (wpStill P ops w Q rest) else wpStill P ops w Q rest (a.put o.dst undef))
  rw [if_pos hw]
  have e : (execOp a.eval o).run P w = .ok (.value (.agg cs)) w := by
    unfold execOp
    simp only [ho, hx, Instr.loadAt, Instr.sureAddr, Sem.run_bind, Sem.run_pure, Result.andThen_ok, run_loadVar_row w g t ty cs fr d hg hu hd hi]
  unfold Oper.still
  rw [e, Oper.stillUpon_value]
  exact h

theorem ops_le {ss : List Sst} {F G : FS} (h : stepsF F ss = some G) : ∀ j, j < ss.length → (stAt ss j).op ≤ 2 := by
  intro j hj
  obtain ⟨Gj, hGj⟩ := stepsF_some h j
  obtain ⟨G', hG'⟩ := stepsF_step h hj hGj
  obtain ⟨_, _, hc⟩ := stepF_some hG'
  rcases hc with ⟨e, _⟩ | ⟨e, _⟩ | ⟨e, _⟩ <;> omega

set_option maxRecDepth 100000 in
set_option maxHeartbeats 3200000 in
theorem setdone_any (A : Option Addr) (c go : Nat) (ss : List Sst) (w : World) (h : Steps w A c ss) (hl : ss.length ≤ 2147483647) (hT : PwTab w) (hgo : go < w.heap.size)
    (ho : ∀ j : Nat, j < 3 → w.cell? ⟨go, j, none⟩ = some (.int .u8 (j : Nat))) :
    Calls Tryd.prog 12 #[.slice A ss.length c, .slice (some ⟨go, 0, none⟩) 3 3] w (SDone w) := by
  have hcap := h.cap
  have hb0 := bl1 w (.cells Tryd.zeroCells41 41)
  have hr0 : R4 (w.alloc (.cells Tryd.zeroCells41 41)) w.heap.size F0 := R4.of_blk (by rw [← zero41]; exact heap_alloc_new w Tryd.zeroCells41 41)
  have HSD := hid (setsdo_any A c ss _ (h.keep hb0) hl)
  have HR0 := hid hr0
  have HB0 := hid hb0
  have HST := hid h
  have HT := hid hT
  have HGO := hid hgo
  have HOPS := hid ho
  clear h hT hgo ho hb0 hr0
  go_enter Tryd.func12, Tryd.ntmps12
  go_upto_region 1 with fail
  generalize hw0 : w.alloc (.cells Tryd.zeroCells41 41) = w0 at *
  clear hw0
  generalize hqe : w.heap.size = q at *
  have HQ := hid hqe
  clear hqe
  have hqw := World.rowIs.lt HR0.out
  go_upto_region 2 with (first
    | (go_at_call 27; refine HSD.out.mono ?_; rintro e w1 ⟨⟨F, ok, rfl, hyes, hno⟩, hb1⟩; have HYES := hid hyes; have HNO := hid hno; have HB1 := hid hb1; have hr1 := HR0.out.keep hb1; have HR1 := hid hr1; have HBLK := hid hr1.blk; clear hyes hno hb1 hr1)
    | (refine wpList_store_row rfl 41 _ _ rfl q (c564 F) rfl rfl 41 (c564 F0) HBLK.out (size41c F) (by rw [c564_size, c564_size]) (c564_one F) ?_))
  have hr2 : R4 (w1.setRow q (c564 F)) q F := HR1.out.row
  have hb2 : Below q w (w1.setRow q (c564 F)) := below_setRow (HB0.out.trans (HB1.out.mono (Nat.le_of_lt hqw))) (Nat.le_refl _) _
  generalize w1.setRow q (c564 F) = w2 at *
  have HB2 := hid hb2
  have HR2 := hid hr2
  have HBLK2 := hid hr2.blk
  clear hr2 hb2
  cases ok
  · go_wp2_with fail
    refine wp_region_still_tail 2 (by kernel_rfl) (by kernel_rfl) ?_
    simp only [List.take_succ_cons, List.take_zero, List.drop_succ_cons, List.drop_zero]
    refine still_load_row rfl 41 _ rfl q rfl 41 (c564 F) (0, 0) _ HBLK2.out Tryd.underlying41 rfl (size41c F) ?_
    still_step
    refine wpStill_nil ?_
    change wpList _ _ _ _ _ w2.drew
    refine wpList_store_row rfl 41 _ _ rfl q (c564 F) rfl rfl 41 (c564 F) HBLK2.out (size41c F) rfl (c564_one F) ?_
    go_wp2_with fail
    exact bodyPost_ret (results12_of rfl rfl rfl rfl (range564 (R4.row (w := w2.drew) HR2.out))) rfl ⟨⟨_, F, false, false, rfl, (fun h => by cases h)⟩, by rw [HQ.out]; exact below_setRow HB2.out.drew (Nat.le_refl _) _⟩
  · by_cases hbig : 60 < ss.length
    · have hbig' : (60 : Int) < (ss.length : Int) := by omega
      generalize ss.length = N at *
      go_wp2_with fail
      refine wp_region_still_tail 2 (by kernel_rfl) (by kernel_rfl) ?_
      simp only [List.take_succ_cons, List.take_zero, List.drop_succ_cons, List.drop_zero]
      refine still_load_row rfl 41 _ rfl q rfl 41 (c564 F) (0, 0) _ HBLK2.out Tryd.underlying41 rfl (size41c F) ?_
      still_step
      refine wpStill_nil ?_
      change wpList _ _ _ _ _ w2.drew
      refine wpList_store_row rfl 41 _ _ rfl q (c564 F) rfl rfl 41 (c564 F) HBLK2.out (size41c F) rfl (c564_one F) ?_
      go_wp2_with fail
      exact bodyPost_ret (results12_of rfl rfl rfl rfl (range564 (R4.row (w := w2.drew) HR2.out))) rfl ⟨⟨_, F, false, false, rfl, (fun h => by cases h)⟩, by rw [HQ.out]; exact below_setRow HB2.out.drew (Nat.le_refl _) _⟩
    · obtain ⟨G, hG⟩ : ∃ G, stepsF F0 ss = some G := by
        cases hs : stepsF F0 ss with
        | none => exact absurd (HNO.out hs) (by simp)
        | some G => exact ⟨G, rfl⟩
      obtain rfl : F = G := (HYES.out G hG).2
      have hb2w : Below w.heap.size w w2 := by rw [HQ.out]; exact HB2.out
      have hst2 := HST.out.keep hb2w
      have hops2 : ∀ j : Nat, j < 3 → w2.cell? ⟨go, j, none⟩ = some (.int .u8 (j : Nat)) := fun j hj => (hb2w.cell (p := ⟨go, j, none⟩) (by rw [HQ.out]; exact HGO.out)).trans (HOPS.out j hj)
      have hgo2 : go < w2.heap.size := Nat.lt_of_lt_of_le (by rw [HQ.out]; exact HGO.out) hb2w.size
      have HONLY := hid (only_any A c go ss w2 hst2 (by omega) (ops_le hG) hgo2 hops2)
      have HTO := hid (fun W (hb : Below w2.heap.size w2 W) => setto_any A c ss W (hst2.keep hb) (by omega))
      have HASK := hid setask_any
      have HSETS := hid (fun B cb Z cz W (h1 : Steps W B cb ss) (h2 : Ints W Z cz (askL 145)) (h3 : PwTab W) => sets_any B Z cb cz ss (askL 145) F W h1 h2 hG (by omega) (by simp [askL]) h3)
      have hlen145 : (askL 145).length = 145 := askL_len 145
      rw [hlen145] at HSETS
      have HT2 := hid (HT.out.keep hb2w)
      have HB2q : q ≤ w2.heap.size := by have := hb2w.size; rw [HQ.out] at this; exact this
      have hbig' : (ss.length : Int) ≤ 60 := by omega
      generalize ss.length = N at *
      clear hst2 hops2 hgo2 hG hb2w hlen145
      go_wp2_with (first
        | (go_at_call 28; refine HONLY.out.mono ?_; rintro e w3 ⟨rfl, hb3⟩; have HB3 := hid hb3; clear hb3)
        | (go_at_call 30; refine (HTO.out _ HB3.out).mono ?_; rintro e w4 ⟨⟨B4, cb4, rfl, hs4⟩, hb4⟩; have HS4 := hid hs4; have HB4 := hid hb4; clear hs4 hb4)
        | (go_at_call 31; refine (HASK.out _).mono ?_; rintro e w5 ⟨⟨B5, cb5, rfl, hs5⟩, hb5⟩; have HS5 := hid hs5; have HB5 := hid hb5; clear hs5 hb5)
        | (go_at_call 29; refine (HSETS.out _ _ _ _ _ (HS4.out.keep HB5.out) HS5.out (((HT2.out.keep HB3.out).keep HB4.out).keep HB5.out)).mono ?_; rintro e w6 ⟨⟨TV, T, H0, rfl, oT, _, _, oH⟩, hb6⟩; have HB6 := hid hb6; clear hb6 oH oT))
      have hbb := bl (bl (bl HB3.out HB4.out) HB5.out) HB6.out
      have HR6 := hid (HR2.out.keep hbb)
      have HBLK6 := hid (HR2.out.keep hbb).blk
      have HB7 := hid (HB2.out.trans (hbb.mono HB2q))
      clear hbb
      generalize heq : decide (runsI (F 0) 141 = runsI (F 1) 141) = eq at *
      have HEQ := hid heq.symm
      clear heq
      refine wp_region_any (by kernel_rfl) ?_
      change wpAny _ _ _ _ _ _ _ w6.drew
      refine wpAny_take (i := 0) (v := TV) rfl (by kernel_rfl) (by kernel_rfl) (by kernel_rfl) (fun _ _ _ h => h) (Or.inl ⟨rfl, fun _ => rfl⟩) ?_
      refine wpAny_take (i := 2) (v := .bool eq) rfl (by kernel_rfl) (by kernel_rfl) (by kernel_rfl) (fun _ _ _ h => h) (Or.inl ⟨rfl, fun _ => rfl⟩) ?_
      refine wpAny_take (i := 3) (v := TV) rfl (by kernel_rfl) (by kernel_rfl) (by kernel_rfl) (fun _ _ _ h => h) (Or.inl ⟨rfl, fun _ => rfl⟩) ?_
      refine wpAny_ready (rs := [1]) (by kernel_rfl) (by simp) ?_
      refine AllReady.cons rfl (fun K hK => ?_) AllReady.nil
      rw [if_pos (by rfl)]
      refine wp_load_row 41 _ rfl q rfl 41 (c564 F) (0, 0) _ HBLK6.out Tryd.underlying41 rfl (size41c F) ?_
      refine hK _ _ ?_
      clear hK K
      refine wpAny_ready (rs := [4]) (by kernel_rfl) (by simp) ?_
      refine AllReady.cons rfl (fun K hK => ?_) AllReady.nil
      rw [if_pos (by rfl)]
      refine wp_store_row 41 _ _ rfl q (c564 F) rfl rfl 41 (c564 F) HBLK6.out (size41c F) rfl (c564_one F) ?_
      refine hK _ _ ?_
      clear hK K
      refine wpAny_take (i := 5) (v := .bool eq) rfl (by kernel_rfl) (by kernel_rfl) (by kernel_rfl) (fun _ _ _ h => h) (Or.inl ⟨rfl, fun _ => rfl⟩) ?_
      refine wpAny_take (i := 6) (v := .bool true) rfl (by kernel_rfl) (by kernel_rfl) (by kernel_rfl) (fun _ _ _ h => h) (Or.inl ⟨rfl, fun _ => rfl⟩) ?_
      refine wpAny_done (by kernel_rfl) ?_ _
      go_wp2_with fail
      refine bodyPost_ret (v := .tuple #[TV, .agg (c564 F), .bool eq, .bool true]) ?_ ?_ ?_
      · refine results12_of ?_ ?_ ?_ ?_ (range564 (R4.row (w := w6.drew) HR6.out))
        · simp [Act.put]
        · simp [Act.put]
        · simp [Act.put]
        · simp [Act.put]
      · simp [Act.put]
      · exact ⟨⟨TV, F, eq, true, rfl, (fun _ => HEQ.out)⟩, by rw [HQ.out]; exact below_setRow HB7.out.drew (Nat.le_refl _) _⟩

end Go.Proofs.YtifoeehfblddcaaDoor
