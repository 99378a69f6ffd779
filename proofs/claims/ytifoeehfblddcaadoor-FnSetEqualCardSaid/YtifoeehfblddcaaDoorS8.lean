/- spec.SetsDo -/
import Derived.Test.YtifoeehfblddcaaDoorS7
namespace Go.Proofs.YtifoeehfblddcaaDoor
open Go.RowKit

theorem stepF_bad {F : FS} {s : Sst} (h : s.set < 0 ∨ 3 < s.set ∨ 2 < s.op) : stepF F s = none := by unfold stepF; rw [if_pos h]
theorem stepF_0 {F : FS} {i : Nat} {a b : Int} (hi : i < 4) : stepF F ⟨0, i, a, b⟩ = if fAddOk (F i) a a then some (updF F i (fAdd (F i) a (a + 1))) else none := by
  unfold stepF; rw [if_neg (by simp; omega)]; rfl
theorem stepF_1 {F : FS} {i : Nat} {a b : Int} (hi : i < 4) : stepF F ⟨1, i, a, b⟩ = if fAddOk (F i) a b then some (updF F i (fAdd (F i) a (b + 1))) else none := by
  unfold stepF; rw [if_neg (by simp; omega)]; rfl
theorem stepF_2n {F : FS} {i : Nat} {a b : Int} (hi : i < 4) (h : a < 0 ∨ 3 < a ∨ a = i) : stepF F ⟨2, i, a, b⟩ = none := by
  unfold stepF; rw [if_neg (by simp; omega), if_neg (by simp), if_neg (by simp), if_pos h]
theorem stepF_2y {F : FS} {i m : Nat} {b : Int} (hi : i < 4) (hm : m < 4) (h : m ≠ i) : stepF F ⟨2, i, m, b⟩ = (addRuns (F i) (runsI (F m) 141)).map (updF F i) := by
  unfold stepF; rw [if_neg (by simp; omega), if_neg (by simp), if_neg (by simp), if_neg (by simp; omega)]; rfl

theorem updF_same (F : FS) (i : Nat) (f : Nat → Bool) : (updF F i f) i = f := by simp [updF]
theorem updF_twice (F : FS) (i : Nat) (f g : Nat → Bool) : updF (updF F i f) i g = updF F i g := by
  funext k
  unfold updF
  by_cases e : k = i
  · rw [if_pos e, if_pos e]
  · rw [if_neg e, if_neg e, if_neg e]
theorem updF_self (F : FS) (i : Nat) : updF F i (F i) = F := by
  funext k
  unfold updF
  by_cases e : k = i
  · rw [if_pos e, e]
  · rw [if_neg e]

theorem add_no2 (b o i : Nat) (F : FS) (f : Nat → Bool) (lo hi : Int) (w : World) (h : R4 w b (updF F i f)) (hi4 : i < 4) (ho : o = i * 141) (hok : fAddOk f lo hi = false) :
    Calls Tryd.prog 41 #[.pointer (some ⟨b, o, none⟩), .int .i64 lo, .int .i64 hi] w fun e w' => e = .returned (.bool false) ∧ Below w.heap.size w w' :=
  add_no b o i (updF F i f) lo hi w h hi4 ho (by rw [updF_same]; exact hok)
theorem add_yes2 (b o i : Nat) (F : FS) (f : Nat → Bool) (lo hi : Int) (w : World) (h : R4 w b (updF F i f)) (hi4 : i < 4) (ho : o = i * 141) (hok : fAddOk f lo hi = true) :
    Calls Tryd.prog 41 #[.pointer (some ⟨b, o, none⟩), .int .i64 lo, .int .i64 hi] w fun e w' => e = .returned (.bool true) ∧ R4 w' b (updF F i (fAdd f lo (hi + 1))) ∧ w.grownBy w' (some b) :=
  (add_yes b o i (updF F i f) lo hi w h hi4 ho (by rw [updF_same]; exact hok)).mono fun e w' ⟨h1, h2, h3⟩ => ⟨h1, by rw [updF_same, updF_twice] at h2; exact h2, h3⟩

/-- what is told in the end -/
def SD (ss : List Sst) (w : World) (e : Ending) (w' : World) : Prop :=
  (∃ F ok, e = .returned (.tuple #[.agg (c564 F), .bool ok]) ∧ (∀ G, stepsF F0 ss = some G → ok = true ∧ F = G) ∧ (stepsF F0 ss = none → ok = false)) ∧ Below w.heap.size w w'

theorem sd_no {ss : List Sst} {w w' : World} {F : FS} (hn : stepsF F0 ss = none) (hb : Below w.heap.size w w') : SD ss w (.returned (.tuple #[.agg (c564 F), .bool false])) w' :=
  ⟨⟨F, false, rfl, (fun G h => by rw [hn] at h; cases h), fun _ => rfl⟩, hb⟩
theorem sd_yes {ss : List Sst} {w w' : World} {F : FS} (hn : stepsF F0 ss = some F) (hb : Below w.heap.size w w') : SD ss w (.returned (.tuple #[.agg (c564 F), .bool true])) w' :=
  ⟨⟨F, true, rfl, (fun G h => ⟨rfl, Option.some.inj (hn.symm.trans h)⟩), (fun h => by rw [hn] at h; cases h)⟩, hb⟩

theorem zero41 : Tryd.zeroCells41 = c564 F0 := by kernel_rfl

set_option maxRecDepth 100000 in
set_option maxHeartbeats 3200000 in
theorem setsdo_any (A : Option Addr) (c : Nat) (ss : List Sst) (w : World) (h : Steps w A c ss) (hl : ss.length ≤ 2147483647) :
    Calls Tryd.prog 27 #[.slice A ss.length c] w (SD ss w) := by
  have HST := hid h
  have hcap := h.cap
  clear h
  have HSS := hid (fun (G : FS) (k : Nat) (h : stepsF F0 (ss.take k) = some G) (hk : k < ss.length) => stepsF_succ h hk)
  have HSN := hid (fun (G : FS) (k : Nat) (h : stepsF F0 (ss.take k) = some G) (hk : k < ss.length) hn => stepsF_none h hk hn)
  have HEND := hid (show ss.take ss.length = ss from List.take_length)
  generalize hN : ss.length = N at *
  have HN := hid hN
  clear hN
  go_enter Tryd.func27, Tryd.ntmps27
  go_upto_region 1 with fail
  have hr0 : R4 (w.alloc (.cells Tryd.zeroCells41 41)) w.heap.size F0 := R4.of_blk (by rw [← zero41]; exact heap_alloc_new w Tryd.zeroCells41 41)
  have hB0 := bl1 w (.cells Tryd.zeroCells41 41)
  generalize w.alloc (.cells Tryd.zeroCells41 41) = w0 at *
  have HR0 := hid hr0
  have HB0 := hid hB0
  clear hr0 hB0
  go_wp2_with fail
  generalize hqe : w.heap.size = q at *
  have HQ := hid hqe
  clear hqe
  go_loopg [11] N (fun k s11 wr => ∃ j : Nat, j + k = N ∧ s11 = .int .i64 j ∧ ∃ F, stepsF F0 (ss.take j) = some F ∧ R4 wr q F ∧ Below q w wr)
  case atStart => exact ⟨0, by omega, rfl, F0, rfl, HR0.out, HB0.out⟩
  case round =>
    obtain ⟨j, hj, rfl, F, hF, hr, hb⟩ := hrel
    by_cases hlt : j < N
    · obtain ⟨g, o, rfl, hg, hcs⟩ := HST.out.row (by rw [HN.out]; omega)
      obtain ⟨k0, k1, k2, k3⟩ := hcs j (by rw [HN.out]; exact hlt)
      rw [HQ.out] at hg
      have r0 := (hb.cell (p := ⟨g, o + j * 4, none⟩) hg).trans k0
      have r1 := (hb.cell (p := ⟨g, o + j * 4 + 1, none⟩) hg).trans k1
      have r2 := (hb.cell (p := ⟨g, o + j * 4 + 2, none⟩) hg).trans k2
      have r3 := (hb.cell (p := ⟨g, o + j * 4 + 3, none⟩) hg).trans k3
      have hss := HSS.out F j hF hlt
      have hsn := HSN.out F j hF hlt
      generalize stAt ss j = st at *
      obtain ⟨op, set, a, b⟩ := st
      simp only at r0 r1 r2 r3
      have hbs := hb.size
      have ba := bl1 wr (.cells #[.int .u8 (op : Nat), .int .i64 set, .int .i64 a, .int .i64 b] 76)
      obtain ⟨q0, q1, q2, q3⟩ := four_new wr (.int .u8 (op : Nat)) (.int .i64 set) (.int .i64 a) (.int .i64 b) 76
      have HR := hid (hr.keep ba)
      have HB := hid (hb.trans (ba.mono (by rw [HQ.out] at hbs; exact hbs)))
      have HSS1 := hid hss
      have HSN1 := hid hsn
      clear hcs k0 k1 k2 k3 hss hsn hF hr hb ba
      go_upto_region 4 with fail
      generalize wr.alloc (.cells #[.int .u8 (op : Nat), .int .i64 set, .int .i64 a, .int .i64 b] 76) = wa at *
      generalize wr.heap.size = qs at *
      clear r0 r1 r2 r3
      by_cases c1 : set < 0
      · have HE := hid (HSN1.out (stepF_bad (.inl c1)))
        have HBLK := hid HR.out.blk
        go_wp2_with (first
          | (refine wpList_load_row rfl 41 _ rfl q rfl 41 (c564 F) (0, 0) _ HBLK.out Tryd.underlying41 rfl (size41c F) ?_)
          | (refine wpList_store_row rfl 41 _ _ rfl q (c564 F) rfl rfl 41 (c564 F) HBLK.out (size41c F) rfl (c564_one F) ?_))
        exact bodyPost_ret (results27_of rfl rfl HR.out.row) rfl (sd_no HE.out (by rw [HQ.out]; exact below_setRow HB.out (Nat.le_refl _) _))
      · by_cases c2 : 3 < set
        · have HE := hid (HSN1.out (stepF_bad (.inr (.inl c2))))
          have HBLK := hid HR.out.blk
          go_wp2_with (first
            | (refine wpList_load_row rfl 41 _ rfl q rfl 41 (c564 F) (0, 0) _ HBLK.out Tryd.underlying41 rfl (size41c F) ?_)
            | (refine wpList_store_row rfl 41 _ _ rfl q (c564 F) rfl rfl 41 (c564 F) HBLK.out (size41c F) rfl (c564_one F) ?_))
          exact bodyPost_ret (results27_of rfl rfl HR.out.row) rfl (sd_no HE.out (by rw [HQ.out]; exact below_setRow HB.out (Nat.le_refl _) _))
        · by_cases c3 : 2 < op
          · have HE := hid (HSN1.out (stepF_bad (.inr (.inr c3))))
            have c3' : (2 : Int) < (op : Int) := by omega
            have HBLK := hid HR.out.blk
            go_wp2_with (first
              | (refine wpList_load_row rfl 41 _ rfl q rfl 41 (c564 F) (0, 0) _ HBLK.out Tryd.underlying41 rfl (size41c F) ?_)
              | (refine wpList_store_row rfl 41 _ _ rfl q (c564 F) rfl rfl 41 (c564 F) HBLK.out (size41c F) rfl (c564_one F) ?_))
            exact bodyPost_ret (results27_of rfl rfl HR.out.row) rfl (sd_no HE.out (by rw [HQ.out]; exact below_setRow HB.out (Nat.le_refl _) _))
          · obtain ⟨i, rfl⟩ : ∃ i : Nat, set = i := ⟨set.toNat, by omega⟩
            have hi4 : i < 4 := by omega
            have hqs : q < wa.heap.size := World.rowIs.lt HR.out
            rcases (show op = 0 ∨ op = 1 ∨ op = 2 by omega) with rfl | rfl | rfl
            · rw [stepF_0 hi4] at HSS1 HSN1
              have q0' : wa.cell? ⟨qs, 0, none⟩ = some (.int .u8 0) := q0
              clear q0 c3
              cases hok : fAddOk (F i) a a
              · rw [hok] at HSN1
                have HE := hid (HSN1.out (if_neg Bool.false_ne_true))
                have HOK := hid hok
                clear hok
                go_wp2_with (first
                  | (go_at_call 41; refine (add_no q _ i F a a _ HR.out hi4 (by omega) HOK.out).mono ?_; rintro e w2 ⟨rfl, hb2⟩; have HR2 := hid (HR.out.keep hb2); have HB2 := hid (HB.out.trans (hb2.mono (Nat.le_of_lt hqs))); have HBLK := hid HR2.out.blk; clear hb2)
                  | (refine wpList_load_row rfl 41 _ rfl q rfl 41 (c564 F) (0, 0) _ HBLK.out Tryd.underlying41 rfl (size41c F) ?_)
                  | (refine wpList_store_row rfl 41 _ _ rfl q (c564 F) rfl rfl 41 (c564 F) HBLK.out (size41c F) rfl (c564_one F) ?_))
                exact bodyPost_ret (results27_of rfl rfl HR2.out.row) rfl (sd_no HE.out (by rw [HQ.out]; exact below_setRow HB2.out (Nat.le_refl _) _))
              · rw [hok] at HSS1
                have HOK := hid hok
                clear hok
                go_wp2_with (go_at_call 41; refine (add_yes q _ i F a a _ HR.out hi4 (by omega) HOK.out).mono ?_; rintro e w2 ⟨rfl, hr2, hg2⟩; have HR2 := hid hr2; have HB2 := hid (HB.out.grown hg2 (Nat.le_of_lt hqs) (fun k e => by cases e; exact Nat.le_refl _)); clear hr2 hg2)
                go_roundg (gk - 1)
                case measure => omega
                case rel => exact ⟨j + 1, by omega, by go_num, _, HSS1.out, HR2.out, HB2.out⟩
            · rw [stepF_1 hi4] at HSS1 HSN1
              have q0' : wa.cell? ⟨qs, 0, none⟩ = some (.int .u8 1) := q0
              clear q0 c3
              cases hok : fAddOk (F i) a b
              · rw [hok] at HSN1
                have HE := hid (HSN1.out (if_neg Bool.false_ne_true))
                have HOK := hid hok
                clear hok
                go_wp2_with (first
                  | (go_at_call 41; refine (add_no q _ i F a b _ HR.out hi4 (by omega) HOK.out).mono ?_; rintro e w2 ⟨rfl, hb2⟩; have HR2 := hid (HR.out.keep hb2); have HB2 := hid (HB.out.trans (hb2.mono (Nat.le_of_lt hqs))); have HBLK := hid HR2.out.blk; clear hb2)
                  | (refine wpList_load_row rfl 41 _ rfl q rfl 41 (c564 F) (0, 0) _ HBLK.out Tryd.underlying41 rfl (size41c F) ?_)
                  | (refine wpList_store_row rfl 41 _ _ rfl q (c564 F) rfl rfl 41 (c564 F) HBLK.out (size41c F) rfl (c564_one F) ?_))
                exact bodyPost_ret (results27_of rfl rfl HR2.out.row) rfl (sd_no HE.out (by rw [HQ.out]; exact below_setRow HB2.out (Nat.le_refl _) _))
              · rw [hok] at HSS1
                have HOK := hid hok
                clear hok
                go_wp2_with (go_at_call 41; refine (add_yes q _ i F a b _ HR.out hi4 (by omega) HOK.out).mono ?_; rintro e w2 ⟨rfl, hr2, hg2⟩; have HR2 := hid hr2; have HB2 := hid (HB.out.grown hg2 (Nat.le_of_lt hqs) (fun k e => by cases e; exact Nat.le_refl _)); clear hr2 hg2)
                go_roundg (gk - 1)
                case measure => omega
                case rel => exact ⟨j + 1, by omega, by go_num, _, HSS1.out, HR2.out, HB2.out⟩
            · have q0' : wa.cell? ⟨qs, 0, none⟩ = some (.int .u8 2) := q0
              clear q0 c3
              by_cases c4 : a < 0
              · have HE := hid (HSN1.out (stepF_2n hi4 (.inl c4)))
                have HBLK := hid HR.out.blk
                go_wp2_with (first
                  | (refine wpList_load_row rfl 41 _ rfl q rfl 41 (c564 F) (0, 0) _ HBLK.out Tryd.underlying41 rfl (size41c F) ?_)
                  | (refine wpList_store_row rfl 41 _ _ rfl q (c564 F) rfl rfl 41 (c564 F) HBLK.out (size41c F) rfl (c564_one F) ?_))
                exact bodyPost_ret (results27_of rfl rfl HR.out.row) rfl (sd_no HE.out (by rw [HQ.out]; exact below_setRow HB.out (Nat.le_refl _) _))
              · by_cases c5 : 3 < a
                · have HE := hid (HSN1.out (stepF_2n hi4 (.inr (.inl c5))))
                  have HBLK := hid HR.out.blk
                  go_wp2_with (first
                    | (refine wpList_load_row rfl 41 _ rfl q rfl 41 (c564 F) (0, 0) _ HBLK.out Tryd.underlying41 rfl (size41c F) ?_)
                    | (refine wpList_store_row rfl 41 _ _ rfl q (c564 F) rfl rfl 41 (c564 F) HBLK.out (size41c F) rfl (c564_one F) ?_))
                  exact bodyPost_ret (results27_of rfl rfl HR.out.row) rfl (sd_no HE.out (by rw [HQ.out]; exact below_setRow HB.out (Nat.le_refl _) _))
                · obtain ⟨m, rfl⟩ : ∃ m : Nat, a = m := ⟨a.toNat, by omega⟩
                  have hm4 : m < 4 := by omega
                  by_cases c6 : m = i
                  · subst c6
                    have HE := hid (HSN1.out (stepF_2n hi4 (.inr (.inr rfl))))
                    have HBLK := hid HR.out.blk
                    go_wp2_with (first
                      | (refine wpList_load_row rfl 41 _ rfl q rfl 41 (c564 F) (0, 0) _ HBLK.out Tryd.underlying41 rfl (size41c F) ?_)
                      | (refine wpList_store_row rfl 41 _ _ rfl q (c564 F) rfl rfl 41 (c564 F) HBLK.out (size41c F) rfl (c564_one F) ?_))
                    exact bodyPost_ret (results27_of rfl rfl HR.out.row) rfl (sd_no HE.out (by rw [HQ.out]; exact below_setRow HB.out (Nat.le_refl _) _))
                  · have hmi : ((m : Int) == (i : Int)) = false := beq_false_of_ne (by omega)
                    rw [stepF_2y hi4 hm4 c6] at HSS1 HSN1
                    have HRS := hid (fun o (ho : o = m * 141) => runs_any q o m F wa HR.out hm4 ho)
                    have hin := inb_runs (F m)
                    generalize runsI (F m) 141 = rs at *
                    have hlen := hin.len
                    have HIN := hid hin
                    have HRA := hid (rcells_at rs)
                    have HAS := hid (fun (g : Nat → Bool) (k : Nat) (h : addRuns (F i) (rs.take k) = some g) (hk : k < rs.length) => addRuns_succ h hk)
                    have HAN := hid (fun (g : Nat → Bool) (k : Nat) (h : addRuns (F i) (rs.take k) = some g) (hk : k < rs.length) hn => addRuns_none h hk hn)
                    have HTL := hid (show rs.take rs.length = rs from List.take_length)
                    generalize hM : rs.length = M at *
                    have HM := hid hM
                    clear hin hM c6
                    go_upto_region 11 with (go_at_call 42; refine (HRS.out _ (by omega)).mono ?_; rintro e w3 ⟨⟨v, rfl, hown⟩, hb3⟩; obtain ⟨A3, c3, rfl⟩ := slice_of hown; have HO := hid hown; have hsz3 := hb3.size; have HB3 := hid (HB.out.trans (hb3.mono (Nat.le_of_lt hqs))); have HR3 := hid (HR.out.keep hb3); clear hown hb3)
                    go_loopg [55] M (fun k2 s55 wx => ∃ j2 : Nat, j2 + k2 = M ∧ s55 = .int .i64 j2 ∧ ∃ f, addRuns (F i) (rs.take j2) = some f ∧ R4 wx q (updF F i f) ∧ w3.grownBy wx (some q))
                    case atStart => exact ⟨0, by omega, rfl, F i, rfl, by rw [updF_self]; exact HR3.out, World.grownBy.refl _ _⟩
                    case round =>
                      obtain ⟨j2, hj2, rfl, f, hf, hr, hg3⟩ := hrel
                      by_cases hlt2 : j2 < M
                      · obtain ⟨g3, cap3, hv, hg3l, hg3h⟩ := HO.out.form (by omega)
                        simp only [Value.slice.injEq] at hv
                        obtain ⟨rfl, _, rfl⟩ := hv
                        have hra := HRA.out j2 hlt2
                        rw [← HO.out.cellAt (j2 * 2) (by omega), ← HO.out.cellAt (j2 * 2 + 1) (by omega)] at hra
                        have hne3 : some g3 ≠ some q := by simp; omega
                        have p0 := (hg3.cell_far ⟨g3, j2 * 2, none⟩ hg3h hne3).trans hra.1
                        have p1 := (hg3.cell_far ⟨g3, j2 * 2 + 1, none⟩ hg3h hne3).trans hra.2
                        have hin := HIN.out.at_ (k := j2) (by rw [HM.out]; exact hlt2)
                        have has := HAS.out f j2 hf hlt2
                        have han := HAN.out f j2 hf hlt2
                        generalize ivAt rs j2 = p at *
                        obtain ⟨x, y⟩ := p
                        simp only at p0 p1 hin has han
                        obtain ⟨b1, b2, b3⟩ := hin
                        have ba2 := bl1 wr (.cells #[.int .i64 x, .int .i64 (y - 1)] 80)
                        have HR5 := hid (hr.keep ba2)
                        have HG5 := hid (gb_more hg3 (gb_alloc wr (.cells #[.int .i64 x, .int .i64 (y - 1)] 80) none) (by simp))
                        obtain ⟨t0, t1⟩ := pair_new wr x (y - 1) 80
                        have HAS1 := hid has
                        have HAN1 := hid han
                        clear hra hf hr hg3 has han ba2
                        go_upto_region 13 with fail
                        generalize wr.alloc (.cells #[.int .i64 x, .int .i64 (y - 1)] 80) = wy at *
                        generalize wr.heap.size = qy at *
                        cases hok : fAddOk f x (y - 1)
                        · have HE := hid (HSN1.out (by rw [HAN1.out hok]; rfl))
                          have HOK := hid hok
                          clear hok
                          go_wp2_with (first
                            | (go_at_call 41; refine (add_no2 q _ i F f x (y - 1) _ HR5.out hi4 (by omega) HOK.out).mono ?_; rintro e w5 ⟨rfl, hb5⟩; have HR6 := hid (HR5.out.keep hb5); have HB6 := hid ((HB3.out.grown HG5.out (Nat.le_trans (Nat.le_of_lt hqs) hsz3) (fun k e => by cases e; exact Nat.le_refl _)).trans (hb5.mono (Nat.le_trans (Nat.le_trans (Nat.le_of_lt hqs) hsz3) HG5.out.size))); have HBLK := hid HR6.out.blk; clear hb5)
                            | (refine wpList_load_row rfl 41 _ rfl q rfl 41 (c564 (updF F i f)) (0, 0) _ HBLK.out Tryd.underlying41 rfl (size41c _) ?_)
                            | (refine wpList_store_row rfl 41 _ _ rfl q (c564 (updF F i f)) rfl rfl 41 (c564 (updF F i f)) HBLK.out (size41c _) rfl (c564_one _) ?_))
                          exact bodyPost_ret (results27_of rfl rfl HR6.out.row) rfl (sd_no HE.out (by rw [HQ.out]; exact below_setRow HB6.out (Nat.le_refl _) _))
                        · have HAS2 := hid (HAS1.out.trans (if_pos hok))
                          have HOK := hid hok
                          clear hok
                          go_wp2_with (go_at_call 41; refine (add_yes2 q _ i F f x (y - 1) _ HR5.out hi4 (by omega) HOK.out).mono ?_; rintro e w5 ⟨rfl, hr5, hg5⟩; have HR6 := hid hr5; have HG6 := hid (HG5.out.trans hg5); clear hr5 hg5)
                          go_roundg (gk - 1)
                          case measure => omega
                          case rel => exact ⟨j2 + 1, by omega, by go_num, _, HAS2.out, HR6.out, HG6.out⟩
                      · have hjM : j2 = M := by omega
                        subst hjM
                        rw [HTL.out] at hf
                        have HF2 := hid (HSS1.out.trans (by rw [hf]))
                        have HR6 := hid hr
                        have HB6 := hid (HB3.out.grown hg3 (Nat.le_trans (Nat.le_of_lt hqs) hsz3) (fun k e => by cases e; exact Nat.le_refl _))
                        clear hf hr hg3
                        go_wp2_with fail
                        go_roundg (N - j - 1)
                        case measure => omega
                        case rel => exact ⟨j + 1, by omega, by go_num, _, HF2.out, HR6.out, HB6.out⟩
    · have hjN : j = N := by omega
      subst hjN
      rw [HEND.out] at hF
      have HF := hid hF
      have HR := hid hr
      have HB := hid hb
      have HBLK := hid hr.blk
      clear hF hr hb
      go_wp2_with (first
        | (refine wpList_load_row rfl 41 _ rfl q rfl 41 (c564 F) (0, 0) _ HBLK.out Tryd.underlying41 rfl (size41c F) ?_)
        | (refine wpList_store_row rfl 41 _ _ rfl q (c564 F) rfl rfl 41 (c564 F) HBLK.out (size41c F) rfl (c564_one F) ?_))
      exact bodyPost_ret (results27_of rfl rfl HR.out.row) rfl (sd_yes HF.out (by rw [HQ.out]; exact below_setRow HB.out (Nat.le_refl _) _))

end Go.Proofs.YtifoeehfblddcaaDoor
