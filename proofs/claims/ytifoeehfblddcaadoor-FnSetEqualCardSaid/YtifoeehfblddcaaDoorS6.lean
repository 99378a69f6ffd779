/- interval sets: addInterval -/
import Derived.Test.YtifoeehfblddcaaDoorS5
namespace Go.Proofs.YtifoeehfblddcaaDoor
open Go.RowKit

theorem own_takeI {w : World} {base n k cap g : Nat} {ivs : List Iv} (h : w.ownsRow base 92 2 (.slice (some ⟨g, 0, none⟩) n cap) n (icells ivs)) (hk : k ≤ n) :
    w.ownsRow base 92 2 (.slice (some ⟨g, 0, none⟩) k cap) k (icells (ivs.take k)) := by
  rw [← icells_take]
  exact own_take h hk
theorem own_gb {w w' : World} {base : Nat} {e : TypeId} {size n : Nat} {v : Value} {xs : List Value} {r : Nat} (h : w.ownsRow base e size v n xs) (hg : w.grownBy w' (some r)) (hne : v.ownBlock ≠ some r) : w'.ownsRow base e size v n xs := h.kept hg (.inr hne)
theorem icells_c2 (L H : Int) (r : List Iv) : c2 L H ++ icells r = icells ((L, H) :: r) := by simp [icells]
theorem oneCell_c2 (L H : Int) : ∀ u ∈ c2 L H, u.oneCell' = true := by
  intro u hu
  simp only [c2, List.mem_cons, List.not_mem_nil, or_false] at hu
  rcases hu with rfl | rfl <;> rfl

/-- behind the inner append of an insertion -/
theorem ins_mid {lo : Nat} {wa w1 : World} {g c N j : Nat} {ivs : List Iv} {o : Obj} (ho : wa.ownsRow lo 92 2 (.slice (some ⟨g, 0, none⟩) N c) N (icells ivs)) (hj : j ≤ N) (hg : g < wa.heap.size) (hgr : (wa.alloc o).drew.grownBy w1 (some wa.heap.size)) :
    w1.ownsRow lo 92 2 (.slice (some ⟨g, 0, none⟩) j c) j (icells (ivs.take j)) :=
  own_takeI (own_gb ((ho.alloc o).drew) hgr (by simp [Value.ownBlock]; omega)) hj

/-- behind an insertion -/
theorem ins_end {lo : Nat} {w wa w1 w2 : World} {g c N j b g2 cap2 : Nat} {ivs : List Iv} {o : Obj} {L H : Int} (h : Iset lo w b (.slice (some ⟨g, 0, none⟩) N c) ivs) (hN : ivs.length = N) (hB : Below w.heap.size w wa)
    (hg1 : (wa.alloc o).drew.grownBy w1 (some wa.heap.size)) (hg2 : w1.grownBy w2 (some g)) (hat : some g = some g2 ∨ g2 = w1.heap.size) (hj : j < N) (hP : Past ivs L H j) (hs : H < (ivAt ivs j).1)
    (ho : w2.ownsRow lo 92 2 (.slice (some ⟨g2, 0, none⟩) (j + (1 + (N - j))) cap2) (j + (1 + (N - j))) (icells (ivs.take j) ++ (c2 L H ++ icells (ivs.drop j)))) :
    Iset lo (w2.setCell ⟨b, 0, none⟩ (.slice (some ⟨g2, 0, none⟩) (j + (1 + (N - j))) cap2)) b (.slice (some ⟨g2, 0, none⟩) (j + (1 + (N - j))) cap2) (addI ivs L H) ∧
      Chg b (.slice (some ⟨g, 0, none⟩) N c) (.slice (some ⟨g2, 0, none⟩) (j + (1 + (N - j))) cap2) w (w2.setCell ⟨b, 0, none⟩ (.slice (some ⟨g2, 0, none⟩) (j + (1 + (N - j))) cap2)) := by
  rw [icells_c2, ← icells_append, ← addI_ins hP (by omega) hs] at ho
  have e := ho.1
  rw [icells_len] at e
  have hgb : w.grownBy w2 (some g) := gb_more (gb_more (gb_more (gb_more (gb_below hB (some g)) (gb_alloc wa o none) (by simp)) (gb_drew _ none) (by simp)) hg1 (fun r hr => .inl (by cases hr; exact hB.size))) hg2 (fun r hr => .inr hr)
  refine fin_step h hgb ho ?_ (by omega) (fun e2 => by rw [e2] at e; simp at e; omega)
  intro r hr
  simp only [Value.ownBlock, Option.some.injEq] at hr ⊢
  subst hr
  rcases hat with h1 | h1
  · left; simpa using h1
  · right
    have := hg1.size
    have := hB.size
    simp at *
    omega

set_option maxRecDepth 100000 in
set_option maxHeartbeats 3200000 in
theorem addiv_row {lo : Nat} {w : World} {b : Nat} {v : Value} {ivs : List Iv} (h : Iset lo w b v ivs) (hi : Inb ivs) (L H : Int) (h1 : -20 ≤ L) (h2 : L < H) (h3 : H ≤ 121) (ht : touch ivs L H ≤ 1) (hne : ivs ≠ []) (hlw : lo ≤ w.heap.size) :
    Calls Tryd.prog 81 #[.pointer (some ⟨b, 0, none⟩), .agg #[.int .i64 L, .int .i64 H]] w fun e w' => e = .returned (.tuple #[]) ∧ ∃ v', Iset lo w' b v' (addI ivs L H) ∧ Chg b v v' w w' := by
  obtain ⟨hc, hf⟩ := h.cell
  have hlen := hi.len
  have hbl := h.lt
  rcases h.form with ⟨h0, _⟩ | ⟨hp, g, c, rfl, hlg, hg, hgb, hcc, hmc, hcs⟩
  · exact absurd h0 hne
  · have HCS := hid hcs
    have HI := hid h
    have HIN := hid hi
    have HT := hid ht
    have HNE := hid hne
    have hq := fun W => eqnil_no W ⟨g, 0, none⟩ ivs.length c
    clear h hi ht hcs hne
    generalize hN : ivs.length = N at *
    have HN := hid hN
    clear hN
    unfold maxLen at hmc
    obtain ⟨i0, hi0, hz0, hz1, hz2⟩ := info_parts info92
    go_enter Tryd.func81, Tryd.ntmps81
    go_wp2_with fail
    go_loopg [32] N (fun k s32 wr => ∃ j : Nat, j + k = N ∧ s32 = .int .i64 j ∧ Past ivs L H j ∧ Below w.heap.size w wr ∧ wr.cell? ⟨w.heap.size, 0, none⟩ = some (.int .i64 L) ∧ wr.cell? ⟨w.heap.size, 1, none⟩ = some (.int .i64 H))
    case atStart => exact ⟨0, by omega, rfl, by simp [Past], bl1 w _, (pair_new w L H 92).1, (pair_new w L H 92).2⟩
    case round =>
      obtain ⟨j, hj, rfl, hpast, hb, x0, x1⟩ := hrel
      have hcr := (hb.cell (p := ⟨b, 0, none⟩) hbl).trans hc
      have hfr := (hb.frozen (p := ⟨b, 0, none⟩) hbl).trans hf
      have hwr : w.heap.size < wr.heap.size := World.block_lt_of_cell? _ _ x0
      have hbs := hb.size
      by_cases hlt : j < N
      · have hcj := HCS.out j hlt
        have r0 := (hb.cell (p := ⟨g, j * 2, none⟩) hg).trans hcj.1
        have r1 := (hb.cell (p := ⟨g, j * 2 + 1, none⟩) hg).trans hcj.2
        generalize hp : ivAt ivs j = p at *
        obtain ⟨s, e⟩ := p
        simp only at r0 r1
        have HP := hid hpast
        have HPE := hid hp
        have ba := bl1 wr (.cells #[.int .i64 s, .int .i64 e] 92)
        have a0 := (ba.cell (p := ⟨b, 0, none⟩) (Nat.lt_of_lt_of_le hbl hbs)).trans hcr
        have a1 := (ba.frozen (p := ⟨b, 0, none⟩) (Nat.lt_of_lt_of_le hbl hbs)).trans hfr
        have a2 := (ba.cell (p := ⟨w.heap.size, 0, none⟩) hwr).trans x0
        have a3 := (ba.cell (p := ⟨w.heap.size, 1, none⟩) hwr).trans x1
        have a4 := (pair_new wr s e 92).1
        have a5 := (pair_new wr s e 92).2
        have BA := hid (bl hb ba)
        have hws : w.heap.size ≤ (wr.alloc (.cells #[.int .i64 s, .int .i64 e] 92)).heap.size := by simp; omega
        clear hcj hb hpast hp ba x0 x1 hcr hfr
        go_upto_region 7 with fail
        generalize hwa : wr.alloc (.cells #[.int .i64 s, .int .i64 e] 92) = wa at *
        clear hwa
        generalize hqs : wr.heap.size = qs at *
        generalize hqe : w.heap.size = q at *
        have HQ := hid hqe
        clear hqs hqe
        by_cases c1 : H < s
        · have hcj : c ≠ j := by omega
          have d0 : (0 : Int) ≤ (j : Int) := by omega
          have d1 : (j : Int) ≤ (c : Int) := by omega
          have d2 : (j : Int) ≤ (N : Int) := by omega
          have d3 : (N : Int) ≤ (c : Int) := by omega
          have how := own_below HI.out.own (by rw [HQ.out]; exact BA.out)
          rw [HN.out] at how
          have hOW := hid how
          clear how
          have hgw : g < wa.heap.size := by omega
          have HNL := hid (show (icells (ivs.drop j)).length = (N - j) * 2 by rw [icells_len, List.length_drop, HN.out])
          have HM1 := hid (show 1 + (N - j) ≤ maxLen by unfold maxLen; omega)
          have HM2 := hid (show j + (1 + (N - j)) ≤ maxLen by unfold maxLen; omega)
          have HONE := hid (show ∀ u ∈ c2 L H ++ icells (ivs.drop j), u.oneCell' = true from fun u hu => (List.mem_append.1 hu).elim (oneCell_c2 L H u) (oneCell_icells _ u))
          have hbw : b < wa.heap.size := by omega
          have hqw : q < wa.heap.size := World.block_lt_of_cell? _ _ a2
          have n1 := World.new_ne wa ⟨b, 0, none⟩ a0
          have n2 := World.new_ne wa ⟨q, 0, none⟩ a2
          have n3 := World.new_ne wa ⟨q, 1, none⟩ a3
          go_wp2_with fail
          go_region_law (first
              | ((refine step_append_lies _ (by rfl) _ _ _ (by rfl) wa.heap.size 92 i0 _ 2 16 Tryd.underlying89 hi0 hz0 hz1 hz2 rfl (by omega) (.slice (some ⟨wa.heap.size, 0, none⟩) 1 1) 1 (c2 L H) (by rfl)
                    ((World.ownsRow_lit wa #[.int .i64 L, .int .i64 H] 1 (Nat.le_refl _) (by decide) rfl).drew) ⟨g, j * 2, none⟩ (N - j) (c - j) (icells (ivs.drop j)) (by rfl) HNL.out (news_from ((hOW.out.alloc _).drew) HN.out (by omega)) (oneCell_icells _)
                    (by omega) HM1.out (by omega) (by simp) (wa.heap.size + 1) (by simp) ?_); intro g1 cap1 w1 hown1 hgrow1 hat1 hlt1; have hsz1 : wa.heap.size < w1.heap.size := (by have := hgrow1.size; simp at this; omega); have hcb1 : w1.cell? ⟨b, 0, none⟩ = some (.slice (some ⟨g, 0, none⟩) N c) := (by rw [hgrow1.cell_far _ (by simp; omega) (by simp [Value.ownBlock]; omega)]; exact ((bl1 wa _).cell (p := ⟨b, 0, none⟩) hbw).trans a0))
              | ((refine step_append_lies _ (by rfl) _ _ _ (by rfl) lo 92 i0 _ 2 16 Tryd.underlying89 hi0 hz0 hz1 hz2 rfl (by omega) (.slice (some ⟨g, 0, none⟩) j c) j (icells (ivs.take j)) (by rfl)
                    (ins_mid hOW.out (by omega) hgw hgrow1) ⟨g1, 0, none⟩ (1 + (N - j)) cap1 (c2 L H ++ icells (ivs.drop j)) (by rfl) hown1.1 (hown1.cells (g := g1) rfl) HONE.out
                    (by omega) HM2.out (by omega) (by have := hgrow1.size; simp at this; omega) w1.heap.size rfl ?_); intro g2 cap2 w2 hown2 hgrow2 hat2 hlt2; have hfz2 : w2.frozen? ⟨b, 0, none⟩ = false := (by rw [hgrow2.frozen_far _ (by simp; omega) (by simp [Value.ownBlock]; omega), hgrow1.frozen_far _ (by simp; omega) (by simp [Value.ownBlock]; omega)]; exact ((bl1 wa _).frozen (p := ⟨b, 0, none⟩) hbw).trans a1); have hcl2 : w2.cell? ⟨b, 0, none⟩ = some (.slice (some ⟨g, 0, none⟩) N c) := (by rw [hgrow2.cell_far _ (by simp; omega) (by simp [Value.ownBlock]; omega), hgrow1.cell_far _ (by simp; omega) (by simp [Value.ownBlock]; omega)]; exact ((bl1 wa _).cell (p := ⟨b, 0, none⟩) hbw).trans a0)))
          all_goals
            go_wp2_with fail
            exact bodyPost_ret (v := .tuple #[]) (by simp [results, Tryd.results81]) rfl ⟨rfl, _, ins_end HI.out HN.out (by rw [HQ.out]; exact BA.out) hgrow1 hgrow2 hat2 hlt HP.out (by rw [HPE.out]; exact c1) hown2⟩
        · by_cases c2 : H = s
          · subst c2
            have d0 : (0 : Int) ≤ (j : Int) := by omega
            have d2 : (j : Int) < (N : Int) := by omega
            have how := own_below HI.out.own (by rw [HQ.out]; exact BA.out)
            rw [HN.out] at how
            have hOW := hid how
            have hST := hid (how.stored (j * 2) (.int .i64 L))
            have g0 := how.cellAt (j * 2) (by omega)
            have g1 := how.frozenAt (j * 2)
            have hic := (icells_at ivs j (by rw [HN.out]; exact hlt)).1
            rw [hic] at g0
            clear how hic
            go_wp2_with fail
            go_still_tail 9, (by kernel_rfl)
            change wpList _ _ _ _ _ wa.drew
            go_wp2_with fail
            have he := addI_low HP.out (by rw [HN.out]; exact hlt) (show H = (ivAt ivs j).1 by rw [HPE.out])
            have hlen2 : (addI ivs L H).length = N := by rw [he, List.length_set]; exact HN.out
            have hset := icells_set0 ivs j (by rw [HN.out]; exact hlt) L
            rw [← he] at hset
            have hs2 := hST.out
            rw [hset] at hs2
            refine bodyPost_ret (v := .tuple #[]) (by simp [results, Tryd.results81]) rfl ⟨rfl, .slice (some ⟨g, 0, none⟩) N c, fin_row HI.out (gb_more (gb_more (gb_below (by rw [HQ.out]; exact BA.out) (some g)) hs2.2 (fun r hr => .inr hr)) (gb_drew _ none) (by simp)) (by rw [hlen2]; exact hs2.1) (fun e2 => by rw [e2] at hlen2; simp at hlen2; omega)⟩
          · by_cases c3 : L ≤ e
            · have d0 : (0 : Int) ≤ (j : Int) := by omega
              have d2 : (j : Int) < (N : Int) := by omega
              have hne1 : (H == s) = false := beq_false_of_ne c2
              have how := own_below HI.out.own (by rw [HQ.out]; exact BA.out)
              rw [HN.out] at how
              have hic := icells_at ivs j (by rw [HN.out]; exact hlt)
              rw [HPE.out] at hic
              have g0 := (how.cellAt (j * 2) (by omega)).trans hic.1
              have g1 := (how.cellAt (j * 2 + 1) (by omega)).trans hic.2
              have f0 := how.frozenAt (j * 2)
              have f1 := how.frozenAt (j * 2 + 1)
              have hOW := hid how
              have hgw : g < wa.heap.size := by omega
              have hbw : b < wa.heap.size := by omega
              have hqw : q < wa.heap.size := World.block_lt_of_cell? _ _ a2
              have hqsw : qs < wa.heap.size := World.block_lt_of_cell? _ _ a4
              have hgq : g ≠ q := by omega
              have hgqs : g ≠ qs := by omega
              clear how hic
              go_wp2_with fail
              go_region_held3 (fun w' => w'.cell? ⟨b, 0, none⟩ = some (.slice (some ⟨g, 0, none⟩) N c) ∧ w'.cell? ⟨q, 0, none⟩ = some (.int .i64 L) ∧ w'.cell? ⟨q, 1, none⟩ = some (.int .i64 H) ∧ w'.cell? ⟨qs, 0, none⟩ = some (.int .i64 s) ∧ w'.cell? ⟨qs, 1, none⟩ = some (.int .i64 e))
                (first
                  | go_keep
                  | (go_split_ands; refine ⟨?_, ?_, ?_, ?_, ?_⟩ <;> (first | assumption | (rw [hb5.cell (by simp; omega)]; assumption))))
                (first
                  | (go_at_call 90; refine (min_any s L _).mono ?_; rintro e5 w5 ⟨rfl, rfl⟩)
                  | (go_at_call 63; refine (max_any e H _).mono ?_; rintro e5 w5 ⟨rfl, rfl⟩)
                  | (go_at_call 82; refine (newiv_any (min s L) (max e H) _).mono ?_; rintro e5 w5 ⟨rfl, hb5⟩; have g50 := (hb5.cell (p := ⟨g, j * 2, none⟩) hgw).trans g0; have g51 := (hb5.cell (p := ⟨g, j * 2 + 1, none⟩) hgw).trans g1; have f50 := (hb5.frozen (p := ⟨g, j * 2, none⟩) hgw).trans f0; have f51 := (hb5.frozen (p := ⟨g, j * 2 + 1, none⟩) hgw).trans f1))
              have h5 := own_below (w := wa.drew) hOW.out.drew hb5
              have s1 := h5.stored (j * 2) (.int .i64 (min s L))
              have s2 := s1.1.stored (j * 2 + 1) (.int .i64 (max e H))
              have hjl : j < ivs.length := by rw [HN.out]; exact hlt
              have he := addI_meet HP.out hjl (by rw [HPE.out]; show ¬ H < s; omega) (by rw [HPE.out]; show H ≠ s; omega) (by rw [HPE.out]; exact c3)
              rw [HPE.out] at he
              have hset := icells_set2 ivs j hjl (min s L) (max e H)
              rw [← he] at hset
              have hlen2 : (addI ivs L H).length = N := by rw [he, List.length_set]; exact HN.out
              have own6 := s2.1
              rw [hset] at own6
              have hat0 : ivAt (addI ivs L H) j = (min s L, max e H) := by rw [he]; simp [ivAt, hjl]
              have hat1 : j + 1 < N → ivAt (addI ivs L H) (j + 1) = ivAt ivs (j + 1) := fun _ => by rw [he]; simp [ivAt]
              have gb6 : w.grownBy ((w5.setCell ⟨g, j * 2, none⟩ (.int .i64 (min s L))).setCell ⟨g, j * 2 + 1, none⟩ (.int .i64 (max e H))) (some g) :=
                gb_more (gb_more (gb_more (gb_more (gb_below (by rw [HQ.out]; exact BA.out) (some g)) (gb_drew wa none) (by simp)) (gb_below hb5 none) (by simp)) s1.2 (fun r hr => .inr hr)) s2.2 (fun r hr => .inr hr)
              have hc6 : ((w5.setCell ⟨g, j * 2, none⟩ (.int .i64 (min s L))).setCell ⟨g, j * 2 + 1, none⟩ (.int .i64 (max e H))).cell? ⟨b, 0, none⟩ = some (.slice (some ⟨g, 0, none⟩) N c) := by
                rw [World.cell?_setCell_other _ _ _ _ (by simp [hgb]), World.cell?_setCell_other _ _ _ _ (by simp [hgb])]
                exact (hb5.cell (p := ⟨b, 0, none⟩) hbw).trans a0
              have hgap : j + 1 < N → e < (ivAt ivs (j + 1)).1 ∧ (ivAt ivs (j + 1)).1 < (ivAt ivs (j + 1)).2 ∧ H < (ivAt ivs (j + 1)).1 := fun hk => by
                have := gap_next HIN.out.canon HT.out (k := j) (by rw [HN.out]; exact hk) (by rw [HPE.out]; show s ≤ H; omega) (by rw [HPE.out]; exact c3)
                rw [HPE.out] at this
                exact this
              have hic6 := fun k (hk : k < N) => icells_at (addI ivs L H) k (by rw [hlen2]; exact hk)
              have hne6 : addI ivs L H ≠ [] := fun e2 => by rw [e2] at hlen2; simp at hlen2; omega
              have hmx : ∀ x : Int, e < x → H < x → max e H < x := fun x h1 h2 => by omega
              generalize (w5.setCell ⟨g, j * 2, none⟩ (.int .i64 (min s L))).setCell ⟨g, j * 2 + 1, none⟩ (.int .i64 (max e H)) = w6 at *
              generalize min s L = mn at *
              generalize max e H = mx at *
              have hq6 : w.heap.size ≤ w6.heap.size := gb6.size
              have hg6 : g < w6.heap.size := by rw [HQ.out] at hq6; omega
              have hb6 : b < w6.heap.size := World.block_lt_of_cell? _ _ hc6
              have HL2 := hid hlen2
              have HNE6 := hid hne6
              have HG6 := hid gb6
              have HO6 := hid own6
              have i0' := hic6 j hlt
              rw [hat0, ← own6.cellAt _ (by omega), ← own6.cellAt _ (by omega)] at i0'
              obtain ⟨y0, y1⟩ := i0'
              by_cases hk : j + 1 < N
              · have i1' := hic6 (j + 1) hk
                rw [hat1 hk, ← own6.cellAt _ (by omega), ← own6.cellAt _ (by omega)] at i1'
                obtain ⟨z0, z1⟩ := i1'
                obtain ⟨u1, u2, u3⟩ := hgap hk
                generalize ivAt ivs (j + 1) = p at *
                obtain ⟨x, y⟩ := p
                simp only at z0 z1 u1 u2 u3
                have v1 := hmx x u1 u3
                have ba7 := bl1 w6 (.cells #[.int .i64 mn, .int .i64 mx] 92)
                have z0' := (ba7.cell (p := ⟨g, (j + 1) * 2, none⟩) hg6).trans z0
                have z1' := (ba7.cell (p := ⟨g, (j + 1) * 2 + 1, none⟩) hg6).trans z1
                have hc7 := (ba7.cell (p := ⟨b, 0, none⟩) hb6).trans hc6
                obtain ⟨l0, l1⟩ := pair_new w6 mn mx 92
                have HG7 := hid (gb_more HG6.out (gb_below ba7 none) (by simp))
                have HO7 := hid (own_below HO6.out ba7)
                have hkI : (j : Int) < (N : Int) - 1 := by omega
                clear hat0 hat1 hgap hic6 hlen2 hne6 gb6 own6 he hset s1 s2 h5 hmx z0 z1 ba7 u1 u3 hb5 g50 g51 f50 f51
                go_upto_region 15 with fail
                generalize w6.alloc (.cells #[.int .i64 mn, .int .i64 mx] 92) = w7 at *
                generalize w6.heap.size = q7 at *
                have hq7 : q7 < w7.heap.size := World.block_lt_of_cell? _ _ l0
                have ba8 := bl1 w7 (.cells #[.int .i64 x, .int .i64 y] 92)
                have l0' := (ba8.cell (p := ⟨q7, 0, none⟩) hq7).trans l0
                have l1' := (ba8.cell (p := ⟨q7, 1, none⟩) hq7).trans l1
                obtain ⟨r0, r1⟩ := pair_new w7 x y 92
                have HG8 := hid (gb_more HG7.out (gb_below ba8 none) (by simp))
                have HO8 := hid (own_below HO7.out ba8)
                clear ba8
                go_upto_region 16 with fail
                generalize w7.alloc (.cells #[.int .i64 x, .int .i64 y] 92) = w8 at *
                generalize w7.heap.size = q8 at *
                go_wp2_with fail
                exact bodyPost_ret (v := .tuple #[]) (by simp [results, Tryd.results81]) rfl ⟨rfl, .slice (some ⟨g, 0, none⟩) N c, fin_row HI.out HG8.out (by rw [HL2.out]; exact HO8.out) HNE6.out⟩
              · have hkI : (N : Int) - 1 ≤ (j : Int) := by omega
                clear hat0 hat1 hgap hic6 hlen2 hne6 gb6 own6 he hset s1 s2 h5 hmx hb5 g50 g51 f50 f51
                go_wp2_with fail
                exact bodyPost_ret (v := .tuple #[]) (by simp [results, Tryd.results81]) rfl ⟨rfl, .slice (some ⟨g, 0, none⟩) N c, fin_row HI.out HG6.out (by rw [HL2.out]; exact HO6.out) HNE6.out⟩
            · have hp1 : Past ivs L H (j + 1) := past_succ HP.out (by rw [HN.out]; exact hlt) (by rw [HPE.out]; exact c1) (by rw [HPE.out]; exact c2) (by rw [HPE.out]; exact c3)
              have HP1 := hid hp1
              have hne1 : (H == s) = false := beq_false_of_ne c2
              clear hp1
              go_wp2_with fail
              go_roundg (gk - 1)
              case measure => omega
              case rel => exact ⟨j + 1, by omega, by go_num, HP1.out, BA.out, a2, a3⟩
      · have hjN : j = N := by omega
        subst hjN
        generalize hqe : w.heap.size = q at *
        have HQ := hid hqe
        have hpe : addI ivs L H = ivs ++ [(L, H)] := addI_end (by rw [HN.out]; exact hpast)
        have how := own_below HI.out.own (by rw [HQ.out]; exact hb)
        rw [HN.out] at how
        have hOW := hid how
        have HB := hid hb
        have HPEND := hid hpe
        have hgw : g < wr.heap.size := by omega
        have hbw : b < wr.heap.size := by omega
        have n1 := World.new_ne wr ⟨b, 0, none⟩ hcr
        have n2 := World.new_ne wr ⟨q, 0, none⟩ x0
        have n3 := World.new_ne wr ⟨q, 1, none⟩ x1
        have HM1 := hid (show j + 1 ≤ maxLen by unfold maxLen; omega)
        have HFR := hid hfr
        clear how hpast hb hqe hpe
        go_wp2_with fail
        go_region_law ((refine step_append_lies _ (by rfl) _ _ _ (by rfl) lo 92 i0 _ 2 16 Tryd.underlying89 hi0 hz0 hz1 hz2 rfl (by omega) (.slice (some ⟨g, 0, none⟩) j c) j (icells ivs) (by rfl) ((hOW.out.alloc _).drew) ⟨wr.heap.size, 0, none⟩ 1 1 (c2 L H) (by rfl) (by rfl) (World.news_of_block (cs := #[.int .i64 L, .int .i64 H]) (t := 92) (fr := (0, 0)) (heap_alloc_new wr _ _)) (oneCell_c2 L H) (by omega) HM1.out (by omega) (by simp; omega) (wr.heap.size + 1) (by simp) ?_; intro g1 cap1 w1 hown1 hgrow1 hat1 hlt1; have hfz1 : w1.frozen? ⟨b, 0, none⟩ = false := (by rw [hgrow1.frozen_far _ (by simp; omega) (by simp [Value.ownBlock]; omega)]; exact ((bl1 wr _).frozen (p := ⟨b, 0, none⟩) hbw).trans HFR.out); have hcl1 : w1.cell? ⟨b, 0, none⟩ = some (.slice (some ⟨g, 0, none⟩) j c) := (by rw [hgrow1.cell_far _ (by simp; omega) (by simp [Value.ownBlock]; omega)]; exact ((bl1 wr _).cell (p := ⟨b, 0, none⟩) hbw).trans hcr)))
        all_goals
          go_wp2_with fail
          go_end0
          rw [← icells_one, ← icells_append, ← HPEND.out] at hown1
          have hl := hown1.1
          rw [icells_len] at hl
          refine ⟨rfl, _, fin_step HI.out (gb_more (gb_more (gb_more (gb_below (by rw [HQ.out]; exact HB.out) (some g)) (gb_alloc wr _ none) (by simp)) (gb_drew _ none) (by simp)) hgrow1 (fun r hr => .inr hr)) hown1 ?_ (by omega) (fun e2 => by rw [e2] at hl; simp at hl)⟩
          intro r hr
          simp only [Value.ownBlock, Option.some.injEq] at hr hat1 ⊢
          rw [HQ.out]
          omega

end Go.Proofs.YtifoeehfblddcaaDoor
