/- spec.Numbers: Has, Runs -/
import Derived.Test.YtifoeehfblddcaaDoorS0
namespace Go.Proofs.YtifoeehfblddcaaDoor
open Go.RowKit

set_option maxHeartbeats 400000 in
/-- Has, at a number that is in bounds -/
theorem has_any (b o i j : Nat) (z : Int) (F : FS) (w : World) (h : R4 w b F) (hi : i < 4) (hj : j < 141) (ho : o = i * 141) (hz : z = (j : Int) - 20) :
    Calls Tryd.prog 65 #[.pointer (some ⟨b, o, none⟩), .int .i64 z] w fun e w' => e = .returned (.bool (F i j)) ∧ w = w' := by
  have hc := h.cell hi hj ho
  have h1 : -20 ≤ z := by omega
  have h2 : z ≤ 120 := by omega
  have h4 : (z + 20).toNat = j := by omega
  have hc2 : w.cell? ⟨b, o + (z + 20).toNat, none⟩ = some (.bool (F i j)) := by rw [h4]; exact hc
  generalize F i j = bv at *
  clear h ho hz h4 hj hc
  go_enter Tryd.func65, Tryd.ntmps65
  go_wp2_with fail
  go_ret
  exact ⟨rfl, rfl⟩

theorem info80 : (Tryd.prog.info? 80).map (fun i => (i.zero, i.size, i.bytes)) = some (some (.agg #[.int .i64 0, .int .i64 0]), 2, 16) := by kernel_rfl

theorem inb_runsk (f : Nat → Bool) (k : Nat) (hk : k ≤ 141) : Inb (runsI f k) := by
  obtain ⟨a, _, c⟩ := runsI_law f k
  exact ⟨a, fun p hp => by have := c p hp; omega⟩
theorem rcells_grow (r : List Iv) (s e : Int) (m : Nat) (hm : r.length = m) : rcells (r ++ [(s, e + 1)]) = (rcells (r ++ [(s, e)])).set (m * 2 + 1) (.int .i64 e) := by
  have h := rcells_len r
  rw [hm] at h
  rw [rcells_append, rcells_append, List.set_append_right _ _ (by omega), h, show m * 2 + 1 - m * 2 = 1 by omega]
  simp [rcells, c2]
theorem rcells_one (z : Int) : rcells [(z, z + 1)] = c2 z z := by simp [rcells]

theorem last_cases (rs : List Iv) : rs = [] ∨ ∃ r s e, rs = r ++ [(s, e)] := by
  rcases List.eq_nil_or_concat rs with h | ⟨r, p, h⟩
  · exact .inl h
  · exact .inr ⟨r, p.1, p.2, by simpa using h⟩

set_option maxRecDepth 100000 in
set_option maxHeartbeats 1600000 in
theorem runs_any (b o i : Nat) (F : FS) (w : World) (h : R4 w b F) (hi : i < 4) (ho : o = i * 141) :
    Calls Tryd.prog 42 #[.pointer (some ⟨b, o, none⟩)] w fun e w' => (∃ v, e = .returned v ∧ w'.ownsRow w.heap.size 80 2 v (runsI (F i) 141).length (rcells (runsI (F i) 141))) ∧ Below w.heap.size w w' := by
  have HH := hid (fun (j : Nat) (hj : j < 141) (z : Int) (hz : z = (j : Int) - 20) W (hb : Below w.heap.size w W) => has_any b o i j z F W (h.keep hb) hi hj ho hz)
  clear h ho
  generalize F i = f at *
  obtain ⟨i0, hi0, hzz⟩ := Option.map_eq_some_iff.1 info80
  simp only [Prod.mk.injEq] at hzz
  obtain ⟨hz0, hz1, hz2⟩ := hzz
  go_enter Tryd.func42, Tryd.ntmps42
  go_wp2_with fail
  go_loopg [3, 4] 141 (fun k s3 s4 wr => ∃ j : Nat, j + k = 141 ∧ (∃ z : Int, z = (j : Int) - 20 ∧ s4 = .int .i64 z) ∧ wr.ownsRow w.heap.size 80 2 s3 (runsI f j).length (rcells (runsI f j)) ∧ Below w.heap.size w wr)
  case atStart => exact ⟨0, by omega, ⟨-20, rfl, rfl⟩, World.ownsRow_nil _ _ _ _, Below.refl _ _⟩
  case round =>
    obtain ⟨j, hj, ⟨z, hz, rfl⟩, hown, hbw⟩ := hrel
    have b1 : -20 ≤ z := by omega
    have b2 : z ≤ 121 := by omega
    by_cases hlt : j < 141
    · have b3 : z ≤ 120 := by omega
      have HC := hid (HH.out j hlt z hz _ hbw)
      have HZ := hid hz
      clear hz
      cases hf : f j
      · rw [hf] at HC
        have e : runsI f (j + 1) = runsI f j := by simp [runsI, hf]
        have HE := hid e
        have HO := hid hown
        have HB := hid hbw
        clear hf e hown hbw
        go_wp2_with (go_at_call 65; refine HC.out.mono ?_; rintro e w' ⟨rfl, rfl⟩)
        go_roundg (gk - 1)
        case measure => omega
        case rel => exact ⟨j + 1, by omega, ⟨z + 1, by have := HZ.out; omega, rfl⟩, by rw [HE.out]; exact HO.out, HB.out⟩
      · rw [hf] at HC
        have e : runsI f (j + 1) = extI (runsI f j) z := by rw [HZ.out]; simp [runsI, hf]
        have hlen := (inb_runsk f j (by omega)).len
        generalize runsI f j = rs at *
        rcases last_cases rs with rfl | ⟨r, s, e2, rfl⟩
        · have e1 : extI [] z = [] ++ [(z, z + 1)] := extI_snoc [] z (by simp)
          rw [e1] at e
          have HE := hid e
          obtain ⟨A, c, rfl⟩ := slice_of hown
          have HO := hid hown
          have HB := hid hbw
          have hs := hbw.size
          clear hf e e1 hown hbw
          go_wp2_with (first
            | (go_at_call 65; refine HC.out.mono ?_; rintro e w' ⟨rfl, rfl⟩)
            | (at_builtin; refine wpList_append_own_at _ rfl _ _ 70 rfl w.heap.size 80 i0 _ 2 16 Tryd.underlying70 hi0 hz0 hz1 hz2 rfl (by decide) _ _ _ rfl (HO.out.alloc _) ⟨wr.heap.size, 0, none⟩ 1 1 (c2 z z) rfl rfl ?c1 ?c2 ?c3 ?c4 ?c5 ?_))
          case c1 => exact World.news_of_block (heap_alloc_new wr #[.int .i64 z, .int .i64 z] 80)
          case c2 => intro u hu; simp [c2] at hu; subst hu; rfl
          case c3 => unfold maxLen; simp
          case c4 => simp
          case c5 => simp; omega
          intro v' w2 hown2 hgrow _ _
          have HB2 := hid ((bl HB.out (bl1 wr _)).grown hgrow (by simp; omega) (fun k e => (HO.out.lt k e).1))
          have HO2 := hid hown2
          clear hown2 hgrow
          go_wp2_with fail
          go_roundg (gk - 1)
          case measure => omega
          case rel => exact ⟨j + 1, by omega, ⟨z + 1, by have := HZ.out; omega, rfl⟩, by rw [HE.out, rcells_append, rcells_one]; simpa using HO2.out, HB2.out⟩
        · have hl : (r ++ [(s, e2)]).length = r.length + 1 := by simp
          rw [hl] at hown hlen
          obtain ⟨g, cap, rfl, hb1, hgl⟩ := hown.form (by omega)
          have hca := (rcells_at (r ++ [(s, e2)]) r.length (by simp)).2
          rw [← hown.cellAt (r.length * 2 + 1) (by omega)] at hca
          have hfr := hown.frozenAt (r.length * 2 + 1)
          have hea : (ivAt (r ++ [(s, e2)]) r.length).2 = e2 := by simp [ivAt]
          rw [hea] at hca
          have HO := hid hown
          have HB := hid hbw
          have hs := hbw.size
          have HL := hid hl
          generalize hm : r.length = m at *
          have HM := hid hm
          by_cases heq : e2 = z
          · subst heq
            have HE := hid (e.trans (extI_grow r s e2))
            have HST := hid (hown.stored (m * 2 + 1) (.int .i64 e2))
            clear hf e hown hbw hea hl hm
            go_wp2_with (go_at_call 65; refine HC.out.mono ?_; rintro e w' ⟨rfl, rfl⟩)
            go_roundg (gk - 1)
            case measure => omega
            case rel => exact ⟨j + 1, by omega, ⟨e2 + 1, by have := HZ.out; omega, rfl⟩, by rw [HE.out, rcells_grow r s e2 m HM.out, show (r ++ [(s, e2 + 1)]).length = m + 1 by rw [← HM.out]; simp]; exact HST.out.1, HB.out.grown HST.out.2 hs (fun k e => (HO.out.lt k e).1)⟩
          · have e1 : extI (r ++ [(s, e2)]) z = (r ++ [(s, e2)]) ++ [(z, z + 1)] := extI_snoc _ z (by simpa using heq)
            rw [e1] at e
            have HE := hid e
            have hne : ((e2 - 1 : Int) == z - 1) = false := beq_false_of_ne (by omega)
            clear hf e e1 hown hbw hea hl hm heq
            go_wp2_with (first
              | (go_at_call 65; refine HC.out.mono ?_; rintro e w' ⟨rfl, rfl⟩)
              | (at_builtin; refine wpList_append_own_at _ rfl _ _ 70 rfl w.heap.size 80 i0 _ 2 16 Tryd.underlying70 hi0 hz0 hz1 hz2 rfl (by decide) _ _ _ rfl (HO.out.alloc _) ⟨wr.heap.size, 0, none⟩ 1 1 (c2 z z) rfl rfl ?c1 ?c2 ?c3 ?c4 ?c5 ?_))
            case c1 => exact World.news_of_block (heap_alloc_new wr #[.int .i64 z, .int .i64 z] 80)
            case c2 => intro u hu; simp [c2] at hu; subst hu; rfl
            case c3 => unfold maxLen; omega
            case c4 => omega
            case c5 => simp; omega
            intro v' w2 hown2 hgrow _ _
            have HB2 := hid ((bl HB.out (bl1 wr _)).grown hgrow (by simp; omega) (fun k e => (HO.out.lt k e).1))
            have HO2 := hid hown2
            clear hown2 hgrow
            go_wp2_with fail
            go_roundg (gk - 1)
            case measure => omega
            case rel => exact ⟨j + 1, by omega, ⟨z + 1, by have := HZ.out; omega, rfl⟩, by rw [HE.out, rcells_append _ [(z, z + 1)], rcells_one, show (r ++ [(s, e2)] ++ [(z, z + 1)]).length = m + 1 + 1 by rw [← HM.out]; simp]; exact HO2.out, HB2.out⟩
    · have hjN : j = 141 := by omega
      subst hjN
      obtain rfl : z = 121 := by omega
      have HO := hid hown
      have HB := hid hbw
      clear hown hbw hz
      go_wp2_with fail
      go_ret
      exact ⟨⟨_, rfl, HO.out⟩, HB.out⟩

end Go.Proofs.YtifoeehfblddcaaDoor
