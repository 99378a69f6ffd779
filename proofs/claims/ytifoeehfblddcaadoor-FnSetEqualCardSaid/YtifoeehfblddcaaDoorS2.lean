/- spec.Numbers: joins, add -/
import Derived.Test.YtifoeehfblddcaaDoorS1
namespace Go.Proofs.YtifoeehfblddcaaDoor
open Go.RowKit

theorem touch_le (rs : List Iv) (L H : Int) : touch rs L H ≤ rs.length := by
  induction rs with
  | nil => exact Nat.le_refl _
  | cons p r ih =>
    obtain ⟨s, e⟩ := p
    simp only [touch, List.length_cons]
    split <;> omega

set_option maxRecDepth 100000 in
set_option maxHeartbeats 1600000 in
theorem joins_any (b o i : Nat) (F : FS) (lo hi : Int) (w : World) (h : R4 w b F) (hi4 : i < 4) (ho : o = i * 141) (h1 : -20 ≤ lo) (h2 : lo ≤ hi) (h3 : hi ≤ 120) :
    Calls Tryd.prog 64 #[.pointer (some ⟨b, o, none⟩), .int .i64 lo, .int .i64 hi] w fun e w' => e = .returned (.bool (joinsB (runsI (F i) 141) lo hi)) ∧ Below w.heap.size w w' := by
  have HR := hid (runs_any b o i F w h hi4 ho)
  have hin := inb_runs (F i)
  clear h ho
  generalize runsI (F i) 141 = rs at *
  have hlen := hin.len
  have HJ := hid (show joinsB rs lo hi = decide (touch (rs.take rs.length) lo (hi + 1) ≤ 1) by rw [List.take_length]; rfl)
  have HT := hid (touch_succ rs)
  have HTL := hid (fun k => touch_le (rs.take k) lo (hi + 1))
  have HIN := hid hin
  have HRA := hid (rcells_at rs)
  generalize joinsB rs lo hi = ans at *
  generalize hN : rs.length = N at *
  have HN := hid hN
  clear hin hN
  go_enter Tryd.func64, Tryd.ntmps64
  go_upto_region 2 with fail
  go_wp2_with (go_at_call 42; refine HR.out.mono ?_; rintro e w1 ⟨⟨v, rfl, hown⟩, hb⟩; obtain ⟨A, c, rfl⟩ := slice_of hown; have HO := hid hown; have HB := hid hb; clear hown hb)
  go_loopg [7, 13] N (fun k s7 s13 wr => ∃ j : Nat, j + k = N ∧ s13 = .int .i64 j ∧ (∃ t : Nat, t = touch (rs.take j) lo (hi + 1) ∧ s7 = .int .i64 t) ∧ Below w1.heap.size w1 wr)
  case atStart => exact ⟨0, by omega, rfl, ⟨0, rfl, rfl⟩, Below.refl _ _⟩
  case round =>
    obtain ⟨j, hj, rfl, ⟨t, ht, rfl⟩, hbw⟩ := hrel
    have htl := HTL.out j
    rw [← ht] at htl
    have htl2 : t ≤ 142 := by have := List.length_take_le j rs; have := HN.out; have := List.length_take_le' j rs; omega
    by_cases hlt : j < N
    · obtain ⟨g, cap, hv, _, hgl⟩ := HO.out.form (by omega)
      simp only [Value.slice.injEq] at hv
      obtain ⟨rfl, _, rfl⟩ := hv
      have hra := HRA.out j hlt
      rw [← HO.out.cellAt (j * 2) (by omega), ← HO.out.cellAt (j * 2 + 1) (by omega)] at hra
      have r0 := (hbw.cell (p := ⟨g, j * 2, none⟩) hgl).trans hra.1
      have r1 := (hbw.cell (p := ⟨g, j * 2 + 1, none⟩) hgl).trans hra.2
      have ht2 := HT.out j hlt lo (hi + 1)
      rw [← ht] at ht2
      obtain ⟨b1, b2, b3⟩ := HIN.out.at_ (k := j) (by rw [HN.out]; exact hlt)
      generalize ivAt rs j = p at *
      obtain ⟨s, e⟩ := p
      simp only at r0 r1 ht2 b1 b2 b3
      have HB1 := hid hbw
      have HT2 := hid ht2
      clear hra ht hbw ht2 htl
      by_cases c1 : s ≤ hi + 1
      · by_cases c2 : lo - 1 ≤ e - 1
        · have HT3 := HT2.out
          rw [if_pos ⟨c1, by omega⟩] at HT3
          have HT4 := hid HT3
          clear HT3
          go_wp2_with fail
          go_roundg (gk - 1)
          case measure => omega
          case rel => exact ⟨j + 1, by omega, by go_num, ⟨t + 1, HT4.out.symm, by go_num⟩, bl HB1.out (bl1 wr _)⟩
        · have HT3 := HT2.out
          rw [if_neg (by omega)] at HT3
          have HT4 := hid HT3
          clear HT3
          go_wp2_with fail
          go_roundg (gk - 1)
          case measure => omega
          case rel => exact ⟨j + 1, by omega, by go_num, ⟨t, HT4.out.symm, rfl⟩, bl HB1.out (bl1 wr _)⟩
      · have HT3 := HT2.out
        rw [if_neg (by omega)] at HT3
        have HT4 := hid HT3
        clear HT3
        go_wp2_with fail
        go_roundg (gk - 1)
        case measure => omega
        case rel => exact ⟨j + 1, by omega, by go_num, ⟨t, HT4.out.symm, rfl⟩, bl HB1.out (bl1 wr _)⟩
    · have hjN : j = N := by omega
      subst hjN
      have he : ans = decide (t ≤ 1) := by rw [HJ.out, ← ht]
      have HE := hid he
      have HB1 := hid hbw
      clear ht htl hbw he
      by_cases c1 : t ≤ 1
      · have HE2 := hid (HE.out.trans (decide_eq_true c1))
        have c2 : (t : Int) ≤ 1 := by omega
        go_wp2_with fail
        go_ret
        exact ⟨ret_bool HE2.out.symm, bl HB.out HB1.out⟩
      · have HE2 := hid (HE.out.trans (decide_eq_false c1))
        have c2 : 1 < (t : Int) := by omega
        go_wp2_with fail
        go_ret
        exact ⟨ret_bool ((decide_eq_false (by omega)).trans HE2.out.symm), bl HB.out HB1.out⟩

theorem R4.congr_ {w : World} {b : Nat} {F G : FS} (h : R4 w b F) (e : ∀ i j, i < 4 → j < 141 → F i j = G i j) : R4 w b G :=
  World.rowIs.congr h (fun c hc => by rw [e _ _ (by omega) (by omega)])

set_option maxRecDepth 100000 in
set_option maxHeartbeats 800000 in
theorem add_no (b o i : Nat) (F : FS) (lo hi : Int) (w : World) (h : R4 w b F) (hi4 : i < 4) (ho : o = i * 141) (hok : fAddOk (F i) lo hi = false) :
    Calls Tryd.prog 41 #[.pointer (some ⟨b, o, none⟩), .int .i64 lo, .int .i64 hi] w fun e w' => e = .returned (.bool false) ∧ Below w.heap.size w w' := by
  have HJ := hid (joins_any b o i F lo hi w h hi4 ho)
  unfold fAddOk at hok
  generalize joinsB (runsI (F i) 141) lo hi = ans at *
  clear h ho
  by_cases h1 : -20 ≤ lo
  · by_cases h2 : hi ≤ 120
    · by_cases h3 : lo ≤ hi
      · have HJ2 := hid (HJ.out h1 h3 h2)
        rw [decide_eq_true h1, decide_eq_true h2, decide_eq_true h3, Bool.true_and, Bool.true_and, Bool.true_and] at hok
        subst hok
        go_enter Tryd.func41, Tryd.ntmps41
        go_wp2_with (go_at_call 64; refine HJ2.out.mono ?_; rintro e w' ⟨rfl, hb⟩)
        go_ret
        exact ⟨rfl, hb⟩
      · clear hok
        have d3 : decide (hi < lo) = true := decide_eq_true (by omega)
        go_enter Tryd.func41, Tryd.ntmps41
        go_wp2_with fail
        go_ret
        exact ⟨rfl, Below.refl _ _⟩
    · clear hok
      have d3 : decide (120 < hi) = true := decide_eq_true (by omega)
      go_enter Tryd.func41, Tryd.ntmps41
      go_wp2_with fail
      go_ret
      exact ⟨rfl, Below.refl _ _⟩
  · clear hok
    have d3 : decide (lo < -20) = true := decide_eq_true (by omega)
    go_enter Tryd.func41, Tryd.ntmps41
    go_wp2_with fail
    go_ret
    exact ⟨rfl, Below.refl _ _⟩

set_option maxRecDepth 100000 in
set_option maxHeartbeats 800000 in
theorem add_yes (b o i : Nat) (F : FS) (lo hi : Int) (w : World) (h : R4 w b F) (hi4 : i < 4) (ho : o = i * 141) (hok : fAddOk (F i) lo hi = true) :
    Calls Tryd.prog 41 #[.pointer (some ⟨b, o, none⟩), .int .i64 lo, .int .i64 hi] w fun e w' => e = .returned (.bool true) ∧ R4 w' b (updF F i (fAdd (F i) lo (hi + 1))) ∧ w.grownBy w' (some b) := by
  unfold fAddOk at hok
  simp only [Bool.and_eq_true, decide_eq_true_eq] at hok
  obtain ⟨⟨⟨h1, h2⟩, h3⟩, h4⟩ := hok
  have HJ := hid (joins_any b o i F lo hi w h hi4 ho h1 h3 h2)
  rw [h4] at HJ
  have HR := hid h
  have HO := hid ho
  clear h h4 ho
  generalize hF : F i = f at *
  have HF := hid hF
  clear hF
  go_enter Tryd.func41, Tryd.ntmps41
  go_wp2_with (go_at_call 64; refine HJ.out.mono ?_; rintro e w1 ⟨rfl, hb⟩; have HB := hid hb; have HR1 := hid (HR.out.keep hb); clear hb)
  go_loopg [7] (hi + 1 - lo).toNat (fun k s7 wr => ∃ n : Int, n + k = hi + 1 ∧ lo ≤ n ∧ s7 = .int .i64 n ∧ R4 wr b (updF F i (fAdd f lo n)) ∧ w1.grownBy wr (some b))
  case atStart => exact ⟨lo, by omega, Int.le_refl _, rfl, HR1.out.congr_ (updF_start F i f lo HF.out), World.grownBy.refl _ _⟩
  case round =>
    obtain ⟨n, hn, hln, rfl, hr, hg⟩ := hrel
    by_cases hlt : n ≤ hi
    · have hc := hr.cell hi4 (j := (n + 20).toNat) (by omega) HO.out
      have hf := World.rowIs.frozen hr (o + (n + 20).toNat)
      have HR2 := hid (hr.set_ (g := fAdd f lo (n + 1)) hi4 (j := (n + 20).toNat) (by omega) HO.out (fun k _ => fAdd_succ f lo n k hln (by omega)))
      have HG := hid (hg.trans (gb_set wr b (o + (n + 20).toNat) (.bool true)))
      clear hr hg
      go_wp2_with fail
      go_roundg (gk - 1)
      case measure => omega
      case rel => exact ⟨n + 1, by omega, by omega, rfl, HR2.out, HG.out⟩
    · obtain rfl : n = hi + 1 := by omega
      have HR2 := hid hr
      have HG := hid ((gb_below HB.out (some b)).trans hg)
      clear hr hg
      go_wp2_with fail
      go_ret
      exact ⟨rfl, HR2.out, HG.out⟩

end Go.Proofs.YtifoeehfblddcaaDoor
