/- interval sets: length, contains, Equals -/
import Derived.Test.YtifoeehfblddcaaDoorS3
namespace Go.Proofs.YtifoeehfblddcaaDoor
open Go.RowKit

set_option maxRecDepth 100000 in
set_option maxHeartbeats 800000 in
theorem length_any {lo : Nat} {w : World} {b : Nat} {v : Value} {ivs : List Iv} (h : Iset lo w b v ivs) (hi : Inb ivs) :
    Calls Tryd.prog 71 #[.pointer (some ⟨b, 0, none⟩)] w fun e w' => e = .returned (.int .i64 (lenI ivs)) ∧ Below w.heap.size w w' := by
  have hc := h.cell.1
  have hl := hi.len
  rcases h.form with ⟨rfl, rfl⟩ | ⟨hp, g, c, rfl, _, hgl, _, hcap, hmx, hcs⟩
  · clear h hi
    go_enter Tryd.func71, Tryd.ntmps71
    go_wp2_with fail
    go_loopg [3, 11] 0 (fun k s3 s11 wr => k = 0 ∧ s3 = .int .i64 0 ∧ s11 = .int .i64 0 ∧ wr = w)
    case atStart => exact ⟨rfl, rfl, rfl, rfl⟩
    case round =>
      obtain ⟨_, rfl, rfl, rfl⟩ := hrel
      go_wp2_with fail
      go_ret
      exact ⟨rfl, Below.refl _ _⟩
  · have HCS := hid hcs
    have HIN := hid hi
    have HS := hid (lenI_succ ivs)
    have HL := hid (lenI_le hi)
    have hlt : lenI (ivs.take ivs.length) = lenI ivs := by rw [List.take_length]
    have HLT := hid hlt
    clear h hcs hi hlt
    generalize hN : ivs.length = N at *
    have HN := hid hN
    clear hN
    unfold maxLen at hmx
    go_enter Tryd.func71, Tryd.ntmps71
    go_wp2_with fail
    go_loopg [3, 11] N (fun k s3 s11 wr => ∃ j : Nat, j + k = N ∧ s11 = .int .i64 j ∧ (∃ z : Int, z = lenI (ivs.take j) ∧ s3 = .int .i64 z) ∧ Below w.heap.size w wr)
    case atStart => exact ⟨0, by omega, rfl, ⟨0, rfl, rfl⟩, Below.refl _ _⟩
    case round =>
      obtain ⟨j, hj, rfl, ⟨z, hz, rfl⟩, hb⟩ := hrel
      by_cases hlt : j < N
      · have hcj := HCS.out j hlt
        have r0 := (hb.cell (p := ⟨g, j * 2, none⟩) hgl).trans hcj.1
        have r1 := (hb.cell (p := ⟨g, j * 2 + 1, none⟩) hgl).trans hcj.2
        have hs := HS.out j hlt
        have hzl := HL.out j (by omega)
        rw [← hz] at hs hzl
        obtain ⟨b1, b2, b3⟩ := HIN.out.at_ (k := j) (by rw [HN.out]; exact hlt)
        generalize ivAt ivs j = p at *
        obtain ⟨s, e⟩ := p
        simp only at r0 r1 hs b1 b2 b3
        have HB := hid hb
        have HS1 := hid hs
        have HC := hid (fun W => ivlen_any s e W (by omega) (by omega) (by omega) (by omega))
        clear hcj hz hs hb
        go_wp2_with (go_at_call 84; refine (HC.out _).mono ?_; rintro e w2 ⟨rfl, hb2⟩; have HB2 := hid hb2; clear hb2)
        go_roundg (gk - 1)
        case measure => omega
        case rel => exact ⟨j + 1, by omega, by go_num, ⟨_, HS1.out.symm, rfl⟩, bl (bl HB.out (bl1 wr _)) HB2.out⟩
      · have hjN : j = N := by omega
        subst hjN
        have HZ := hid (hz.trans HLT.out)
        have HB := hid hb
        clear hz hb
        go_wp2_with fail
        go_ret
        exact ⟨ret_i64 HZ.out, HB.out⟩

set_option maxRecDepth 100000 in
set_option maxHeartbeats 800000 in
theorem contains_any {lo : Nat} {w : World} {b : Nat} {v : Value} {ivs : List Iv} (h : Iset lo w b v ivs) (hi : Inb ivs) (n : Int) :
    Calls Tryd.prog 74 #[.pointer (some ⟨b, 0, none⟩), .int .i64 n] w fun e w' => e = .returned (.bool (hasI ivs n)) ∧ Below w.heap.size w w' := by
  have hc := h.cell.1
  have hl := hi.len
  have hbl := h.lt
  rcases h.form with ⟨rfl, rfl⟩ | ⟨hp, g, c, rfl, _, hgl, _, hcap, hmx, hcs⟩
  · clear h hi
    have q := eqnil_yes
    go_enter Tryd.func74, Tryd.ntmps74
    go_wp2_with fail
    go_ret
    exact ⟨rfl, Below.refl _ _⟩
  · have HCS := hid hcs
    have HS := hid (hasI_succ ivs)
    have HY := hid (fun (k : Nat) (h : k < ivs.length) h1 h2 => hasI_yes ivs k h n h1 h2)
    have hlt : hasI (ivs.take ivs.length) n = hasI ivs n := by rw [List.take_length]
    have HLT := hid hlt
    clear h hcs hi hlt
    generalize hasI ivs n = ans at *
    generalize hN : ivs.length = N at *
    have HN := hid hN
    clear hN
    unfold maxLen at hmx
    have q := fun W => eqnil_no W ⟨g, 0, none⟩ N c
    go_enter Tryd.func74, Tryd.ntmps74
    go_wp2_with fail
    go_loopg [5] N (fun k s5 wr => ∃ j : Nat, j + k = N ∧ s5 = .int .i64 j ∧ hasI (ivs.take j) n = false ∧ Below w.heap.size w wr)
    case atStart => exact ⟨0, by omega, rfl, rfl, Below.refl _ _⟩
    case round =>
      obtain ⟨j, hj, rfl, hz, hb⟩ := hrel
      have hcr := (hb.cell (p := ⟨b, 0, none⟩) hbl).trans hc
      by_cases hlt : j < N
      · have hcj := HCS.out j hlt
        have r0 := (hb.cell (p := ⟨g, j * 2, none⟩) hgl).trans hcj.1
        have r1 := (hb.cell (p := ⟨g, j * 2 + 1, none⟩) hgl).trans hcj.2
        have hs := HS.out j hlt n
        have hy := HY.out j hlt
        rw [hz, Bool.false_or] at hs
        generalize ivAt ivs j = p at *
        obtain ⟨s, e⟩ := p
        simp only at r0 r1 hs hy
        have HB := hid hb
        have HC := hid (fun W => ivhas_any s e n W)
        clear hcj hz hb
        cases hd : (decide (s ≤ n) && decide (n < e))
        · rw [hd] at HC hs
          have HS1 := hid hs
          clear hd hs hy
          go_wp2_with (go_at_call 86; refine (HC.out _).mono ?_; rintro e w2 ⟨rfl, hb2⟩; have HB2 := hid hb2; clear hb2)
          go_roundg (gk - 1)
          case measure => omega
          case rel => exact ⟨j + 1, by omega, by go_num, HS1.out, bl HB.out HB2.out⟩
        · rw [hd] at HC
          simp only [Bool.and_eq_true, decide_eq_true_eq] at hd
          have HA := hid (hy hd.1 hd.2)
          clear hd hs hy
          go_wp2_with (go_at_call 86; refine (HC.out _).mono ?_; rintro e w2 ⟨rfl, hb2⟩; have HB2 := hid hb2; clear hb2)
          go_ret
          exact ⟨ret_bool HA.out.symm, bl HB.out HB2.out⟩
      · have hjN : j = N := by omega
        subst hjN
        have HZ := hid (hz.symm.trans HLT.out)
        have HB := hid hb
        clear hz hb
        go_wp2_with fail
        go_ret
        exact ⟨ret_bool HZ.out, HB.out⟩

set_option maxRecDepth 100000 in
set_option maxHeartbeats 800000 in
theorem equals_len {w : World} {b1 b2 n1 n2 c1 c2 : Nat} {A1 A2 : Option Addr} (h1 : w.cell? ⟨b1, 0, none⟩ = some (.slice A1 n1 c1)) (h2 : w.cell? ⟨b2, 0, none⟩ = some (.slice A2 n2 c2)) (hne : n1 ≠ n2) :
    Calls Tryd.prog 76 #[.pointer (some ⟨b1, 0, none⟩), .pointer (some ⟨b2, 0, none⟩)] w fun e w' => e = .returned (.bool false) ∧ Below w.heap.size w w' := by
  have hn : ((n1 : Int) == (n2 : Int)) = false := beq_false_of_ne (by omega)
  go_enter Tryd.func76, Tryd.ntmps76
  go_wp2_with fail
  go_quiet (fail)
  go_wp2_with fail
  go_ret
  exact ⟨rfl, bdn (Below.refl _ _) _⟩

set_option maxRecDepth 100000 in
set_option maxHeartbeats 800000 in
theorem equals_same {lo1 lo2 : Nat} {w : World} {b1 b2 : Nat} {v1 v2 : Value} {xs ys : List Iv} (h1 : Iset lo1 w b1 v1 xs) (h2 : Iset lo2 w b2 v2 ys) (hi : Inb xs) (hl : xs.length = ys.length) :
    Calls Tryd.prog 76 #[.pointer (some ⟨b1, 0, none⟩), .pointer (some ⟨b2, 0, none⟩)] w fun e w' => e = .returned (.bool (decide (xs = ys))) ∧ Below w.heap.size w w' := by
  have k1 := h1.cell.1
  have k2 := h2.cell.1
  have hlen := hi.len
  have hb2 := h2.lt
  rcases h1.form with ⟨rfl, rfl⟩ | ⟨hp, g1, c1, rfl, _, hg1, _, hc1, hm1, hcs1⟩
  · obtain rfl : ys = [] := List.eq_nil_of_length_eq_zero hl.symm
    obtain rfl := h2.nil rfl
    clear h1 h2 hi hl
    go_enter Tryd.func76, Tryd.ntmps76
    go_wp2_with fail
    go_quiet (fail)
    go_wp2_with fail
    go_loopg [23] 0 (fun k s23 wr => k = 0 ∧ s23 = .int .i64 0 ∧ Below w.heap.size w wr)
    case atStart => exact ⟨rfl, rfl, bdn (Below.refl _ _) _⟩
    case round =>
      obtain ⟨_, rfl, hb⟩ := hrel
      have HB := hid hb
      clear hb
      go_wp2_with fail
      go_ret
      exact ⟨rfl, HB.out⟩
  · rcases h2.form with ⟨rfl, rfl⟩ | ⟨hp2, g2, c2, rfl, _, hg2, _, hc2, hm2, hcs2⟩
    · simp at hl; subst hl; simp at hp
    · have HC1 := hid hcs1
      have HC2 := hid hcs2
      have HT := hid (eq_take_succ xs ys)
      have HL := hid (show xs.take xs.length = xs ∧ ys.take ys.length = ys from ⟨List.take_length, List.take_length⟩)
      clear h1 h2 hcs1 hcs2 hi
      unfold maxLen at hm1 hm2
      rw [← hl] at *
      generalize hN : xs.length = N at *
      have HN := hid hN
      clear hN hl
      go_enter Tryd.func76, Tryd.ntmps76
      go_wp2_with fail
      go_quiet (fail)
      go_wp2_with fail
      go_loopg [23] N (fun k s23 wr => ∃ j : Nat, j + k = N ∧ s23 = .int .i64 j ∧ xs.take j = ys.take j ∧ Below w.heap.size w wr)
      case atStart => exact ⟨0, by omega, rfl, rfl, bdn (Below.refl _ _) _⟩
      case round =>
        obtain ⟨j, hj, rfl, heq, hb⟩ := hrel
        have kr := (hb.cell (p := ⟨b2, 0, none⟩) hb2).trans k2
        by_cases hlt : j < N
        · have h1 := HC1.out j hlt
          have h2 := HC2.out j hlt
          have r0 := (hb.cell (p := ⟨g1, j * 2, none⟩) hg1).trans h1.1
          have r1 := (hb.cell (p := ⟨g1, j * 2 + 1, none⟩) hg1).trans h1.2
          have s0 := (hb.cell (p := ⟨g2, j * 2, none⟩) hg2).trans h2.1
          have s1 := (hb.cell (p := ⟨g2, j * 2 + 1, none⟩) hg2).trans h2.2
          have ht := HT.out j hlt hlt
          have hno : ivAt xs j ≠ ivAt ys j → decide (xs = ys) = false := fun h => decide_eq_false (fun e => h (by rw [e]))
          have hj0 : (0 : Int) ≤ (j : Int) := by omega
          have hjN : (j : Int) < (N : Int) := by omega
          generalize ivAt xs j = p at *
          generalize ivAt ys j = q at *
          obtain ⟨x1, y1⟩ := p
          obtain ⟨x2, y2⟩ := q
          simp only at r0 r1 s0 s1
          have HB := hid hb
          have HX := hid ht
          have HNO := hid hno
          have HEQ := hid heq
          have hw := hb.size
          clear h1 h2 hb ht hno heq
          by_cases e1 : x1 = x2
          · by_cases e2 : y1 = y2
            · subst e1 e2
              have ba := bl1 wr (.cells #[.int .i64 x1, .int .i64 y1] 92)
              have a0 := (ba.cell (p := ⟨b2, 0, none⟩) (Nat.lt_of_lt_of_le hb2 hw)).trans kr
              have a1 := (ba.cell (p := ⟨g2, j * 2, none⟩) (Nat.lt_of_lt_of_le hg2 hw)).trans s0
              have a2 := (ba.cell (p := ⟨g2, j * 2 + 1, none⟩) (Nat.lt_of_lt_of_le hg2 hw)).trans s1
              have a3 := (pair_new wr x1 y1 92).1
              have a4 := (pair_new wr x1 y1 92).2
              have BA := hid ba
              clear ba
              go_wp2_with fail
              generalize wr.alloc (.cells #[.int .i64 x1, .int .i64 y1] 92) = wa at *
              go_quiet (fail)
              go_wp2_with fail
              go_roundg (gk - 1)
              case measure => omega
              case rel => exact ⟨j + 1, by omega, by go_num, HX.out.2 ⟨HEQ.out, trivial⟩, bdn (bl HB.out BA.out) _⟩
            · subst e1
              have hn : (y1 == y2) = false := beq_false_of_ne e2
              have hn2 : (y1 != y2) = true := by simp [hn, bne]
              have HA := hid (HNO.out (fun e => e2 (by injection e)))
              clear e2
              have ba := bl1 wr (.cells #[.int .i64 x1, .int .i64 y1] 92)
              have a0 := (ba.cell (p := ⟨b2, 0, none⟩) (Nat.lt_of_lt_of_le hb2 hw)).trans kr
              have a1 := (ba.cell (p := ⟨g2, j * 2, none⟩) (Nat.lt_of_lt_of_le hg2 hw)).trans s0
              have a2 := (ba.cell (p := ⟨g2, j * 2 + 1, none⟩) (Nat.lt_of_lt_of_le hg2 hw)).trans s1
              have a3 := (pair_new wr x1 y1 92).1
              have a4 := (pair_new wr x1 y1 92).2
              have BA := hid ba
              clear ba
              go_wp2_with fail
              generalize wr.alloc (.cells #[.int .i64 x1, .int .i64 y1] 92) = wa at *
              go_quiet (fail)
              go_wp2_with fail
              go_ret
              exact ⟨ret_bool HA.out.symm, bdn (bl HB.out BA.out) _⟩
          · have hn : (x1 == x2) = false := beq_false_of_ne e1
            have hn2 : (x1 != x2) = true := by simp [hn, bne]
            have HA := hid (HNO.out (fun e => e1 (by injection e)))
            clear e1
            have ba := bl1 wr (.cells #[.int .i64 x1, .int .i64 y1] 92)
            have a0 := (ba.cell (p := ⟨b2, 0, none⟩) (Nat.lt_of_lt_of_le hb2 hw)).trans kr
            have a1 := (ba.cell (p := ⟨g2, j * 2, none⟩) (Nat.lt_of_lt_of_le hg2 hw)).trans s0
            have a2 := (ba.cell (p := ⟨g2, j * 2 + 1, none⟩) (Nat.lt_of_lt_of_le hg2 hw)).trans s1
            have a3 := (pair_new wr x1 y1 92).1
            have a4 := (pair_new wr x1 y1 92).2
            have BA := hid ba
            clear ba
            go_wp2_with fail
            generalize wr.alloc (.cells #[.int .i64 x1, .int .i64 y1] 92) = wa at *
            go_quiet (fail)
            go_wp2_with fail
            go_ret
            exact ⟨ret_bool HA.out.symm, bdn (bl HB.out BA.out) _⟩
        · have hjN : j = N := by omega
          subst hjN
          have he : decide (xs = ys) = true := by
            exact decide_eq_true (HL.out.1.symm.trans (heq.trans HL.out.2))
          have HE := hid he
          have HB := hid hb
          clear heq hb he
          go_wp2_with fail
          go_ret
          exact ⟨ret_bool HE.out.symm, HB.out⟩

end Go.Proofs.YtifoeehfblddcaaDoor
