/- the bit set: its least number; equal -/
import Derived.Test.YtifoeehfblddcaaDoorD
import Derived.Test.YtifoeehfblddcaaDoorVT
import Derived.LaidEqlPtr
namespace Go.Proofs.YtifoeehfblddcaaDoor
open Go.RowKit

/-- the library's table, as its initialiser lays it -/
def TzTab (w : World) : Prop := TabAt 0 Lib.deBruijn64tab w

theorem tz_any (x : Nat) (hx : x < 18446744073709551616) (w : World) (hT : TzTab w) :
    Calls Tryd.prog 59 #[.int .u64 x] w fun e w' => e = .returned (.int .i64 ((Lib.ctz 64 x : Nat) : Int)) ∧ w = w' :=
  (Any7.bits_TrailingZeros64 Tryd.laysTz x hx w (fun _ => hT)).mono fun _ _ ⟨a, b⟩ => ⟨a, b.symm⟩

theorem ctz_lt (x : Nat) (h0 : x ≠ 0) (hx : x < 18446744073709551616) : Lib.ctz 64 x < 64 := (Lib.lowest_bit 64 x h0 hx).2

/-- the least number of a set of words -/
def minV (ws : List Nat) : Nat → Nat → Nat
  | 0, _ => 2147483647
  | k + 1, i => if ws.getD i 0 = 0 then minV ws k (i + 1) else i * 64 + Lib.ctz 64 (ws.getD i 0)

set_option maxHeartbeats 400000 in
theorem minvalue_any {lo hi : Nat} {w : World} {b : Nat} {ws : List Nat} (h : Bset lo hi w b ws) (hT : TzTab w) :
    Calls Tryd.prog 37 #[.pointer (some ⟨b, 0, none⟩)] w fun e w' => e = .returned (.int .i64 ((minV ws ws.length 0 : Nat) : Int)) ∧ w = w' := by
  obtain ⟨A, d, c, hc, hcl, hc4, hA, hcells⟩ := h.read
  have hwd := h.wd
  have hlen := h.len
  generalize hN : ws.length = N at *
  have HC := hid hcells
  have HW := hid hwd
  have HT := hid hT
  clear hN hcells hwd h hT
  go_enter Tryd.func37, Tryd.ntmps37
  go_wp2_with fail
  go_loopg [10] N (fun k i wr => ∃ j : Nat, j + k = N ∧ i = .int .i64 j ∧ minV ws k j = minV ws N 0 ∧ w = wr)
  case atStart => exact ⟨0, by omega, rfl, rfl, rfl⟩
  case round =>
    obtain ⟨j, hj, rfl, hm, rfl⟩ := hrel
    by_cases hlt : j < N
    · obtain rfl := hA (by omega)
      obtain ⟨m, rfl⟩ : ∃ m, gk = m + 1 := ⟨gk - 1, by omega⟩
      have r0 := HC.out j hlt
      by_cases hz : ws.getD j 0 = 0
      · have hz' : minV ws (m + 1) j = minV ws m (j + 1) := by simp only [minV, hz, if_true]
        rw [hz] at r0
        rw [hz'] at hm
        have HM := hid hm
        clear hz hz' hm
        go_wp2_with fail
        go_roundg m
        case measure => omega
        case rel => exact ⟨j + 1, by omega, by go_num, HM.out, rfl⟩
      · have hz' : minV ws (m + 1) j = j * 64 + Lib.ctz 64 (ws.getD j 0) := by simp only [minV, hz, if_false]
        rw [hz'] at hm
        have HM := hid hm
        have hne : (((ws.getD j 0 : Nat) : Int) == 0) = false := by simp; simpa using hz
        have hxb := HW.out j
        have HZ := hid (tz_any (ws.getD j 0) hxb w HT.out)
        have hcz := ctz_lt (ws.getD j 0) hz hxb
        clear hz hz' hm
        generalize Lib.ctz 64 (ws.getD j 0) = cz at *
        generalize ws.getD j 0 = x at *
        go_wp2_with (go_at_call 59; refine HZ.out.mono ?_; rintro e w2 ⟨rfl, rfl⟩)
        go_ret
        refine ⟨?_, rfl⟩
        rw [← HM.out]
        simp
    · obtain rfl : gk = 0 := by omega
      have HM := hid hm
      have hjN : j = N := by omega
      subst hjN
      clear hm
      go_wp2_with fail
      go_ret
      refine ⟨?_, rfl⟩
      rw [← HM.out]
      rfl

/-- are two sets of words the same -/
def sameW (xs ys : List Nat) : Nat → Nat → Bool
  | 0, _ => true
  | k + 1, i => if xs.getD i 0 = ys.getD i 0 then sameW xs ys k (i + 1) else false
def eqW (xs ys : List Nat) : Bool := if minL xs xs.length = minL ys ys.length then sameW xs ys (minL xs xs.length) 0 else false

theorem info96 : (Tryd.prog.info? 96).map (·.size) = some 1 := by kernel_rfl
theorem assert_bits (v : Value) (w : World) : (Instr.typeAssert (.iface 46 v) 20 46 true).run Tryd.prog w = .ok (.tuple #[v, .bool true]) w := by
  simp [Instr.typeAssert, run_underlying Tryd.underlying46]

set_option maxRecDepth 100000 in
set_option maxHeartbeats 800000 in
theorem equals_any {lo hi lo' hi' : Nat} {w : World} {b b' : Nat} {xs ys : List Nat} (h : Bset lo hi w b xs) (h' : Bset lo' hi' w b' ys) (hne : b ≠ b') :
    Calls Tryd.prog 40 #[.pointer (some ⟨b, 0, none⟩), .iface 46 (.pointer (some ⟨b', 0, none⟩))] w fun e w' => e = .returned (.bool (eqW xs ys)) ∧ ∃ n, w' = w.drewN n := by
  obtain ⟨A, d, c, hc, hcl, hc4, hA, hcells⟩ := h.read
  obtain ⟨A', d', c', hc', hcl', hc4', hA', hcells'⟩ := h'.read
  have HL := hid (minlen_any h)
  have HL' := hid (minlen_any h')
  have hle := minL_le xs xs.length
  have hle' := minL_le ys ys.length
  have hlen := h.len
  have hlen' := h'.len
  have HE := hid (show eqW xs ys = if minL xs xs.length = minL ys ys.length then sameW xs ys (minL xs xs.length) 0 else false from rfl)
  generalize hN : xs.length = N at *
  generalize hN' : ys.length = N' at *
  generalize hm : minL xs N = m at *
  generalize hm' : minL ys N' = m' at *
  have HC := hid hcells
  have HC' := hid hcells'
  have heq : ∀ w', w' = w → (binOp .eql 46 (.pointer (some ⟨b, 0, none⟩)) (.pointer (some ⟨b', 0, none⟩))).run Tryd.prog w' = .ok (.bool false) w' := by
    rintro _ rfl
    obtain ⟨v1, t1, o1⟩ := h.own
    obtain ⟨v2, t2, o2⟩ := h'.own
    obtain ⟨i, hi, hz⟩ := Option.map_eq_some_iff.1 info96
    exact run_eql_ptr_other _ Tryd.underlying46 hi (by rw [hz]; decide) (by simp [hne]) o1 o2
  have heq2 := heq w rfl
  clear heq hN hcells h hN' hcells' h' hm hm'
  have hta := assert_bits
  by_cases hmm : m = m'
  · subst hmm
    have HE2 := hid (show eqW xs ys = sameW xs ys m 0 by rw [HE.out, if_pos rfl])
    go_enter Tryd.func40, Tryd.ntmps40
    go_wp2_with (first | (go_at_call_of 62 (Value.pointer (some ⟨b, 0, none⟩)); refine HL.out.mono ?_; rintro e w2 ⟨rfl, rfl⟩) | (go_at_call_of 62 (Value.pointer (some ⟨b', 0, none⟩)); refine HL'.out.mono ?_; rintro e w2 ⟨rfl, rfl⟩))
    go_loopg [9] m (fun k i wr => ∃ j : Nat, j + k = m ∧ i = .int .i64 j ∧ sameW xs ys k j = sameW xs ys m 0 ∧ ∃ n, wr = w.drewN n)
    case atStart => exact ⟨0, by omega, rfl, rfl, 0, rfl⟩
    case round =>
      obtain ⟨j, hj, rfl, hs, n, rfl⟩ := hrel
      by_cases hlt : j < m
      · obtain rfl := hA (by omega)
        obtain rfl := hA' (by omega)
        obtain ⟨k, rfl⟩ : ∃ k, gk = k + 1 := ⟨gk - 1, by omega⟩
        have r0 := HC.out j (by omega)
        have r1 := HC'.out j (by omega)
        have hjN : (j : Int) < (N : Int) := by omega
        have hjN' : (j : Int) < (N' : Int) := by omega
        have hj0 : (0 : Int) ≤ (j : Int) := by omega
        by_cases hz : xs.getD j 0 = ys.getD j 0
        · have hz' : sameW xs ys (k + 1) j = sameW xs ys k (j + 1) := by simp only [sameW, hz, if_true]
          rw [hz'] at hs
          have HM := hid hs
          rw [hz] at r0
          clear hz hz' hs
          generalize ys.getD j 0 = y at *
          go_wp2_with fail
          go_quiet (fail)
          go_wp2_with fail
          go_roundg k
          case measure => omega
          case rel => exact ⟨j + 1, by omega, by go_num, HM.out, n + nq, rfl⟩
        · have hz' : sameW xs ys (k + 1) j = false := by simp only [sameW, hz, if_false]
          rw [hz'] at hs
          have HM := hid hs
          have hne : (((xs.getD j 0 : Nat) : Int) == ((ys.getD j 0 : Nat) : Int)) = false := beq_false_of_ne (fun e => hz (Int.ofNat_inj.1 e))
          clear hz hz' hs
          generalize ys.getD j 0 = y at *
          generalize xs.getD j 0 = x at *
          go_wp2_with fail
          go_quiet (fail)
          go_wp2_with fail
          go_ret
          refine ⟨?_, n + nq, World.drewN_drewN ..⟩
          rw [HE2.out, ← HM.out]
          rfl
      · obtain rfl : gk = 0 := by omega
        have hjN : j = m := by omega
        have HM := hid hs
        subst hjN
        clear hs
        go_wp2_with fail
        go_ret
        refine ⟨?_, n, rfl⟩
        rw [HE2.out, ← HM.out]
        rfl
  · have hdec : ((m : Int) == (m' : Int)) = false := by simp; omega
    have HE2 := hid (show eqW xs ys = false by rw [HE.out, if_neg hmm])
    go_enter Tryd.func40, Tryd.ntmps40
    go_wp2_with (first | (go_at_call_of 62 (Value.pointer (some ⟨b, 0, none⟩)); refine HL.out.mono ?_; rintro e w2 ⟨rfl, rfl⟩) | (go_at_call_of 62 (Value.pointer (some ⟨b', 0, none⟩)); refine HL'.out.mono ?_; rintro e w2 ⟨rfl, rfl⟩))
    go_ret
    refine ⟨?_, 0, rfl⟩
    rw [HE2.out]
    rfl
end Go.Proofs.YtifoeehfblddcaaDoor
