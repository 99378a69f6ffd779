/- plain laws of the words -/
import Derived.Test.YtifoeehfblddcaaDoorJ
namespace Go.Proofs.YtifoeehfblddcaaDoor
open Go.RowKit

/-- how many numbers below n are in -/
def cnt (f : Nat → Bool) : Nat → Nat
  | 0 => 0
  | n + 1 => cnt f n + (if f n then 1 else 0)

theorem cnt_congr (f g : Nat → Bool) : ∀ n, (∀ i, i < n → f i = g i) → cnt f n = cnt g n
  | 0, _ => rfl
  | n + 1, h => by
    simp only [cnt]
    rw [cnt_congr f g n (fun i hi => h i (by omega)), h n (by omega)]

theorem cnt_add (f : Nat → Bool) (a : Nat) : ∀ b, cnt f (a + b) = cnt f a + cnt (fun i => f (a + i)) b
  | 0 => rfl
  | b + 1 => by
    rw [← Nat.add_assoc]
    simp only [cnt]
    rw [cnt_add f a b, Nat.add_assoc]

theorem cnt_front (f : Nat → Bool) (n : Nat) : cnt f (n + 1) = (if f 0 then 1 else 0) + cnt (fun i => f (i + 1)) n := by
  rw [Nat.add_comm n 1, cnt_add f 1 n]
  simp only [cnt, Nat.zero_add, Nat.add_comm 1]

theorem cnt_beyond (f : Nat → Bool) (a : Nat) (b : Nat) (h : ∀ i, a ≤ i → f i = false) : cnt f (a + b) = cnt f a := by
  rw [cnt_add]
  have : ∀ b, cnt (fun i => f (a + i)) b = 0 := by
    intro b
    induction b with
    | zero => rfl
    | succ b ih => simp [cnt, ih, h (a + b) (by omega)]
  rw [this, Nat.add_zero]

theorem pop_cnt : ∀ n x, pop n x = cnt (fun i => x.testBit i) n
  | 0, _ => rfl
  | n + 1, x => by
    rw [cnt_front]
    simp only [pop, Nat.testBit_zero, Nat.testBit_succ]
    rw [pop_cnt n (x / 2)]
    rcases Nat.mod_two_eq_zero_or_one x with h | h <;> simp [h]

theorem popS_cnt (ws : List Nat) : ∀ k, k ≤ ws.length → popS ws k = cnt (bitN ws) (64 * k)
  | 0, _ => rfl
  | k + 1, h => by
    rw [popS_succ ws k (by omega), popS_cnt ws k (by omega), Nat.mul_add, Nat.mul_one, cnt_add, pop_cnt]
    congr 1
    apply cnt_congr
    intro i hi
    unfold bitN
    rw [show (64 * k + i) / 64 = k by omega, show (64 * k + i) % 64 = i by omega]

theorem bitN_beyond (ws : List Nat) (n : Nat) (h : 64 * ws.length ≤ n) : bitN ws n = false := by
  unfold bitN
  rw [List.getD_eq_getElem?_getD, List.getElem?_eq_none (by omega)]
  simp

theorem popS_all (ws : List Nat) (hl : ws.length ≤ 4) : popS ws ws.length = cnt (bitN ws) 256 := by
  rw [popS_cnt ws _ (Nat.le_refl _), show 256 = 64 * ws.length + (256 - 64 * ws.length) by omega, cnt_beyond _ _ _ (fun i hi => bitN_beyond ws i hi)]

theorem ctz_bits (x : Nat) (h0 : x ≠ 0) (hx : x < 18446744073709551616) : x.testBit (Lib.ctz 64 x) = true ∧ ∀ i, i < Lib.ctz 64 x → x.testBit i = false := by
  have e : Lib.ctz 64 x = Lib.ctzFrom 64 x := by simp [Lib.ctz, h0]
  obtain ⟨m, hm, _⟩ := Lib.ctzFrom_spec 64 x (by omega) hx
  rw [← e] at hm
  generalize Lib.ctz 64 x = k at *
  have hp : 0 < 2 ^ k := Nat.two_pow_pos k
  constructor
  · rw [Nat.testBit_eq_decide_div_mod_eq, hm, Nat.mul_div_cancel_left _ hp]; simp
  · intro i hi
    rw [hm, Nat.testBit_two_pow_mul]
    simp; omega

theorem minV_spec (ws : List Nat) (hw : ∀ j, ws.getD j 0 < 18446744073709551616) : ∀ k i,
    (∀ n, 64 * i ≤ n → n < 64 * (i + k) → bitN ws n = false) ∨ (bitN ws (minV ws k i) = true ∧ ∀ n, 64 * i ≤ n → n < minV ws k i → bitN ws n = false)
  | 0, i => .inl (fun n h1 h2 => by omega)
  | k + 1, i => by
    by_cases hz : ws.getD i 0 = 0
    · have hrow : ∀ n, 64 * i ≤ n → n < 64 * (i + 1) → bitN ws n = false := by
        intro n h1 h2
        unfold bitN
        rw [show n / 64 = i by omega, hz]; simp
      have e : minV ws (k + 1) i = minV ws k (i + 1) := by simp only [minV, hz, if_true]
      rw [e]
      rcases minV_spec ws hw k (i + 1) with h | ⟨h1, h2⟩
      · refine .inl (fun n a b => ?_)
        by_cases hn : n < 64 * (i + 1)
        · exact hrow n a hn
        · exact h n (by omega) (by omega)
      · refine .inr ⟨h1, fun n a b => ?_⟩
        by_cases hn : n < 64 * (i + 1)
        · exact hrow n a hn
        · exact h2 n (by omega) b
    · have e : minV ws (k + 1) i = i * 64 + Lib.ctz 64 (ws.getD i 0) := by simp only [minV, hz, if_false]
      have hc := ctz_lt _ hz (hw i)
      obtain ⟨b1, b2⟩ := ctz_bits _ hz (hw i)
      refine .inr ⟨?_, fun n a b => ?_⟩
      · rw [e]; unfold bitN
        rw [show (i * 64 + Lib.ctz 64 (ws.getD i 0)) / 64 = i by omega, show (i * 64 + Lib.ctz 64 (ws.getD i 0)) % 64 = Lib.ctz 64 (ws.getD i 0) by omega]
        exact b1
      · rw [e] at b
        unfold bitN
        rw [show n / 64 = i by omega]
        exact b2 _ (by omega)

theorem minL_zero (ws : List Nat) : ∀ n j, minL ws n ≤ j → j < n → ws.getD j 0 = 0
  | 0, j, _, h => by omega
  | n + 1, j, h, h2 => by
    unfold minL at h
    split at h
    · rename_i hz
      by_cases e : j = n
      · rw [e]; exact hz
      · exact minL_zero ws n j h (by omega)
    · omega
theorem minL_top (ws : List Nat) : ∀ n, 0 < minL ws n → ws.getD (minL ws n - 1) 0 ≠ 0
  | 0, h => by simp [minL] at h
  | n + 1, h => by
    unfold minL at h ⊢
    split
    · rename_i hz
      rw [if_pos hz] at h
      exact minL_top ws n h
    · rename_i hz; simpa using hz

theorem getD_beyond (ws : List Nat) (j : Nat) (h : ws.length ≤ j) : ws.getD j 0 = 0 := by rw [List.getD_eq_getElem?_getD, List.getElem?_eq_none h]; rfl
theorem minL_all (ws : List Nat) (j : Nat) (h : minL ws ws.length ≤ j) : ws.getD j 0 = 0 := by
  by_cases h2 : j < ws.length
  · exact minL_zero ws _ j h h2
  · exact getD_beyond ws j (by omega)

theorem bitN_or (us ss : List Nat) (n : Nat) : bitN (orW us ss) n = (bitN us n || bitN ss n) := by
  unfold bitN orW
  have hg : minL ss ss.length ≤ (growW us (max (minL us us.length) (minL ss ss.length))).length := by simp [growW]; omega
  rw [orL_get _ _ _ _ hg, growW_get]
  by_cases h : n / 64 < minL ss ss.length
  · rw [if_pos h, Nat.testBit_or]
  · rw [if_neg h, minL_all ss _ (by omega)]; simp

theorem sameW_iff (xs ys : List Nat) : ∀ k i, sameW xs ys k i = true ↔ ∀ j, i ≤ j → j < i + k → xs.getD j 0 = ys.getD j 0
  | 0, i => by simp [sameW]; omega
  | k + 1, i => by
    unfold sameW
    by_cases h : xs.getD i 0 = ys.getD i 0
    · rw [if_pos h, sameW_iff xs ys k (i + 1)]
      constructor
      · intro hh j a b
        by_cases e : j = i
        · rw [e]; exact h
        · exact hh j (by omega) (by omega)
      · intro hh j a b; exact hh j (by omega) (by omega)
    · rw [if_neg h]
      constructor
      · intro e; cases e
      · intro hh; exact absurd (hh i (by omega) (by omega)) h

theorem eqW_words (xs ys : List Nat) : eqW xs ys = true ↔ ∀ j, xs.getD j 0 = ys.getD j 0 := by
  unfold eqW
  constructor
  · intro h
    split at h
    · rename_i e
      intro j
      by_cases hj : j < minL xs xs.length
      · exact (sameW_iff xs ys _ 0).1 h j (by omega) (by omega)
      · rw [minL_all xs j (by omega), minL_all ys j (by omega)]
    · cases h
  · intro h
    have e : minL xs xs.length = minL ys ys.length := by
      rcases Nat.lt_trichotomy (minL xs xs.length) (minL ys ys.length) with hlt | he | hlt
      · exfalso
        have := minL_top ys ys.length (by omega)
        rw [← h, minL_all xs _ (by omega)] at this
        exact this rfl
      · exact he
      · exfalso
        have := minL_top xs xs.length (by omega)
        rw [h, minL_all ys _ (by omega)] at this
        exact this rfl
    rw [if_pos e]
    exact (sameW_iff xs ys _ 0).2 (fun j _ _ => h j)

theorem eqW_bits (xs ys : List Nat) (hx : ∀ j, xs.getD j 0 < 18446744073709551616) (hy : ∀ j, ys.getD j 0 < 18446744073709551616) : eqW xs ys = true ↔ ∀ n, bitN xs n = bitN ys n := by
  rw [eqW_words]
  constructor
  · intro h n; unfold bitN; rw [h]
  · intro h j
    apply Nat.eq_of_testBit_eq
    intro i
    by_cases hi : i < 64
    · have := h (64 * j + i)
      unfold bitN at this
      rw [show (64 * j + i) / 64 = j by omega, show (64 * j + i) % 64 = i by omega] at this
      exact this
    · have h2 : (18446744073709551616 : Nat) ≤ 2 ^ i := Nat.le_trans (by decide) (Nat.pow_le_pow_right (n := 2) (by decide) (show 64 ≤ i by omega))
      rw [Nat.testBit_lt_two_pow (Nat.lt_of_lt_of_le (hx j) h2), Nat.testBit_lt_two_pow (Nat.lt_of_lt_of_le (hy j) h2)]

end Go.Proofs.YtifoeehfblddcaaDoor
