/- the bit set's text: some text -/
import Derived.Test.YtifoeehfblddcaaDoorI
import Derived.Test.YtifoeehfblddcaaDoorVS
import Derived.Maps.AppendAt
import Derived.Lib.ItoaLen
namespace Go.Proofs.YtifoeehfblddcaaDoor
open Go.RowKit Go.Sort

theorem pop_lsb : ∀ n x, 0 < x → x < 2 ^ n → pop n (x - 2 ^ Lib.ctzFrom n x) + 1 = pop n x := by
  intro n
  induction n with
  | zero => intro x h0 h; simp at h; omega
  | succ n ih =>
    intro x h0 h
    unfold Lib.ctzFrom
    by_cases h1 : x % 2 = 1
    · rw [if_pos h1]
      simp only [pop]
      rw [show (x - 2 ^ 0) % 2 = 0 by simp; omega, show (x - 2 ^ 0) / 2 = x / 2 by simp; omega]
      omega
    · rw [if_neg h1]
      have hx : x / 2 < 2 ^ n := by rw [Nat.pow_succ] at h; omega
      have := ih (x / 2) (by omega) hx
      rw [Nat.add_comm 1, Nat.pow_succ]
      generalize 2 ^ Lib.ctzFrom n (x / 2) = p at *
      simp only [pop]
      rw [show (x - p * 2) % 2 = x % 2 by omega, show (x - p * 2) / 2 = x / 2 - p by omega]
      omega

/-- the lowest one struck off -/
theorem lsb_off (x : Nat) (h0 : x ≠ 0) (hx : x < 18446744073709551616) : x &&& (18446744073709551615 ^^^ 2 ^ Lib.ctz 64 x) = x - 2 ^ Lib.ctz 64 x ∧ 2 ^ Lib.ctz 64 x ≤ x ∧ pop 64 (x - 2 ^ Lib.ctz 64 x) + 1 = pop 64 x := by
  have e : Lib.ctz 64 x = Lib.ctzFrom 64 x := by simp [Lib.ctz, h0]
  have hlow := Lib.lowest_bit 64 x h0 hx
  have hk := hlow.2
  obtain ⟨m, hm, _⟩ := Lib.ctzFrom_spec 64 x (by omega) hx
  have hpop := pop_lsb 64 x (by omega) hx
  rw [← e] at hm hpop
  generalize Lib.ctz 64 x = k at *
  have hp : 0 < 2 ^ k := Nat.two_pow_pos k
  have hle : 2 ^ k ≤ x := by rw [hm]; exact Nat.le_mul_of_pos_right _ (by omega)
  refine ⟨?_, hle, hpop⟩
  have hbit : x.testBit k = true := by
    rw [Nat.testBit_eq_decide_div_mod_eq, hm, Nat.mul_div_cancel_left _ hp]; simp
  have hs : x - 2 ^ k = 2 ^ (k + 1) * m := by
    rw [Nat.pow_succ, Nat.mul_assoc]
    have : 2 ^ k * (2 * m + 1) = 2 ^ k * (2 * m) + 2 ^ k := by rw [Nat.mul_add, Nat.mul_one]
    omega
  have hx2 : x = 2 ^ (k + 1) * m + 2 ^ k := by omega
  apply Nat.eq_of_testBit_eq
  intro i
  rw [Nat.testBit_and, Nat.testBit_xor, Nat.testBit_two_pow, show (18446744073709551615 : Nat) = 2 ^ 64 - 1 from rfl, Nat.testBit_two_pow_sub_one, hs]
  have hlt : 2 ^ k < 2 ^ (k + 1) := Nat.pow_lt_pow_right (by decide) (by omega)
  rw [hx2, Nat.testBit_two_pow_mul_add _ hlt, Nat.testBit_two_pow_mul]
  by_cases h1 : i < k + 1
  · rw [if_pos h1, Nat.testBit_two_pow]
    by_cases h2 : k = i
    · subst h2; simp [hk]; omega
    · simp [h2]; omega
  · rw [if_neg h1]
    have h3 : k ≠ i := by omega
    by_cases h4 : i < 64
    · simp [h3, h4]; omega
    · have : m.testBit (i - (k + 1)) = false := by
        have hxx : x.testBit i = false := Nat.testBit_lt_two_pow (Nat.lt_of_lt_of_le hx (Nat.pow_le_pow_right (n := 2) (by decide) (show 64 ≤ i by omega)))
        rw [hx2, Nat.testBit_two_pow_mul_add _ hlt, if_neg h1] at hxx
        exact hxx
      simp [this]

/-- the two tables of the library's -/
structure Tabs (w : World) : Prop where
  tz : TzTab w
  pw : Lib.TabIs Tryd.prog w "internal/strconv.uint64pow10" .u64 Lib.pow10Tab

theorem below_grow (w : World) (q : Nat) (os : Array Obj) : Below w.heap.size w (grow (w.drewN q) os) :=
  ⟨rfl, rfl, rfl, by simp [grow], fun i hi => by
    show (w.heap ++ os)[i]? = w.heap[i]?
    rw [Array.getElem?_append_left hi]⟩

theorem tab_below {n : String} {g : Nat} {k : IntKind} {zs : List Int} {w w' : World} (hg : Tryd.prog.globalNamed n = some g) (h : Lib.TabIs Tryd.prog w n k zs) (hb : Below w.heap.size w w') : Lib.TabIs Tryd.prog w' n k zs := by
  unfold Lib.TabIs World.var? at h ⊢
  rw [hg] at h ⊢
  simp only [Option.bind_some] at h ⊢
  have hlt : g < w.heap.size := by
    rcases Nat.lt_or_ge g w.heap.size with h' | h'
    · exact h'
    · rw [Array.getElem?_eq_none h'] at h; simp at h
  rw [hb.block g hlt]
  exact h

theorem Tabs.keep {w w' : World} (h : Tabs w) (h0 : 0 < w.heap.size) (hb : Below w.heap.size w w') : Tabs w' :=
  ⟨h.tz.keep h0 hb, tab_below (g := 1) (by kernel_rfl) h.pw hb⟩

theorem itoa_any (n : Nat) (w : World) (hn : n ≤ 1000) (hT : Tabs w) :
    Calls Tryd.prog 60 #[.int .i64 (n : Int)] w fun e w' => (∃ s, e = .returned (.string s) ∧ s.size ≤ 30) ∧ Below w.heap.size w w' := by
  refine (Any.strconv_Itoa Tryd.laysM171 (n : Int) (by omega) (by omega) w hT.pw).mono ?_
  rintro e w' ⟨rfl, k, os, rfl⟩
  refine ⟨⟨_, rfl, ?_⟩, below_grow _ _ _⟩
  have := Lib.itoa_length_le (n : Int) (by omega) (by omega)
  show (Lib.itoa (n : Int)).toArray.size ≤ 30
  simp; omega
end Go.Proofs.YtifoeehfblddcaaDoor
