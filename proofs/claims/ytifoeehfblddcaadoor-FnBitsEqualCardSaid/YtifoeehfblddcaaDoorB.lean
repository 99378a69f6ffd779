/- the ones of a word -/
import Derived.Test.YtifoeehfblddcaaDoorA
namespace Go.Proofs.YtifoeehfblddcaaDoor
open Go.RowKit

/-- the ones of a number, in its first n places -/
def pop : Nat → Nat → Nat
  | 0, _ => 0
  | n + 1, x => x % 2 + pop n (x / 2)

/-- masks go by digits -/
theorem and_split (k a y c m : Nat) (ha : a < 2 ^ k) (hc : c < 2 ^ k) : (a + 2 ^ k * y) &&& (c + 2 ^ k * m) = (a &&& c) + 2 ^ k * (y &&& m) := by
  have h1 : a &&& c < 2 ^ k := Nat.and_lt_two_pow _ hc
  apply Nat.eq_of_testBit_eq
  intro i
  rw [Nat.testBit_and, Nat.add_comm a, Nat.add_comm c, Nat.add_comm (a &&& c), Nat.testBit_two_pow_mul_add _ ha, Nat.testBit_two_pow_mul_add _ hc, Nat.testBit_two_pow_mul_add _ h1]
  split
  · rw [Nat.testBit_and]
  · rw [Nat.testBit_and]

/-- eight bytes -/
def by8 (a b c d e f g h : Nat) : Nat := a + 256 * (b + 256 * (c + 256 * (d + 256 * (e + 256 * (f + 256 * (g + 256 * h))))))

theorem and8 (m : Nat) (hm : m < 256) (a b c d e f g h : Nat) (ha : a < 256) (hb : b < 256) (hc : c < 256) (hd : d < 256) (he : e < 256) (hf : f < 256) (hg : g < 256) :
    by8 a b c d e f g h &&& by8 m m m m m m m m = by8 (a &&& m) (b &&& m) (c &&& m) (d &&& m) (e &&& m) (f &&& m) (g &&& m) (h &&& m) := by
  have s := fun a y c m ha hc => and_split 8 a y c m ha hc
  simp only [show (2 : Nat) ^ 8 = 256 from rfl] at s
  unfold by8
  rw [s _ _ _ _ ha hm, s _ _ _ _ hb hm, s _ _ _ _ hc hm, s _ _ _ _ hd hm, s _ _ _ _ he hm, s _ _ _ _ hf hm, s _ _ _ _ hg hm]

theorem by8_of (x : Nat) : x = by8 (x % 256) (x / 256 % 256) (x / 65536 % 256) (x / 16777216 % 256) (x / 4294967296 % 256) (x / 1099511627776 % 256) (x / 281474976710656 % 256) (x / 72057594037927936) := by
  unfold by8; omega

def g1 (b : Nat) : Nat := (b / 2 &&& 85) + (b &&& 85)
def g2 (b : Nat) : Nat := (b / 4 &&& 51) + (b &&& 51)
def g3 (b : Nat) : Nat := b / 16 + b % 16

theorem byte_facts : ∀ b, b < 256 → ((b / 2 + 128) &&& 85 = (b / 2 &&& 85)) ∧ g1 b < 256 ∧ g2 (g1 b) < 69 ∧ g2 (g1 b) % 16 ≤ 4 ∧ g3 (g2 (g1 b)) = pop 8 b ∧ pop 8 b ≤ 8 := by decide +kernel
theorem byte_facts2 : ∀ b, b < 256 → ∀ t, t < 4 → (b / 4 + 64 * t) &&& 51 = (b / 4 &&& 51) := by decide +kernel

theorem half8 (a b c d e f g h : Nat) : by8 a b c d e f g h / 2 = by8 (a / 2 + 128 * (b % 2)) (b / 2 + 128 * (c % 2)) (c / 2 + 128 * (d % 2)) (d / 2 + 128 * (e % 2)) (e / 2 + 128 * (f % 2)) (f / 2 + 128 * (g % 2)) (g / 2 + 128 * (h % 2)) (h / 2) := by
  have q : ∀ a y : Nat, (a + 256 * y) / 2 = (a / 2 + 128 * (y % 2)) + 256 * (y / 2) := by omega
  have r : ∀ a y : Nat, (a + 256 * y) % 2 = a % 2 := by omega
  simp only [by8, q, r]
theorem quart8 (a b c d e f g h : Nat) : by8 a b c d e f g h / 4 = by8 (a / 4 + 64 * (b % 4)) (b / 4 + 64 * (c % 4)) (c / 4 + 64 * (d % 4)) (d / 4 + 64 * (e % 4)) (e / 4 + 64 * (f % 4)) (f / 4 + 64 * (g % 4)) (g / 4 + 64 * (h % 4)) (h / 4) := by
  have q : ∀ a y : Nat, (a + 256 * y) / 4 = (a / 4 + 64 * (y % 4)) + 256 * (y / 4) := by omega
  have r : ∀ a y : Nat, (a + 256 * y) % 4 = a % 4 := by omega
  simp only [by8, q, r]
theorem add8 (a b c d e f g h a' b' c' d' e' f' g' h' : Nat) : by8 a b c d e f g h + by8 a' b' c' d' e' f' g' h' = by8 (a + a') (b + b') (c + c') (d + d') (e + e') (f + f') (g + g') (h + h') := by
  unfold by8; omega

theorem lift1 (b t : Nat) (hb : b < 256) : (b / 2 + 128 * (t % 2)) &&& 85 = (b / 2 &&& 85) := by
  rcases Nat.mod_two_eq_zero_or_one t with h | h <;> rw [h]
  · rfl
  · exact (byte_facts b hb).1

theorem step1 (a b c d e f g h : Nat) (ha : a < 256) (hb : b < 256) (hc : c < 256) (hd : d < 256) (he : e < 256) (hf : f < 256) (hg : g < 256) (hh : h < 256) :
    (by8 a b c d e f g h / 2 &&& 6148914691236517205) + (by8 a b c d e f g h &&& 6148914691236517205) = by8 (g1 a) (g1 b) (g1 c) (g1 d) (g1 e) (g1 f) (g1 g) (g1 h) := by
  rw [show (6148914691236517205 : Nat) = by8 85 85 85 85 85 85 85 85 from rfl, half8]
  rw [and8 85 (by decide) _ _ _ _ _ _ _ _ (by omega) (by omega) (by omega) (by omega) (by omega) (by omega) (by omega)]
  rw [and8 85 (by decide) _ _ _ _ _ _ _ _ ha hb hc hd he hf hg]
  rw [lift1 a b ha, lift1 b c hb, lift1 c d hc, lift1 d e hd, lift1 e f he, lift1 f g hf, lift1 g h hg, add8]
  rfl

theorem step2 (a b c d e f g h : Nat) (ha : a < 256) (hb : b < 256) (hc : c < 256) (hd : d < 256) (he : e < 256) (hf : f < 256) (hg : g < 256) (hh : h < 256) :
    (by8 a b c d e f g h / 4 &&& 3689348814741910323) + (by8 a b c d e f g h &&& 3689348814741910323) = by8 (g2 a) (g2 b) (g2 c) (g2 d) (g2 e) (g2 f) (g2 g) (g2 h) := by
  have l := fun b t hb => byte_facts2 b hb (t % 4) (Nat.mod_lt _ (by decide))
  rw [show (3689348814741910323 : Nat) = by8 51 51 51 51 51 51 51 51 from rfl, quart8]
  rw [and8 51 (by decide) _ _ _ _ _ _ _ _ (by omega) (by omega) (by omega) (by omega) (by omega) (by omega) (by omega)]
  rw [and8 51 (by decide) _ _ _ _ _ _ _ _ ha hb hc hd he hf hg]
  rw [l a b ha, l b c hb, l c d hc, l d e hd, l e f he, l f g hf, l g h hg, add8]
  rfl

theorem sixt8 (a b c d e f g h : Nat) : by8 a b c d e f g h / 16 = by8 (a / 16 + 16 * (b % 16)) (b / 16 + 16 * (c % 16)) (c / 16 + 16 * (d % 16)) (d / 16 + 16 * (e % 16)) (e / 16 + 16 * (f % 16)) (f / 16 + 16 * (g % 16)) (g / 16 + 16 * (h % 16)) (h / 16) := by
  have q : ∀ a y : Nat, (a + 256 * y) / 16 = (a / 16 + 16 * (y % 16)) + 256 * (y / 16) := by omega
  have r : ∀ a y : Nat, (a + 256 * y) % 16 = a % 16 := by omega
  simp only [by8, q, r]
theorem lift3 (b t : Nat) (hb : b < 69) (hb4 : b % 16 ≤ 4) (ht : t % 16 ≤ 4) : (b / 16 + 16 * (t % 16) + b) &&& 15 = g3 b ∧ b / 16 + 16 * (t % 16) + b < 256 := by
  rw [nat_mask4]
  unfold g3
  omega
theorem step3 (a b c d e f g h : Nat) (ha : a < 69 ∧ a % 16 ≤ 4) (hb : b < 69 ∧ b % 16 ≤ 4) (hc : c < 69 ∧ c % 16 ≤ 4) (hd : d < 69 ∧ d % 16 ≤ 4) (he : e < 69 ∧ e % 16 ≤ 4) (hf : f < 69 ∧ f % 16 ≤ 4) (hg : g < 69 ∧ g % 16 ≤ 4) (hh : h < 69 ∧ h % 16 ≤ 4) :
    (by8 a b c d e f g h / 16 + by8 a b c d e f g h) &&& 1085102592571150095 = by8 (g3 a) (g3 b) (g3 c) (g3 d) (g3 e) (g3 f) (g3 g) (g3 h) := by
  obtain ⟨p1, q1⟩ := lift3 a b ha.1 ha.2 hb.2
  obtain ⟨p2, q2⟩ := lift3 b c hb.1 hb.2 hc.2
  obtain ⟨p3, q3⟩ := lift3 c d hc.1 hc.2 hd.2
  obtain ⟨p4, q4⟩ := lift3 d e hd.1 hd.2 he.2
  obtain ⟨p5, q5⟩ := lift3 e f he.1 he.2 hf.2
  obtain ⟨p6, q6⟩ := lift3 f g hf.1 hf.2 hg.2
  obtain ⟨p7, q7⟩ := lift3 g h hg.1 hg.2 hh.2
  have p8 := (lift3 h 0 hh.1 hh.2 (by decide)).1
  rw [Nat.zero_mod, Nat.mul_zero, Nat.add_zero] at p8
  rw [show (1085102592571150095 : Nat) = by8 15 15 15 15 15 15 15 15 from rfl, sixt8, add8, and8 15 (by decide) _ _ _ _ _ _ _ _ q1 q2 q3 q4 q5 q6 q7, p1, p2, p3, p4, p5, p6, p7, p8]

theorem pop_add (m : Nat) : ∀ (n x : Nat), pop (n + m) x = pop n x + pop m (x / 2 ^ n) := by
  intro n
  induction n with
  | zero => intro x; simp [pop]
  | succ n ih =>
    intro x
    rw [show n + 1 + m = (n + m) + 1 by omega]
    simp only [pop]
    rw [ih, Nat.div_div_eq_div_mul, Nat.pow_succ, Nat.mul_comm 2 (2 ^ n)]
    omega
theorem pop_mod : ∀ (n x : Nat), pop n (x % 2 ^ n) = pop n x := by
  intro n
  induction n with
  | zero => intro x; rfl
  | succ n ih =>
    intro x
    simp only [pop]
    have h1 : x % 2 ^ (n + 1) % 2 = x % 2 := Nat.mod_mod_of_dvd _ ⟨2 ^ n, by rw [Nat.pow_succ]; omega⟩
    have h2 : x % 2 ^ (n + 1) / 2 = x / 2 % 2 ^ n := by
      rw [Nat.pow_succ, Nat.mul_comm, Nat.mod_mul_right_div_self]
    rw [h1, h2, ih]
theorem pop_byte (a y n : Nat) (ha : a < 256) : pop (8 + n) (a + 256 * y) = pop 8 a + pop n y := by
  rw [pop_add, ← pop_mod 8 (a + 256 * y)]
  rw [show (a + 256 * y) % 2 ^ 8 = a by simp only [show (2 : Nat) ^ 8 = 256 from rfl]; omega, show (a + 256 * y) / 2 ^ 8 = y by simp only [show (2 : Nat) ^ 8 = 256 from rfl]; omega]
theorem pop_by8 (a b c d e f g h : Nat) (ha : a < 256) (hb : b < 256) (hc : c < 256) (hd : d < 256) (he : e < 256) (hf : f < 256) (hg : g < 256) :
    pop 64 (by8 a b c d e f g h) = pop 8 a + (pop 8 b + (pop 8 c + (pop 8 d + (pop 8 e + (pop 8 f + (pop 8 g + pop 8 h)))))) := by
  unfold by8
  rw [show (64 : Nat) = 8 + (8 + (8 + (8 + (8 + (8 + (8 + 8)))))) from rfl, pop_byte _ _ _ ha, pop_byte _ _ _ hb, pop_byte _ _ _ hc, pop_byte _ _ _ hd, pop_byte _ _ _ he, pop_byte _ _ _ hf, pop_byte _ _ _ hg]

theorem last8 (a b c d e f g h : Nat) (ha : a ≤ 8) (hb : b ≤ 8) (hc : c ≤ 8) (hd : d ≤ 8) (he : e ≤ 8) (hf : f ≤ 8) (hg : g ≤ 8) (hh : h ≤ 8) (x3 x4 x5 x6 : Nat)
    (h3 : x3 = by8 a b c d e f g h) (h4 : x4 = x3 + x3 / 256) (h5 : x5 = x4 + x4 / 65536) (h6 : x6 = x5 + x5 / 4294967296) :
    x3 < 2000000000000000000 ∧ x4 < 2010000000000000000 ∧ x5 < 2020000000000000000 ∧ x6 < 2030000000000000000 ∧ x6 % 128 = a + (b + (c + (d + (e + (f + (g + h)))))) := by
  have q8 : ∀ a y : Nat, a < 256 → (a + 256 * y) / 256 = y := by omega
  have q16 : ∀ a b y : Nat, a < 256 → b < 256 → (a + 256 * (b + 256 * y)) / 65536 = y := by omega
  have q32 : ∀ a b c d y : Nat, a < 256 → b < 256 → c < 256 → d < 256 → (a + 256 * (b + 256 * (c + 256 * (d + 256 * y)))) / 4294967296 = y := by omega
  have m : ∀ a y : Nat, a ≤ 64 → (a + 256 * y) % 128 = a := by omega
  have z : ∀ a b c d e f g h : Nat, a ≤ 64 → b ≤ 64 → c ≤ 64 → d ≤ 64 → e ≤ 64 → f ≤ 64 → g ≤ 64 → h ≤ 8 → by8 a b c d e f g h < 2000000000000000000 := by unfold by8; omega
  have e4 : x4 = by8 (a + b) (b + c) (c + d) (d + e) (e + f) (f + g) (g + h) h := by
    rw [h4, h3]
    unfold by8
    rw [q8 _ _ (by omega)]
    omega
  have e5 : x5 = by8 (a + b + (c + d)) (b + c + (d + e)) (c + d + (e + f)) (d + e + (f + g)) (e + f + (g + h)) (f + g + h) (g + h) h := by
    rw [h5, e4]
    unfold by8
    rw [q16 _ _ _ (by omega) (by omega)]
    omega
  have e6 : x6 = by8 (a + b + (c + d) + (e + f + (g + h))) (b + c + (d + e) + (f + g + h)) (c + d + (e + f) + (g + h)) (d + e + (f + g) + h) (e + f + (g + h)) (f + g + h) (g + h) h := by
    rw [h6, e5]
    unfold by8
    rw [q32 _ _ _ _ _ (by omega) (by omega) (by omega) (by omega)]
    omega
  refine ⟨?_, ?_, ?_, ?_, ?_⟩
  · rw [h3]; apply z <;> omega
  · rw [e4]; exact Nat.lt_of_lt_of_le (z _ _ _ _ _ _ _ _ (by omega) (by omega) (by omega) (by omega) (by omega) (by omega) (by omega) (by omega)) (by decide)
  · rw [e5]; exact Nat.lt_of_lt_of_le (z _ _ _ _ _ _ _ _ (by omega) (by omega) (by omega) (by omega) (by omega) (by omega) (by omega) (by omega)) (by decide)
  · rw [e6]; exact Nat.lt_of_lt_of_le (z _ _ _ _ _ _ _ _ (by omega) (by omega) (by omega) (by omega) (by omega) (by omega) (by omega) (by omega)) (by decide)
  · rw [e6]; unfold by8; rw [m _ _ (by omega)]; omega

theorem by8_lt (a b c d e f g h : Nat) (ha : a < 256) (hb : b < 256) (hc : c < 256) (hd : d < 256) (he : e < 256) (hf : f < 256) (hg : g < 256) (hh : h < 256) : by8 a b c d e f g h < 18446744073709551616 := by unfold by8; omega
theorem by8_lt69 (a b c d e f g h : Nat) (ha : a < 69) (hb : b < 69) (hc : c < 69) (hd : d < 69) (he : e < 69) (hf : f < 69) (hg : g < 69) (hh : h < 69) : by8 a b c d e f g h < 5500000000000000000 := by unfold by8; omega

/-- what OnesCount64 reckons -/
theorem ones_fact (x : Nat) (hx : x < 18446744073709551616) (x1 x2 x3 x4 x5 x6 : Nat)
    (h1 : x1 = (x / 2 &&& 6148914691236517205) + (x &&& 6148914691236517205))
    (h2 : x2 = (x1 / 4 &&& 3689348814741910323) + (x1 &&& 3689348814741910323))
    (h3 : x3 = (x2 / 16 + x2) &&& 1085102592571150095)
    (h4 : x4 = x3 + x3 / 256) (h5 : x5 = x4 + x4 / 65536) (h6 : x6 = x5 + x5 / 4294967296) :
    x1 < 18446744073709551616 ∧ x2 < 18446744073709551616 ∧ x2 / 16 + x2 < 18446744073709551616 ∧ x3 < 2000000000000000000 ∧ x4 < 2010000000000000000 ∧ x5 < 2020000000000000000 ∧ x6 < 2030000000000000000 ∧ x6 &&& 127 = pop 64 x := by
  have hb := by8_of x
  generalize ha' : x % 256 = a at hb
  generalize hb' : x / 256 % 256 = b at hb
  generalize hc' : x / 65536 % 256 = c at hb
  generalize hd' : x / 16777216 % 256 = d at hb
  generalize he' : x / 4294967296 % 256 = e at hb
  generalize hf' : x / 1099511627776 % 256 = f at hb
  generalize hg' : x / 281474976710656 % 256 = g at hb
  generalize hh' : x / 72057594037927936 = h at hb
  have ha : a < 256 := by omega
  have hb2 : b < 256 := by omega
  have hc : c < 256 := by omega
  have hd : d < 256 := by omega
  have he : e < 256 := by omega
  have hf : f < 256 := by omega
  have hg : g < 256 := by omega
  have hh : h < 256 := by omega
  clear ha' hb' hc' hd' he' hf' hg' hh'
  subst hb
  rw [step1 a b c d e f g h ha hb2 hc hd he hf hg hh] at h1
  obtain ⟨_, u1, v1, w1, m1, l1⟩ := byte_facts a ha
  obtain ⟨_, u2, v2, w2, m2, l2⟩ := byte_facts b hb2
  obtain ⟨_, u3, v3, w3, m3, l3⟩ := byte_facts c hc
  obtain ⟨_, u4, v4, w4, m4, l4⟩ := byte_facts d hd
  obtain ⟨_, u5, v5, w5, m5, l5⟩ := byte_facts e he
  obtain ⟨_, u6, v6, w6, m6, l6⟩ := byte_facts f hf
  obtain ⟨_, u7, v7, w7, m7, l7⟩ := byte_facts g hg
  obtain ⟨_, u8, v8, w8, m8, l8⟩ := byte_facts h hh
  subst h1
  rw [step2 _ _ _ _ _ _ _ _ u1 u2 u3 u4 u5 u6 u7 u8] at h2
  subst h2
  rw [step3 _ _ _ _ _ _ _ _ ⟨v1, w1⟩ ⟨v2, w2⟩ ⟨v3, w3⟩ ⟨v4, w4⟩ ⟨v5, w5⟩ ⟨v6, w6⟩ ⟨v7, w7⟩ ⟨v8, w8⟩, m1, m2, m3, m4, m5, m6, m7, m8] at h3
  have L := last8 _ _ _ _ _ _ _ _ l1 l2 l3 l4 l5 l6 l7 l8 x3 x4 x5 x6 h3 h4 h5 h6
  rw [pop_by8 _ _ _ _ _ _ _ _ ha hb2 hc hd he hf hg, nat_mask7]
  clear h3 h4 h5 h6
  refine ⟨?_, ?_, ?_, L⟩
  · exact by8_lt _ _ _ _ _ _ _ _ u1 u2 u3 u4 u5 u6 u7 u8
  · exact Nat.lt_trans (by8_lt69 _ _ _ _ _ _ _ _ v1 v2 v3 v4 v5 v6 v7 v8) (by decide)
  · have := by8_lt69 _ _ _ _ _ _ _ _ v1 v2 v3 v4 v5 v6 v7 v8
    generalize by8 (g2 (g1 a)) (g2 (g1 b)) (g2 (g1 c)) (g2 (g1 d)) (g2 (g1 e)) (g2 (g1 f)) (g2 (g1 g)) (g2 (g1 h)) = y at this
    clear v1 v2 v3 v4 v5 v6 v7 v8 w1 w2 w3 w4 w5 w6 w7 w8 u1 u2 u3 u4 u5 u6 u7 u8 m1 m2 m3 m4 m5 m6 m7 m8 L
    omega

theorem wr (n : Int) (m : Nat) (h : n = m) (hm : m < 18446744073709551616) : IntKind.u64.wrap n = m := by
  subst h; exact IntWalk.u64_in _ (by omega)
theorem an (n k : Int) (m c : Nat) (hk : k = c) (h : n = m) (hm : m < 18446744073709551616) (hc : c < 18446744073709551616) : bits BinOp.and IntKind.u64 n k = ((m &&& c : Nat) : Int) := by
  subst h; subst hk; exact u64_and_nat _ _ hm hc

theorem an64 (n : Nat) (h : n < 9223372036854775808) : bits BinOp.and IntKind.i64 (n : Int) 127 = ((n &&& 127 : Nat) : Int) := by
  have h1 : (BitVec.ofInt 64 (n : Int)).toNat = n := by
    rw [BitVec.ofInt_natCast, BitVec.toNat_ofNat]; exact Nat.mod_eq_of_lt (by omega)
  have h2 : (BitVec.ofInt 64 127).toNat = 127 := by decide
  have h3 : n &&& 127 ≤ 127 := Nat.and_le_right
  show IntKind.i64.wrap ((BitVec.ofInt 64 (n : Int) &&& BitVec.ofInt 64 127).toNat : Int) = _
  rw [BitVec.toNat_and, h1, h2, IntWalk.i64_in _ (by omega)]

theorem ones_eqs (x : Nat) (hv : x < 18446744073709551616) : ∃ x1 x2 x3 x4 x5 x6 : Nat,
    IntKind.u64.wrap (bits BinOp.and IntKind.u64 ((x : Int) / 2) 6148914691236517205 + bits BinOp.and IntKind.u64 (x : Int) 6148914691236517205) = x1 ∧
    IntKind.u64.wrap (bits BinOp.and IntKind.u64 ((x1 : Int) / 4) 3689348814741910323 + bits BinOp.and IntKind.u64 (x1 : Int) 3689348814741910323) = x2 ∧
    bits BinOp.and IntKind.u64 (IntKind.u64.wrap ((x2 : Int) / 16 + x2)) 1085102592571150095 = x3 ∧
    IntKind.u64.wrap ((x3 : Int) + x3 / 256) = x4 ∧ IntKind.u64.wrap ((x4 : Int) + x4 / 65536) = x5 ∧ IntKind.u64.wrap ((x5 : Int) + x5 / 4294967296) = x6 ∧
    IntKind.i64.wrap (x6 : Int) = x6 ∧ bits BinOp.and IntKind.i64 (x6 : Int) 127 = (pop 64 x : Nat) := by
  obtain ⟨x1, h1⟩ : ∃ x1, x1 = (x / 2 &&& 6148914691236517205) + (x &&& 6148914691236517205) := ⟨_, rfl⟩
  obtain ⟨x2, h2⟩ : ∃ x2, x2 = (x1 / 4 &&& 3689348814741910323) + (x1 &&& 3689348814741910323) := ⟨_, rfl⟩
  obtain ⟨x3, h3⟩ : ∃ x3, x3 = (x2 / 16 + x2) &&& 1085102592571150095 := ⟨_, rfl⟩
  obtain ⟨x4, h4⟩ : ∃ x4, x4 = x3 + x3 / 256 := ⟨_, rfl⟩
  obtain ⟨x5, h5⟩ : ∃ x5, x5 = x4 + x4 / 65536 := ⟨_, rfl⟩
  obtain ⟨x6, h6⟩ : ∃ x6, x6 = x5 + x5 / 4294967296 := ⟨_, rfl⟩
  obtain ⟨b1, b2, b3, b4, b5, b6, b7, b8⟩ := ones_fact x hv x1 x2 x3 x4 x5 x6 h1 h2 h3 h4 h5 h6
  have hd : ∀ n m : Nat, ((n / m : Nat) : Int) = (n : Int) / (m : Int) := fun n m => Int.natCast_ediv n m
  refine ⟨x1, x2, x3, x4, x5, x6, ?_, ?_, ?_, ?_, ?_, ?_, ?_, ?_⟩
  · rw [an ((x : Int) / 2) 6148914691236517205 (x / 2) 6148914691236517205 rfl (hd x 2).symm (Nat.lt_of_le_of_lt (Nat.div_le_self _ _) hv) (by decide), an (x : Int) 6148914691236517205 x 6148914691236517205 rfl rfl hv (by decide)]
    exact wr _ _ (by rw [← Int.natCast_add, ← h1]) b1
  · rw [an ((x1 : Int) / 4) 3689348814741910323 (x1 / 4) 3689348814741910323 rfl (hd x1 4).symm (Nat.lt_of_le_of_lt (Nat.div_le_self _ _) b1) (by decide), an (x1 : Int) 3689348814741910323 x1 3689348814741910323 rfl rfl b1 (by decide)]
    exact wr _ _ (by rw [← Int.natCast_add, ← h2]) b2
  · rw [wr ((x2 : Int) / 16 + x2) (x2 / 16 + x2) (by rw [Int.natCast_add, hd]; rfl) b3, an ((x2 / 16 + x2 : Nat) : Int) 1085102592571150095 (x2 / 16 + x2) 1085102592571150095 rfl rfl b3 (by decide), ← h3]
  · exact wr _ _ (by rw [h4, Int.natCast_add, hd]; rfl) (Nat.lt_trans b5 (by decide))
  · exact wr _ _ (by rw [h5, Int.natCast_add, hd]; rfl) (Nat.lt_trans b6 (by decide))
  · exact wr _ _ (by rw [h6, Int.natCast_add, hd]; rfl) (Nat.lt_trans b7 (by decide))
  · refine IntWalk.i64_in _ ?_
    clear h1 h2 h3 h4 h5 h6 b1 b2 b3 b4 b5 b6 b8
    omega
  · rw [an64 x6 (Nat.lt_trans b7 (by decide)), b8]

set_option maxHeartbeats 800000 in
theorem ones_any (x : Nat) (w : World) (hv : x < 18446744073709551616) :
    Calls Tryd.prog 58 #[.int .u64 x] w fun e w' => e = .returned (.int .i64 ((pop 64 x : Nat) : Int)) ∧ w = w' := by
  obtain ⟨x1, x2, x3, x4, x5, x6, h1, h2, h3, h4, h5, h6, h7, h8⟩ := ones_eqs x hv
  generalize pop 64 x = r at *
  go_enter Tryd.func58, Tryd.ntmps58
  go_wp2_with (simp only [h1, h2, h3, h4, h5, h6, h7, h8])
  go_ret
  exact ⟨rfl, rfl⟩
end Go.Proofs.YtifoeehfblddcaaDoor
