/- interval sets: what a step of addInterval does to memory -/
import Derived.Test.YtifoeehfblddcaaDoorS4
namespace Go.Proofs.YtifoeehfblddcaaDoor
open Go.RowKit

theorem info92 : (Tryd.prog.info? 92).map (fun i => (i.zero, i.size, i.bytes)) = some (some (.agg #[.int .i64 0, .int .i64 0]), 2, 16) := by kernel_rfl

/-- what a step on the set at block b, its slice v, leaves alone -/
structure Chg (b : Nat) (v v' : Value) (w w' : World) : Prop where
  os : w'.os = w.os
  tape : w'.tape = w.tape
  output : w'.output = w.output
  size : w.heap.size ≤ w'.heap.size
  block : ∀ k, k < w.heap.size → k ≠ b → some k ≠ v.ownBlock → w'.heap[k]? = w.heap[k]?
  own : ∀ g, v'.ownBlock = some g → v.ownBlock = some g ∨ w.heap.size ≤ g

/-- a new slice laid into the set -/
theorem fin_step {lo : Nat} {w w2 : World} {b n2 : Nat} {v v2 : Value} {ivs xs2 : List Iv} (h : Iset lo w b v ivs) (hB : w.grownBy w2 v.ownBlock) (ho : w2.ownsRow lo 92 2 v2 n2 (icells xs2))
    (hat : ∀ g, v2.ownBlock = some g → v.ownBlock = some g ∨ w.heap.size ≤ g) (hn : n2 = xs2.length) (hne : xs2 ≠ []) :
    Iset lo (w2.setCell ⟨b, 0, none⟩ v2) b v2 xs2 ∧ Chg b v v2 w (w2.setCell ⟨b, 0, none⟩ v2) := by
  have hb := h.lt
  have hbn := h.ne
  have hb2 : v2.ownBlock ≠ some b := fun e => by
    rcases hat b e with h1 | h1
    · exact hbn h1
    · omega
  have hblk := (hB.block b hb (Ne.symm hbn)).trans h.blk
  subst hn
  refine ⟨⟨?_, h.ble, own_set ho _ _ hb2, fun e => absurd e hne⟩, ⟨hB.os, hB.tape, hB.output, by rw [size_set]; exact hB.size, fun k hk hkb hkv => ?_, hat⟩⟩
  · have := heap_set hblk 0 v2
    simpa using this
  · rw [heap_other _ _ _ _ hkb]
    exact hB.block k hk hkv

/-- a change in its own row -/
theorem fin_row {lo : Nat} {w w2 : World} {b : Nat} {v : Value} {ivs xs2 : List Iv} (h : Iset lo w b v ivs) (hB : w.grownBy w2 v.ownBlock) (ho : w2.ownsRow lo 92 2 v xs2.length (icells xs2)) (hne : xs2 ≠ []) :
    Iset lo w2 b v xs2 ∧ Chg b v v w w2 :=
  ⟨⟨(hB.block b h.lt (Ne.symm h.ne)).trans h.blk, h.ble, ho, fun e => absurd e hne⟩, ⟨hB.os, hB.tape, hB.output, hB.size, fun k hk _ hkv => hB.block k hk hkv, fun g hg => .inl hg⟩⟩

theorem own_take {w : World} {base : Nat} {e : TypeId} {size n k cap : Nat} {g : Nat} {xs : List Value} (h : w.ownsRow base e size (.slice (some ⟨g, 0, none⟩) n cap) n xs) (hk : k ≤ n) :
    w.ownsRow base e size (.slice (some ⟨g, 0, none⟩) k cap) k (xs.take (k * size)) := by
  rcases h.2 with ⟨h', _⟩ | ⟨g', cap', cur, h', hb, hg, hnc, hcm, hcs, htk⟩
  · simp at h'
  · simp only [Value.slice.injEq, Option.some.injEq, Addr.mk.injEq, and_true, true_and] at h'
    obtain ⟨rfl, rfl⟩ := h'
    have hks : k * size ≤ n * size := Nat.mul_le_mul_right _ hk
    refine ⟨by rw [List.length_take, h.1]; omega, .inr ⟨g, cap, cur, rfl, hb, hg, Nat.le_trans hk hnc, hcm, hcs, ?_⟩⟩
    rw [← htk, List.take_take, Nat.min_eq_left hks]

theorem icells_take (ivs : List Iv) (k : Nat) : (icells ivs).take (k * 2) = icells (ivs.take k) := by
  have e : icells ivs = icells (ivs.take k) ++ icells (ivs.drop k) := by rw [← icells_append, List.take_append_drop]
  rw [e]
  by_cases hk : k ≤ ivs.length
  · have hl : (icells (ivs.take k)).length = k * 2 := by rw [icells_len, List.length_take]; omega
    rw [← hl, List.take_left]
  · rw [List.take_of_length_le (l := ivs) (by omega), List.drop_eq_nil_of_le (by omega)]
    rw [List.take_of_length_le (by simp [icells_len]; have : (icells []).length = 0 := rfl; omega)]
    exact List.append_nil _
theorem icells_drop (ivs : List Iv) (k j : Nat) (hk : k ≤ ivs.length) : (icells (ivs.drop k))[j]? = (icells ivs)[k * 2 + j]? := by
  have e : icells ivs = icells (ivs.take k) ++ icells (ivs.drop k) := by rw [← icells_append, List.take_append_drop]
  have hl : (icells (ivs.take k)).length = k * 2 := by rw [icells_len, List.length_take]; omega
  rw [e, List.getElem?_append_right (by omega), hl]
  congr 1
  omega

/-- the cells from a place on, as append reads them -/
theorem news_from {w : World} {base : Nat} {g n cap k : Nat} {ivs : List Iv} (h : w.ownsRow base 92 2 (.slice (some ⟨g, 0, none⟩) n cap) n (icells ivs)) (hn : ivs.length = n) (hk : k ≤ n) :
    ∀ j u, (icells (ivs.drop k))[j]? = some u → w.cell? ((⟨g, k * 2, none⟩ : Addr).add j) = some u := by
  intro j u hu
  rw [icells_drop _ _ _ (by omega)] at hu
  have hlt : k * 2 + j < n * 2 := by
    have := (List.getElem?_eq_some_iff.1 hu).1
    rw [icells_len, hn] at this
    exact this
  rw [Addr.add_mid, h.cellAt _ hlt]
  exact hu

theorem icells_one (L H : Int) : icells [(L, H)] = c2 L H := by simp [icells]

theorem icells_set0 (ivs : List Iv) (k : Nat) (hk : k < ivs.length) (x : Int) : (icells ivs).set (k * 2) (.int .i64 x) = icells (ivs.set k (x, (ivAt ivs k).2)) := by
  have e : icells ivs = icells (ivs.take k) ++ (c2 (ivAt ivs k).1 (ivAt ivs k).2 ++ icells (ivs.drop (k + 1))) := by
    rw [← icells_one, ← icells_append, ← icells_append]
    congr 1
    rw [List.singleton_append, ← drop_at ivs k hk, List.take_append_drop]
  have hl : (icells (ivs.take k)).length = k * 2 := by rw [icells_len, List.length_take]; omega
  rw [e, List.set_append_right _ _ (by omega), hl, Nat.sub_self, set_at ivs k hk, icells_append, ← List.singleton_append, icells_append, icells_one]
  rfl
theorem icells_set1 (ivs : List Iv) (k : Nat) (hk : k < ivs.length) (y : Int) : (icells ivs).set (k * 2 + 1) (.int .i64 y) = icells (ivs.set k ((ivAt ivs k).1, y)) := by
  have e : icells ivs = icells (ivs.take k) ++ (c2 (ivAt ivs k).1 (ivAt ivs k).2 ++ icells (ivs.drop (k + 1))) := by
    rw [← icells_one, ← icells_append, ← icells_append]
    congr 1
    rw [List.singleton_append, ← drop_at ivs k hk, List.take_append_drop]
  have hl : (icells (ivs.take k)).length = k * 2 := by rw [icells_len, List.length_take]; omega
  rw [e, List.set_append_right _ _ (by omega), hl, show k * 2 + 1 - k * 2 = 1 by omega, set_at ivs k hk, icells_append, ← List.singleton_append, icells_append, icells_one]
  rfl
theorem icells_set2 (ivs : List Iv) (k : Nat) (hk : k < ivs.length) (x y : Int) : ((icells ivs).set (k * 2) (.int .i64 x)).set (k * 2 + 1) (.int .i64 y) = icells (ivs.set k (x, y)) := by
  rw [icells_set0 ivs k hk, icells_set1 _ k (by simpa using hk)]
  congr 1
  simp [ivAt, hk]

end Go.Proofs.YtifoeehfblddcaaDoor
