/- bitAwake, FnBits -/
import Derived.Test.YtifoeehfblddcaaDoorR
import Derived.Test.YtifoeehfblddcaaDoorT
import Derived.Test.YtifoeehfblddcaaDoorW
namespace Go.Proofs.YtifoeehfblddcaaDoor
open Go.RowKit

theorem ints_new (w : World) (c : Array Value) (xs : List Int) (t : TypeId) (hc : c = (xs.map fun z => Value.int .i64 z).toArray) : Ints (w.alloc (.cells c t)) (some ⟨w.heap.size, 0, none⟩) xs.length xs where
  cap := Nat.le_refl _
  row := fun _ => ⟨w.heap.size, 0, rfl, by simp, fun j hj => by
    rw [Nat.zero_add]
    have h := heap_alloc_new w c t
    unfold World.cell?
    rw [h]
    simp [hc, hj]⟩

theorem awake_facts : mk [3] [] = [8] ∧ mk [4] [] = [16] ∧ orW (orW [] (mk [3] [])) (mk [4] []) = [24] ∧ popS [24] 1 = 2 ∧ hasCells [8] [3, 4] = [.bool true, .bool false] ∧ hasCells [24] [3, 4] = [.bool true, .bool true] := by
  refine ⟨rfl, rfl, by decide +kernel, by decide +kernel, ?_, ?_⟩
  · rfl
  · rfl
theorem bdn {B : Nat} {a w : World} (h : Below B a w) (n : Nat) : Below B a (w.drewN n) := ⟨h.os, h.tape, h.output, h.size, h.block⟩

theorem eqb_two (gh c : Nat) (b1 b2 : Bool) (t : TypeId) (W : World) (n : Nat) (hn : W.heap.size = n) (hg : gh < W.heap.size) (hc : 2 ≤ c) (h0 : W.cell? ⟨gh, 0, none⟩ = some (.bool b1)) (h1 : W.cell? ⟨gh, 1, none⟩ = some (.bool b2)) :
    Calls Tryd.prog 14 #[.slice (some ⟨gh, 0, none⟩) 2 c, .slice (some ⟨n, 0, none⟩) 2 2] (W.alloc (.cells #[.bool b1, .bool b2] t)) fun e w' => e = .returned (.bool true) ∧ ∃ n, w' = (W.alloc (.cells #[.bool b1, .bool b2] t)).drewN n := by
  have hne := heap_alloc_new W #[.bool b1, .bool b2] t
  subst hn
  refine eqb_any gh 0 c W.heap.size 0 2 2 (fun j => if j = 0 then b1 else b2) _ ?_ ?_ hc (Nat.le_refl _) (by decide)
  · intro j hj
    rw [Nat.zero_add, (bl1 W _).cell (p := ⟨gh, j, none⟩) hg]
    rcases j with _ | _ | j
    · exact h0
    · exact h1
    · omega
  · intro j hj
    rw [Nat.zero_add]
    unfold World.cell?
    rw [hne]
    rcases j with _ | _ | j
    · rfl
    · rfl
    · omega

theorem awake_call (w : World) (hT : Tabs w) (hw0 : 0 < w.heap.size) :
    Calls Tryd.prog 9 #[.slice (some ⟨w.heap.size, 0, none⟩) 1 1, .slice none 0 0, .slice (some ⟨w.heap.size + 1, 0, none⟩) 1 1, .slice none 0 0, .slice (some ⟨w.heap.size + 1 + 1, 0, none⟩) 2 2]
      (((w.alloc (.cells #[.int .i64 3] 3)).alloc (.cells #[.int .i64 4] 3)).alloc (.cells #[.int .i64 3, .int .i64 4] 3)) fun e w' =>
      (∃ g1 g3 c1 c2 c3 A2 n2 l1 m1 l2 m2 m3 s1 s2 s3 q, e = .returned (.tuple #[.agg #[.slice (some ⟨g1, 0, none⟩) 2 c1, .int .i64 l1, .int .i64 m1, .string s1], .agg #[.slice A2 n2 c2, .int .i64 l2, .int .i64 m2, .string s2], .agg #[.slice (some ⟨g3, 0, none⟩) 2 c3, .int .i64 2, .int .i64 m3, .string s3], .bool q, .bool q]) ∧
        g1 < w'.heap.size ∧ g3 < w'.heap.size ∧ 2 ≤ c1 ∧ 2 ≤ c3 ∧ w'.cell? ⟨g1, 0, none⟩ = some (.bool true) ∧ w'.cell? ⟨g1, 1, none⟩ = some (.bool false) ∧ w'.cell? ⟨g3, 0, none⟩ = some (.bool true) ∧ w'.cell? ⟨g3, 1, none⟩ = some (.bool true)) ∧ Below w.heap.size w w' := by
  have b1 := bl1 w (.cells #[.int .i64 3] 3)
  have b2 := bl1 (w.alloc (.cells #[.int .i64 3] 3)) (.cells #[.int .i64 4] 3)
  have b3 := bl1 ((w.alloc (.cells #[.int .i64 3] 3)).alloc (.cells #[.int .i64 4] 3)) (.cells #[.int .i64 3, .int .i64 4] 3)
  have i1 := ((ints_new w #[.int .i64 3] [3] 3 rfl).keep b2).keep b3
  have i2 := (ints_new (w.alloc (.cells #[.int .i64 3] 3)) #[.int .i64 4] [4] 3 rfl).keep b3
  have i3 := ints_new ((w.alloc (.cells #[.int .i64 3] 3)).alloc (.cells #[.int .i64 4] 3)) #[.int .i64 3, .int .i64 4] [3, 4] 3 rfl
  have s1 : (w.alloc (.cells #[.int .i64 3] 3)).heap.size = w.heap.size + 1 := by simp
  have s2 : ((w.alloc (.cells #[.int .i64 3] 3)).alloc (.cells #[.int .i64 4] 3)).heap.size = w.heap.size + 1 + 1 := by simp
  rw [s1] at i2
  rw [s2] at i3
  have b := bl (bl b1 b2) b3
  have hsz := b.size
  have in1 : In200 [3] := by intro j; rcases j with _ | j <;> simp
  have in2 : In200 [4] := by intro j; rcases j with _ | j <;> simp
  have in0 : In200 [] := by intro j; simp
  have in3 : ∀ j, 0 ≤ ([3, 4] : List Int).getD j 0 ∧ ([3, 4] : List Int).getD j 0 ≤ 300 := by intro j; rcases j with _ | _ | j <;> simp
  refine (bits_any _ none _ none _ 1 0 1 0 2 [3] [] [4] [] [3, 4] _ i1 (Ints.nil _) i2 (Ints.nil _) i3 in1 in0 in2 in0 in3 (by decide) (by decide) (by decide) (by decide) (by decide) (hT.keep hw0 b) (by omega)).mono ?_
  rintro e w' ⟨⟨X, Y, U, rfl, ⟨H1, t1, rfl, o1⟩, ⟨H2, t2, rfl, o2⟩, hU⟩, hb⟩
  rw [awake_facts.2.2.1] at hU
  obtain ⟨H3, t3, rfl, o3⟩ := hU
  rw [show mk [3] [] = [8] from rfl, awake_facts.2.2.2.2.1] at o1
  rw [awake_facts.2.2.2.2.2] at o3
  obtain ⟨A2, n2, c2, rfl⟩ := slice_of o2
  rcases o1.2 with ⟨_, h0⟩ | ⟨g1, c1, cur1, rfl, _, hg1, hc1, _⟩
  · simp at h0
  rcases o3.2 with ⟨_, h0⟩ | ⟨g3, c3, cur3, rfl, _, hg3, hc3, _⟩
  · simp at h0
  refine ⟨⟨g1, g3, c1, c2, c3, A2, n2, ((popS (mk [3] []) (mk [3] []).length : Nat) : Int), ((tellLeast (mk [3] []) : Nat) : Int), ((popS (mk [4] []) (mk [4] []).length : Nat) : Int), ((tellLeast (mk [4] []) : Nat) : Int), ((tellLeast [24] : Nat) : Int), t1, t2, t3, eqW (mk [3] []) (mk [4] []), ?_, (Array.getElem?_eq_some_iff.1 hg1).1, (Array.getElem?_eq_some_iff.1 hg3).1, by simpa using hc1, by simpa using hc3, (o1.cellAt 0 (by decide)).trans rfl, (o1.cellAt 1 (by decide)).trans rfl, (o3.cellAt 0 (by decide)).trans rfl, (o3.cellAt 1 (by decide)).trans rfl⟩, bl b hb⟩
  rw [show ((popS [24] [24].length : Nat) : Int) = 2 from by rw [show [24].length = 1 from rfl, awake_facts.2.2.2.1]; rfl]
  rfl

set_option maxRecDepth 100000 in
set_option maxHeartbeats 1600000 in
theorem awake_any (w : World) (hT : Tabs w) (hw0 : 0 < w.heap.size) :
    Calls Tryd.prog 8 #[] w fun e w' => e = .returned (.bool true) ∧ Below w.heap.size w w' := by
  have HC := hid (awake_call w hT hw0)
  clear hT
  go_enter Tryd.func8, Tryd.ntmps8
  go_wp2_with (first
    | (go_at_call 9; refine HC.out.mono ?_; rintro e w1 ⟨⟨g1, g3, c1, c2, c3, A2, n2, l1, m1, l2, m2, m3, s1, s2, s3, q, rfl, hg1, hg3, hc1, hc3, x0, x1, y0, y1⟩, hb⟩; have HB := hid hb; have HX0 := hid x0; have HX1 := hid x1; have HY0 := hid y0; have HY1 := hid y1; clear hb x0 x1 y0 y1)
    | (go_at_call_of 14 (Value.slice (some ⟨g1, 0, none⟩) 2 c1); refine (eqb_two g1 c1 true false 4 _ (w1.heap.size + 1 + 1 + 1) (by simp) (Nat.lt_of_lt_of_le hg1 (bl (bl (bl1 w1 _) (bl1 _ _)) (bl1 _ _)).size) hc1 (((bl (bl (bl1 w1 _) (bl1 _ _)) (bl1 _ _)).cell (p := ⟨g1, 0, none⟩) hg1).trans HX0.out) (((bl (bl (bl1 w1 _) (bl1 _ _)) (bl1 _ _)).cell (p := ⟨g1, 1, none⟩) hg1).trans HX1.out)).mono ?_; rintro e w2 ⟨rfl, n, rfl⟩)
    | (go_at_call_of 14 (Value.slice (some ⟨g3, 0, none⟩) 2 c3); refine (eqb_two g3 c3 true true 4 _ (w1.heap.size + 1 + 1 + 1 + 1) (by simp) (Nat.lt_of_lt_of_le hg3 (bdn (bl (bl (bl (bl1 w1 _) (bl1 _ _)) (bl1 _ _)) (bl1 _ _)) _).size) hc3 (((bdn (bl (bl (bl (bl1 w1 _) (bl1 _ _)) (bl1 _ _)) (bl1 _ _)) _).cell (p := ⟨g3, 0, none⟩) hg3).trans HY0.out) (((bdn (bl (bl (bl (bl1 w1 _) (bl1 _ _)) (bl1 _ _)) (bl1 _ _)) _).cell (p := ⟨g3, 1, none⟩) hg3).trans HY1.out)).mono ?_; rintro e w2 ⟨rfl, n2, rfl⟩))
  go_ret
  refine ⟨rfl, bl HB.out ?_⟩
  exact bdn (bl (bdn (bl (bl (bl (bl1 w1 _) (bl1 _ _)) (bl1 _ _)) (bl1 _ _)) n) (bl1 _ _)) n2
end Go.Proofs.YtifoeehfblddcaaDoor
