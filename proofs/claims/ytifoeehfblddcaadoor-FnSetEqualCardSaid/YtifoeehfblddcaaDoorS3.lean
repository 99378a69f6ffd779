/- interval sets: the small functions -/
import Derived.Test.YtifoeehfblddcaaDoorS0
namespace Go.Proofs.YtifoeehfblddcaaDoor
open Go.RowKit

set_option maxHeartbeats 400000 in
theorem min_any (x y : Int) (w : World) :
    Calls Tryd.prog 90 #[.int .i64 x, .int .i64 y] w fun e w' => e = .returned (.int .i64 (min x y)) ∧ w = w' := by
  by_cases h : x < y
  · have hm : min x y = x := by omega
    rw [hm]
    clear hm
    go_enter Tryd.func90, Tryd.ntmps90
    go_wp2_with fail
    go_ret
    exact ⟨rfl, rfl⟩
  · have hm : min x y = y := by omega
    rw [hm]
    clear hm
    go_enter Tryd.func90, Tryd.ntmps90
    go_wp2_with fail
    go_ret
    exact ⟨rfl, rfl⟩

set_option maxHeartbeats 400000 in
theorem max_any (x y : Int) (w : World) :
    Calls Tryd.prog 63 #[.int .i64 x, .int .i64 y] w fun e w' => e = .returned (.int .i64 (max x y)) ∧ w = w' := by
  by_cases h : y < x
  · have hm : max x y = x := by omega
    rw [hm]
    clear hm
    go_enter Tryd.func63, Tryd.ntmps63
    go_wp2_with fail
    go_ret
    exact ⟨rfl, rfl⟩
  · have hm : max x y = y := by omega
    rw [hm]
    clear hm
    go_enter Tryd.func63, Tryd.ntmps63
    go_wp2_with fail
    go_ret
    exact ⟨rfl, rfl⟩

set_option maxHeartbeats 400000 in
theorem newiv_any (x y : Int) (w : World) :
    Calls Tryd.prog 82 #[.int .i64 x, .int .i64 y] w fun e w' => e = .returned (.agg #[.int .i64 x, .int .i64 y]) ∧ Below w.heap.size w w' := by
  have hB := bl1 w
  go_enter Tryd.func82, Tryd.ntmps82
  go_wp2_with fail
  refine bodyPost_ret (v := .agg #[.int .i64 x, .int .i64 y]) (by simp [results, Tryd.results82, go_sem]) rfl ⟨rfl, hB _⟩

set_option maxHeartbeats 400000 in
theorem ivlen_any (x y : Int) (w : World) (h1 : -1000 ≤ x) (h2 : x ≤ 1000) (h3 : -1000 ≤ y) (h4 : y ≤ 1000) :
    Calls Tryd.prog 84 #[.agg #[.int .i64 x, .int .i64 y]] w fun e w' => e = .returned (.int .i64 (y - x)) ∧ Below w.heap.size w w' := by
  have hB := bl1 w
  go_enter Tryd.func84, Tryd.ntmps84
  go_wp2_with fail
  go_ret
  exact ⟨rfl, hB _⟩

set_option maxHeartbeats 400000 in
theorem ivhas_any (x y n : Int) (w : World) :
    Calls Tryd.prog 86 #[.agg #[.int .i64 x, .int .i64 y], .int .i64 n] w fun e w' => e = .returned (.bool (decide (x ≤ n) && decide (n < y))) ∧ Below w.heap.size w w' := by
  have hB := bl1 w
  by_cases h : x ≤ n
  · rw [decide_eq_true h, Bool.true_and]
    go_enter Tryd.func86, Tryd.ntmps86
    go_wp2_with fail
    go_ret
    exact ⟨rfl, hB _⟩
  · rw [decide_eq_false h, Bool.false_and]
    go_enter Tryd.func86, Tryd.ntmps86
    go_wp2_with fail
    go_ret
    exact ⟨rfl, hB _⟩

/-! ### a slice against nil -/
theorem eqnil_yes (W : World) : (binOp .eql 89 (.slice none 0 0) (.slice none 0 0)).run Tryd.prog W = .ok (.bool true) W := Lib.run_eql_slice_nil W 89 92 none 0 0 0 0 Tryd.underlying89
theorem eqnil_no (W : World) (a : Addr) (n c : Nat) : (binOp .eql 89 (.slice (some a) n c) (.slice none 0 0)).run Tryd.prog W = .ok (.bool false) W := Lib.run_eql_slice_nil W 89 92 (some a) n c 0 0 Tryd.underlying89
theorem nenil_yes (W : World) : (binOp .neq 89 (.slice none 0 0) (.slice none 0 0)).run Tryd.prog W = .ok (.bool false) W := run_neq_slice_nil_any W 89 92 none 0 0 0 0 Tryd.underlying89
theorem nenil_no (W : World) (a : Addr) (n c : Nat) : (binOp .neq 89 (.slice (some a) n c) (.slice none 0 0)).run Tryd.prog W = .ok (.bool true) W := run_neq_slice_nil_any W 89 92 (some a) n c 0 0 Tryd.underlying89

/-- an interval set at block b: its slice v, its intervals -/
structure Iset (lo : Nat) (w : World) (b : Nat) (v : Value) (ivs : List Iv) : Prop where
  blk : w.heap[b]? = some (.cells #[v, .bool false] 120 (0, 0))
  ble : lo ≤ b
  own : w.ownsRow lo 92 2 v ivs.length (icells ivs)
  nil : ivs = [] → v = .slice none 0 0

theorem Iset.lt {lo : Nat} {w : World} {b : Nat} {v : Value} {ivs : List Iv} (h : Iset lo w b v ivs) : b < w.heap.size := lt_of_heap h.blk
theorem Iset.keep {lo : Nat} {w w' : World} {b : Nat} {v : Value} {ivs : List Iv} (h : Iset lo w b v ivs) (hb : Below w.heap.size w w') : Iset lo w' b v ivs :=
  ⟨(hb.block _ h.lt).trans h.blk, h.ble, own_below h.own hb, h.nil⟩
theorem Iset.ne {lo : Nat} {w : World} {b : Nat} {v : Value} {ivs : List Iv} (h : Iset lo w b v ivs) : v.ownBlock ≠ some b := by
  intro e
  rcases h.own.2 with ⟨rfl, _⟩ | ⟨g, cap, cur, rfl, _, hg, _⟩
  · simp [Value.ownBlock] at e
  · simp [Value.ownBlock] at e
    subst e
    rw [h.blk] at hg
    simp at hg
theorem Iset.cell {lo : Nat} {w : World} {b : Nat} {v : Value} {ivs : List Iv} (h : Iset lo w b v ivs) : w.cell? ⟨b, 0, none⟩ = some v ∧ w.frozen? ⟨b, 0, none⟩ = false := by
  simp [World.cell?, World.frozen?, h.blk]
/-- its slice: nil, or a row of its own -/
theorem Iset.form {lo : Nat} {w : World} {b : Nat} {v : Value} {ivs : List Iv} (h : Iset lo w b v ivs) : (ivs = [] ∧ v = .slice none 0 0) ∨
    (0 < ivs.length ∧ ∃ g c, v = .slice (some ⟨g, 0, none⟩) ivs.length c ∧ lo ≤ g ∧ g < w.heap.size ∧ g ≠ b ∧ ivs.length ≤ c ∧ c ≤ maxLen ∧
      ∀ k, k < ivs.length → w.cell? ⟨g, k * 2, none⟩ = some (.int .i64 (ivAt ivs k).1) ∧ w.cell? ⟨g, k * 2 + 1, none⟩ = some (.int .i64 (ivAt ivs k).2)) := by
  by_cases h0 : ivs = []
  · exact .inl ⟨h0, h.nil h0⟩
  · have hp : 0 < ivs.length := List.length_pos_iff.2 h0
    rcases h.own.2 with ⟨_, h1⟩ | ⟨g, cap, cur, hv, hb, hg, hcap, hmx, hsz, htk⟩
    · omega
    · subst hv
      refine .inr ⟨hp, g, cap, rfl, hb, lt_of_heap hg, ?_, hcap, hmx, fun k hk => ?_⟩
      · rintro rfl; exact h.ne rfl
      · have := icells_at ivs k hk
        rw [h.own.cellAt _ (by omega), h.own.cellAt _ (by omega)]
        exact this

set_option maxHeartbeats 400000 in
theorem newis_any (w : World) :
    Calls Tryd.prog 66 #[] w fun e w' => (∃ b, e = .returned (.pointer (some ⟨b, 0, none⟩)) ∧ Iset w.heap.size w' b (.slice none 0 0) [] ∧ w'.heap.size = w.heap.size + 1) ∧ Below w.heap.size w w' := by
  have hB := bl1 w
  go_enter Tryd.func66, Tryd.ntmps66
  go_wp2_with fail
  go_ret
  refine ⟨⟨_, rfl, ⟨?_, Nat.le_refl _, World.ownsRow_nil _ _ _ _, fun _ => rfl⟩, by simp⟩, hB _⟩
  exact heap_alloc_new w _ _

set_option maxHeartbeats 400000 in
theorem getiv_any {lo : Nat} {w : World} {b : Nat} {v : Value} {ivs : List Iv} (h : Iset lo w b v ivs) :
    Calls Tryd.prog 75 #[.pointer (some ⟨b, 0, none⟩)] w fun e w' => e = .returned v ∧ w = w' := by
  have hc := h.cell.1
  clear h
  go_enter Tryd.func75, Tryd.ntmps75
  go_wp2_with fail
  go_ret
  exact ⟨rfl, rfl⟩

set_option maxHeartbeats 400000 in
theorem first_any {lo : Nat} {w : World} {b : Nat} {v : Value} {ivs : List Iv} (h : Iset lo w b v ivs) (hi : Inb ivs) :
    Calls Tryd.prog 72 #[.pointer (some ⟨b, 0, none⟩)] w fun e w' => (∃ z, e = .returned (.int .i64 z)) ∧ w = w' := by
  have hc := h.cell.1
  have hl := hi.len
  rcases h.form with ⟨rfl, rfl⟩ | ⟨hp, g, c, rfl, _, _, _, hcap, hmx, hcs⟩
  · clear h hi
    go_enter Tryd.func72, Tryd.ntmps72
    go_wp2_with fail
    go_ret
    exact ⟨⟨_, rfl⟩, rfl⟩
  · have c0 := (hcs 0 hp).1
    rw [Nat.zero_mul] at c0
    clear h hi hcs
    generalize ivs.length = n at *
    have hn : ((n : Int) == 0) = false := beq_false_of_ne (by omega)
    go_enter Tryd.func72, Tryd.ntmps72
    go_wp2_with fail
    go_ret
    exact ⟨⟨_, rfl⟩, rfl⟩

end Go.Proofs.YtifoeehfblddcaaDoor
