/- walks: the steps that move, or look -/
import Derived.Test.YtcakbheoibaiiaaDoorD
namespace Go.Proofs.YtcakbheoibaiiaaDoor
open Go.RowKit

/-- what LA(x) tells at place i -/
def laOf (rs : List Int) (i x : Int) : Int :=
  let p := if x < 0 then i + x else i + x - 1
  if 0 ≤ p ∧ p < rs.length then rs.getD p.toNat 0 else -1

theorem la_any (b d : Nat) (rs : List Int) (i x : Int) (w : World) (h : Strm w b d rs i) (hx0 : x ≠ 0) (hx1 : x ≤ 1000000) (hx2 : -1000000 ≤ x) :
    Calls Tryd.prog 23 #[.pointer (some ⟨b, 0, none⟩), .int .i64 x] w fun e w' => e = .returned (.int .i64 (laOf rs i x)) ∧ w = w' := by
  obtain ⟨c, hc, hcc⟩ := h.c2
  have hn := h.n
  have h0 := h.i0
  have h1 := h.i1
  unfold laOf
  by_cases hneg : x < 0
  · simp only [hneg, if_true]
    by_cases hin : 0 ≤ i + x
    · rw [if_pos ⟨hin, by omega⟩]
      have hj : (i + x).toNat < rs.length := by omega
      exact la_neg_in b d i x (i + x).toNat rs.length c _ w h0 (by omega) hneg hx2 (by omega) hj hn h.c1 hcc h.c3 (h.rc _ hj) (h.rb _).1 (h.rb _).2
    · rw [if_neg (by omega)]
      exact la_neg_low b i x w h0 (by omega) hneg hx2 (by omega) h.c1
  · simp only [hneg, if_false]
    by_cases hin : i + x - 1 < rs.length
    · rw [if_pos ⟨by omega, hin⟩]
      have hj : (i + x - 1).toNat < rs.length := by omega
      exact la_pos_in b d i x (i + x - 1).toNat rs.length c _ w h0 (by omega) (by omega) hx1 (by omega) hj hn h.c1 hcc h.c3 (h.rc _ hj) (h.rb _).1 (h.rb _).2
    · rw [if_neg (by omega)]
      exact la_pos_out b i x rs.length w h0 (by omega) (by omega) hx1 (by omega) h.c1 h.c3

theorem seek_any (b d : Nat) (rs : List Int) (i x : Int) (w : World) (h : Strm w b d rs i) (hx1 : x ≤ rs.length) :
    Calls Tryd.prog 24 #[.pointer (some ⟨b, 0, none⟩), .int .i64 x] w fun e w' => e = .returned (.tuple #[]) ∧ w.setCell ⟨b, 1, none⟩ (.int .i64 x) = w' := by
  by_cases hx : x ≤ i
  · exact seek_back b i x w hx h.c1 (h.fr 1)
  · exact seek_forth b i x rs.length w (by omega) hx1 h.c1 h.c3 (h.fr 1)

theorem stepped_set {b d : Nat} {rs : List Int} {i : Int} {w w' : World} (h : Strm w b d rs i) (k : Int) (h0 : 0 ≤ k) (h1 : k ≤ rs.length) (g : (w.setCell ⟨b, 1, none⟩ (.int .i64 k)).grownBy w' none) : Stepped b d rs k w w' :=
  ⟨gb_trans (gb_setCell (gb_refl _) (.inl rfl) _) ⟨g.os, g.tape, g.output, g.size, fun k hk _ => g.block k hk (by simp)⟩, (h.set k h0 h1).keep g⟩

theorem heap_setCell_like {w1 w : World} {p : Addr} (v : Value) (h : w1.heap[p.block]? = w.heap[p.block]?) : (w1.setCell p v).heap[p.block]? = (w.setCell p v).heap[p.block]? := by
  simp only [World.setCell, Array.getElem?_modify, h, if_true]

theorem stepped_blk {b d : Nat} {rs : List Int} {i : Int} {w w' : World} (h : Strm w b d rs i) (k : Int) (h0 : 0 ≤ k) (h1 : k ≤ rs.length) (g : w.grownBy w' (some b)) (hb : w'.heap[b]? = (w.setCell ⟨b, 1, none⟩ (.int .i64 k)).heap[b]?) : Stepped b d rs k w w' := by
  refine ⟨g, ?_⟩
  have s := h.set k h0 h1
  exact {
    lt := Nat.lt_of_lt_of_le h.lt g.size
    dlt := Nat.lt_of_lt_of_le h.dlt g.size
    ne := h.ne
    n := h.n
    i0 := h0
    i1 := h1
    c1 := (World.cell?_of_block (a := ⟨b, 1, none⟩) hb).trans s.c1
    c2 := s.c2.imp fun c ⟨hc, hh⟩ => ⟨hc, (World.cell?_of_block (a := ⟨b, 2, none⟩) hb).trans hh⟩
    c3 := (World.cell?_of_block (a := ⟨b, 3, none⟩) hb).trans s.c3
    fr := fun j => (World.frozen?_of_block (a := ⟨b, j, none⟩) hb).trans (s.fr j)
    rc := fun j hj => (gb_cell g h.dlt (by have := h.ne; simpa using this)).trans (h.rc j hj)
    rb := h.rb }

set_option maxHeartbeats 400000 in
theorem step_la (b d : Nat) (rs : List Int) (i x y : Int) (tv : Value) (w : World) (h : Strm w b d rs i) (hx0 : x ≠ 0) (hx1 : x ≤ 1000000) (hx2 : -1000000 ≤ x) :
    Calls Tryd.prog 15 #[.pointer (some ⟨b, 0, none⟩), .agg #[.int .u8 1, .int .i64 x, .int .i64 y, tv]] w fun e w' =>
      e = .returned (.agg #[.int .i64 (laOf rs i x), .string ⟨#[]⟩, .slice none 0 0, .bool false]) ∧ Stepped b d rs i w w' := by
  have hmf : ∀ (fn : Fn) (first cap : Array Value) (w : World), (Instr.makeFunc fn first cap).run Tryd.prog w = .ok (.func fn first cap) w := fun _ _ _ _ => rfl
  have lt := h.lt
  generalize hv : laOf rs i x = v
  have key : ∀ w', w.grownBy w' none → Calls Tryd.prog 23 #[.pointer (some ⟨b, 0, none⟩), .int .i64 x] w' fun e w'' => e = .returned (.int .i64 v) ∧ w' = w'' := fun w' g => hv ▸ la_any b d rs i x w' (h.keep g) hx0 hx1 hx2
  have H := hid h
  have C := hid key
  clear h key hv hx0 hx1 hx2
  go_enter_defers Tryd.func15, Tryd.ntmps15
  go_wp2_with (go_at_call 23; refine (C.out _ (gb_alloc (gb_alloc (gb_refl _) _) _)).mono ?_; rintro e w' ⟨rfl, rfl⟩)
  refine leaves_cons (f := 21) (args := #[.pointer (some ⟨w.heap.size + 1, 0, none⟩)]) (by simp) (by simp [go_sem]) ?_
  refine (catch_idle ⟨w.heap.size + 1, 0, none⟩ _).mono ?_
  rintro e u' w'' ⟨rfl, rfl, rfl⟩
  simp [Leaves, settle, results, Tryd.results15, go_sem]
  exact stepped_keep H.out (gb_alloc (gb_alloc (gb_refl _) _) _)

set_option maxHeartbeats 400000 in
theorem step_seek (b d : Nat) (rs : List Int) (i x y : Int) (tv : Value) (w : World) (h : Strm w b d rs i) (hx0 : 0 ≤ x) (hx1 : x ≤ rs.length) :
    Calls Tryd.prog 15 #[.pointer (some ⟨b, 0, none⟩), .agg #[.int .u8 2, .int .i64 x, .int .i64 y, tv]] w fun e w' =>
      e = .returned (.agg #[.int .i64 0, .string ⟨#[]⟩, .slice none 0 0, .bool false]) ∧ Stepped b d rs x w w' := by
  have hmf : ∀ (fn : Fn) (first cap : Array Value) (w : World), (Instr.makeFunc fn first cap).run Tryd.prog w = .ok (.func fn first cap) w := fun _ _ _ _ => rfl
  have lt := h.lt
  have key : ∀ w', w.grownBy w' none → Calls Tryd.prog 24 #[.pointer (some ⟨b, 0, none⟩), .int .i64 x] w' fun e w'' => e = .returned (.tuple #[]) ∧ w'.setCell ⟨b, 1, none⟩ (.int .i64 x) = w'' := fun w' g => seek_any b d rs i x w' (h.keep g) hx1
  have fin := fun w' => stepped_set (w' := w') h x hx0 hx1
  have H := hid h
  have C := hid key
  have F := hid fin
  clear h key fin hx0 hx1
  go_enter_defers Tryd.func15, Tryd.ntmps15
  go_wp2_with (go_at_call 24; refine (C.out _ (gb_alloc (gb_alloc (gb_refl _) _) _)).mono ?_; rintro e w' ⟨rfl, rfl⟩)
  refine leaves_cons (f := 21) (args := #[.pointer (some ⟨w.heap.size + 1, 0, none⟩)]) (by simp) (by simp [go_sem]) ?_
  refine (catch_idle ⟨w.heap.size + 1, 0, none⟩ _).mono ?_
  rintro e u' w'' ⟨rfl, rfl, rfl⟩
  have hlb : ¬ (w.heap.size + 1 = b) := by omega
  simp [Leaves, settle, results, Tryd.results15, go_sem, hlb]
  exact F.out _ (gb_alloc (gb_alloc (gb_refl _) _) _)

set_option maxHeartbeats 400000 in
theorem step_consume (b d : Nat) (rs : List Int) (i x y : Int) (tv : Value) (w : World) (h : Strm w b d rs i) (hi : i < rs.length) :
    Calls Tryd.prog 15 #[.pointer (some ⟨b, 0, none⟩), .agg #[.int .u8 0, .int .i64 x, .int .i64 y, tv]] w fun e w' =>
      e = .returned (.agg #[.int .i64 0, .string ⟨#[]⟩, .slice none 0 0, .bool false]) ∧ Stepped b d rs (i + 1) w w' := by
  have hmf : ∀ (fn : Fn) (first cap : Array Value) (w : World), (Instr.makeFunc fn first cap).run Tryd.prog w = .ok (.func fn first cap) w := fun _ _ _ _ => rfl
  have lt := h.lt
  have key : ∀ w', w.grownBy w' none → Calls Tryd.prog 22 #[.pointer (some ⟨b, 0, none⟩)] w' fun e w'' => e = .returned (.tuple #[]) ∧ ∃ q, (w'.drewN q).setCell ⟨b, 1, none⟩ (.int .i64 (i + 1)) = w'' := fun w' g => by
    have k := h.keep g
    exact consume_ok b i rs.length w' k.i0 (by have := k.n; omega) hi k.c1 k.c3 (k.fr 1)
  have fin := fun w' => stepped_blk (w' := w') h (i + 1) (by have := h.i0; omega) (by omega)
  have H := hid h
  have C := hid key
  have F := hid fin
  clear h key fin hi
  go_enter_defers Tryd.func15, Tryd.ntmps15
  go_wp2_with (go_at_call 22; refine (C.out _ (gb_alloc (gb_alloc (gb_refl _) _) _)).mono ?_; rintro e w' ⟨rfl, q, rfl⟩)
  refine leaves_cons (f := 21) (args := #[.pointer (some ⟨w.heap.size + 1, 0, none⟩)]) (by simp) (by simp [go_sem]) ?_
  refine (catch_idle ⟨w.heap.size + 1, 0, none⟩ _).mono ?_
  rintro e u' w'' ⟨rfl, rfl, rfl⟩
  have hlb : ¬ (w.heap.size + 1 = b) := by omega
  simp [Leaves, settle, results, Tryd.results15, go_sem, hlb]
  refine F.out _ ?_ ?_
  · exact gb_setNew (gb_setNew (gb_setNew (gb_setNew (gb_setCell (gb_drewN (gb_alloc (gb_alloc (gb_refl _) _) _) _) (.inl rfl) _) (Nat.le_succ _) _) (Nat.le_succ _) _) (Nat.le_succ _) _) (Nat.le_succ _) _
  · iterate 4 rw [Below.heap_setCell _ _ _ _ (by simp; omega)]
    refine heap_setCell_like (p := ⟨b, 1, none⟩) _ ?_
    exact (Below.heap_alloc _ _ _ (by simp; omega)).trans (Below.heap_alloc _ _ _ lt)

set_option maxHeartbeats 400000 in
theorem step_end (b d : Nat) (rs : List Int) (i x y : Int) (tv : Value) (w : World) (h : Strm w b d rs i) (hi : i = rs.length) :
    Calls Tryd.prog 15 #[.pointer (some ⟨b, 0, none⟩), .agg #[.int .u8 0, .int .i64 x, .int .i64 y, tv]] w fun e w' =>
      e = .returned (.agg #[.int .i64 0, .string ⟨#[]⟩, .slice none 0 0, .bool true]) ∧ Stepped b d rs i w w' := by
  have hmf : ∀ (fn : Fn) (first cap : Array Value) (w : World), (Instr.makeFunc fn first cap).run Tryd.prog w = .ok (.func fn first cap) w := fun _ _ _ _ => rfl
  have lt := h.lt
  have key : ∀ w', w.grownBy w' none → Calls Tryd.prog 22 #[.pointer (some ⟨b, 0, none⟩)] w' fun e w'' => (∃ x u, e = .panicked [{ v := .iface u x, recovered := false }]) ∧ ∃ q, w'.drewN q = w'' := fun w' g => by
    have k := h.keep g
    exact consume_end b i rs.length w' (by omega) k.c1 k.c3
  have H := hid h
  have C := hid key
  clear h key hi
  go_enter_defers Tryd.func15, Tryd.ntmps15
  go_wp2_with (go_at_call 22; refine (C.out _ (gb_alloc (gb_alloc (gb_refl _) _) _)).mono ?_; rintro e w' ⟨⟨px, pu, rfl⟩, q, rfl⟩)
  refine leaves_cons (f := 21) (args := #[.pointer (some ⟨w.heap.size + 1, 0, none⟩)]) (by simp) (by simp [go_sem]) ?_
  refine (catch_panicking (w.heap.size + 1) (.int .i64 0) (.string ⟨#[]⟩) (.slice none 0 0) (.bool false) pu px [] _ ?_ ?_ ?_ ?_ ?_).mono ?_
  · simp [go_sem]
  · simp [go_sem]
  · simp [go_sem]
  · simp [go_sem]
  · simp [go_sem]
  rintro e u' w'' ⟨rfl, rfl, rfl⟩
  simp [Leaves, settle, results, Tryd.results15, go_sem]
  exact stepped_keep H.out (gb_setNew (gb_setNew (gb_setNew (gb_setNew (gb_drewN (gb_alloc (gb_alloc (gb_refl _) _) _) _) (Nat.le_succ _) _) (Nat.le_succ _) _) (Nat.le_succ _) _) (Nat.le_succ _) _)

end Go.Proofs.YtcakbheoibaiiaaDoor
