/- walks: one step over the stream -/
import Derived.Test.YtcakbheoibaiiaaDoorC
namespace Go.Proofs.YtcakbheoibaiiaaDoor
open Go.RowKit

structure Strm (w : World) (b d : Nat) (rs : List Int) (i : Int) : Prop where
  lt : b < w.heap.size
  dlt : d < w.heap.size
  ne : d ≠ b
  n : rs.length ≤ 1000000
  i0 : 0 ≤ i
  i1 : i ≤ rs.length
  c1 : w.cell? ⟨b, 1, none⟩ = some (.int .i64 i)
  c2 : ∃ c, rs.length ≤ c ∧ w.cell? ⟨b, 2, none⟩ = some (.slice (some ⟨d, 0, none⟩) rs.length c)
  c3 : w.cell? ⟨b, 3, none⟩ = some (.int .i64 rs.length)
  fr : ∀ j, w.frozen? ⟨b, j, none⟩ = false
  rc : ∀ j, j < rs.length → w.cell? ⟨d, j, none⟩ = some (.int .i32 (rs.getD j 0))
  rb : ∀ j, 0 ≤ rs.getD j 0 ∧ rs.getD j 0 ≤ 2100000

section
variable {a w w' : World}
theorem gb_refl (row : Option Nat) : a.grownBy a row := ⟨rfl, rfl, rfl, Nat.le_refl _, fun _ _ _ => rfl⟩
theorem gb_drewN {row : Option Nat} (h : a.grownBy w row) (n : Nat) : a.grownBy (w.drewN n) row := ⟨h.os, h.tape, h.output, h.size, h.block⟩
theorem gb_drew {row : Option Nat} (h : a.grownBy w row) : a.grownBy w.drew row := ⟨h.os, h.tape, h.output, h.size, h.block⟩
theorem gb_alloc {row : Option Nat} (h : a.grownBy w row) (o : Obj) : a.grownBy (w.alloc o) row :=
  ⟨h.os, h.tape, h.output, Nat.le_trans h.size (by simp), fun i hi hne => (Below.heap_alloc w o i (Nat.lt_of_lt_of_le hi h.size)).trans (h.block i hi hne)⟩
theorem gb_setCell {g : Nat} (h : a.grownBy w (some g)) {p : Addr} (hp : p.block = g ∨ a.heap.size ≤ p.block) (u : Value) : a.grownBy (w.setCell p u) (some g) :=
  ⟨h.os, h.tape, h.output, by simpa [World.setCell] using h.size, fun i hi hne => (Below.heap_setCell w p u i (by
    rintro rfl
    rcases hp with hp | hp
    · exact hne (by rw [hp])
    · omega)).trans (h.block i hi hne)⟩
theorem gb_setNew {row : Option Nat} (h : a.grownBy w row) {p : Addr} (hp : a.heap.size ≤ p.block) (u : Value) : a.grownBy (w.setCell p u) row :=
  ⟨h.os, h.tape, h.output, by simpa [World.setCell] using h.size, fun i hi hne => (Below.heap_setCell w p u i (by omega)).trans (h.block i hi hne)⟩
theorem gb_of_below (h : Below a.heap.size a w) (row : Option Nat) : a.grownBy w row := ⟨h.os, h.tape, h.output, h.size, fun i hi _ => h.block i hi⟩
theorem gb_below (h : a.grownBy w none) : Below a.heap.size a w := ⟨h.os, h.tape, h.output, h.size, fun i hi => h.block i hi (by simp)⟩
theorem gb_trans {row : Option Nat} (h : a.grownBy w row) (k : w.grownBy w' row) : a.grownBy w' row :=
  ⟨k.os.trans h.os, k.tape.trans h.tape, k.output.trans h.output, Nat.le_trans h.size k.size, fun i hi hn => (k.block i (Nat.lt_of_lt_of_le hi h.size) hn).trans (h.block i hi hn)⟩
/-- what is not written reads as it did -/
theorem gb_cell {row : Option Nat} (h : a.grownBy w row) {p : Addr} (hp : p.block < a.heap.size) (hn : some p.block ≠ row) : w.cell? p = a.cell? p := World.cell?_of_block (h.block _ hp hn)
theorem gb_frozen {row : Option Nat} (h : a.grownBy w row) {p : Addr} (hp : p.block < a.heap.size) (hn : some p.block ≠ row) : w.frozen? p = a.frozen? p := World.frozen?_of_block (h.block _ hp hn)
end

theorem Strm.keep {w w' : World} {b d : Nat} {rs : List Int} {i : Int} (h : Strm w b d rs i) (g : w.grownBy w' none) : Strm w' b d rs i where
  lt := Nat.lt_of_lt_of_le h.lt g.size
  dlt := Nat.lt_of_lt_of_le h.dlt g.size
  ne := h.ne
  n := h.n
  i0 := h.i0
  i1 := h.i1
  c1 := (gb_cell g h.lt (by simp)).trans h.c1
  c2 := h.c2.imp fun c ⟨hc, hh⟩ => ⟨hc, (gb_cell g h.lt (by simp)).trans hh⟩
  c3 := (gb_cell g h.lt (by simp)).trans h.c3
  fr := fun j => (gb_frozen g h.lt (by simp)).trans (h.fr j)
  rc := fun j hj => (gb_cell g h.dlt (by simp)).trans (h.rc j hj)
  rb := h.rb

theorem Strm.set {w : World} {b d : Nat} {rs : List Int} {i : Int} (h : Strm w b d rs i) (k : Int) (h0 : 0 ≤ k) (h1 : k ≤ rs.length) : Strm (w.setCell ⟨b, 1, none⟩ (.int .i64 k)) b d rs k where
  lt := by simpa [World.setCell] using h.lt
  dlt := by simpa [World.setCell] using h.dlt
  ne := h.ne
  n := h.n
  i0 := h0
  i1 := h1
  c1 := by have := h.c1; simp [go_sem, this]
  c2 := h.c2.imp fun c ⟨hc, hh⟩ => ⟨hc, (World.cell?_setCell_other w _ _ _ (by simp)).trans hh⟩
  c3 := (World.cell?_setCell_other w _ _ _ (by simp)).trans h.c3
  fr := fun j => by have := h.fr j; simp [go_sem, this]
  rc := fun j hj => (World.cell?_setCell_other w _ _ _ (by have := h.ne; simp [this])).trans (h.rc j hj)
  rb := h.rb

/-- what a step says of the world behind it -/
def Stepped (b d : Nat) (rs : List Int) (i : Int) (w w' : World) : Prop := w.grownBy w' (some b) ∧ Strm w' b d rs i


theorem stepped_keep {b d : Nat} {rs : List Int} {i : Int} {w w' : World} (h : Strm w b d rs i) (g : w.grownBy w' none) : Stepped b d rs i w w' :=
  ⟨⟨g.os, g.tape, g.output, g.size, fun k hk _ => g.block k hk (by simp)⟩, h.keep g⟩


theorem textall (b d : Nat) (rs : List Int) (i : Int) (w : World) (h : Strm w b d rs i) :
    Calls Tryd.prog 32 #[.pointer (some ⟨b, 0, none⟩)] w fun e w' => e = .returned (.string (runesBytes rs)) ∧ w = w' := by
  obtain ⟨c, _, hc⟩ := h.c2
  exact text_all b d rs.length c rs w rfl hc h.rc

set_option maxHeartbeats 400000 in
theorem step_index (b d : Nat) (rs : List Int) (i x y : Int) (tv : Value) (w : World) (h : Strm w b d rs i) :
    Calls Tryd.prog 15 #[.pointer (some ⟨b, 0, none⟩), .agg #[.int .u8 4, .int .i64 x, .int .i64 y, tv]] w fun e w' =>
      e = .returned (.agg #[.int .i64 i, .string ⟨#[]⟩, .slice none 0 0, .bool false]) ∧ Stepped b d rs i w w' := by
  have hmf : ∀ (fn : Fn) (first cap : Array Value) (w : World), (Instr.makeFunc fn first cap).run Tryd.prog w = .ok (.func fn first cap) w := fun _ _ _ _ => rfl
  have lt := h.lt
  have c1 : ∀ w', w.grownBy w' none → Strm w' b d rs i := fun w' g => h.keep g
  have H := hid h
  have C := hid c1
  clear h c1
  go_enter_defers Tryd.func15, Tryd.ntmps15
  go_wp2_with (go_at_call 27; refine (index_any b i _ (C.out _ (gb_alloc (gb_alloc (gb_refl _) _) _)).c1).mono ?_; rintro e w' ⟨rfl, rfl⟩)
  refine leaves_cons (f := 21) (args := #[.pointer (some ⟨w.heap.size + 1, 0, none⟩)]) (by simp) (by simp [go_sem]) ?_
  refine (catch_idle ⟨w.heap.size + 1, 0, none⟩ _).mono ?_
  rintro e u' w'' ⟨rfl, rfl, rfl⟩
  simp [Leaves, settle, results, Tryd.results15, go_sem]
  exact stepped_keep H.out (gb_alloc (gb_alloc (gb_refl _) _) _)

set_option maxHeartbeats 400000 in
theorem step_size (b d : Nat) (rs : List Int) (i x y : Int) (tv : Value) (w : World) (h : Strm w b d rs i) :
    Calls Tryd.prog 15 #[.pointer (some ⟨b, 0, none⟩), .agg #[.int .u8 5, .int .i64 x, .int .i64 y, tv]] w fun e w' =>
      e = .returned (.agg #[.int .i64 rs.length, .string ⟨#[]⟩, .slice none 0 0, .bool false]) ∧ Stepped b d rs i w w' := by
  have hmf : ∀ (fn : Fn) (first cap : Array Value) (w : World), (Instr.makeFunc fn first cap).run Tryd.prog w = .ok (.func fn first cap) w := fun _ _ _ _ => rfl
  have lt := h.lt
  have c1 : ∀ w', w.grownBy w' none → Strm w' b d rs i := fun w' g => h.keep g
  have H := hid h
  have C := hid c1
  clear h c1
  go_enter_defers Tryd.func15, Tryd.ntmps15
  go_wp2_with (go_at_call 28; refine (size_any b rs.length _ (C.out _ (gb_alloc (gb_alloc (gb_refl _) _) _)).c3).mono ?_; rintro e w' ⟨rfl, rfl⟩)
  refine leaves_cons (f := 21) (args := #[.pointer (some ⟨w.heap.size + 1, 0, none⟩)]) (by simp) (by simp [go_sem]) ?_
  refine (catch_idle ⟨w.heap.size + 1, 0, none⟩ _).mono ?_
  rintro e u' w'' ⟨rfl, rfl, rfl⟩
  simp [Leaves, settle, results, Tryd.results15, go_sem]
  exact stepped_keep H.out (gb_alloc (gb_alloc (gb_refl _) _) _)

set_option maxHeartbeats 400000 in
theorem step_all (b d : Nat) (rs : List Int) (i x y : Int) (tv : Value) (w : World) (h : Strm w b d rs i) :
    Calls Tryd.prog 15 #[.pointer (some ⟨b, 0, none⟩), .agg #[.int .u8 8, .int .i64 x, .int .i64 y, tv]] w fun e w' =>
      e = .returned (.agg #[.int .i64 0, .string (runesBytes rs), .slice none 0 0, .bool false]) ∧ Stepped b d rs i w w' := by
  have hmf : ∀ (fn : Fn) (first cap : Array Value) (w : World), (Instr.makeFunc fn first cap).run Tryd.prog w = .ok (.func fn first cap) w := fun _ _ _ _ => rfl
  have lt := h.lt
  have c1 : ∀ w', w.grownBy w' none → Strm w' b d rs i := fun w' g => h.keep g
  have H := hid h
  have C := hid c1
  clear h c1
  go_enter_defers Tryd.func15, Tryd.ntmps15
  go_wp2_with (go_at_call 32; refine (textall b d rs i _ (C.out _ (gb_alloc (gb_alloc (gb_refl _) _) _))).mono ?_; rintro e w' ⟨rfl, rfl⟩)
  refine leaves_cons (f := 21) (args := #[.pointer (some ⟨w.heap.size + 1, 0, none⟩)]) (by simp) (by simp [go_sem]) ?_
  refine (catch_idle ⟨w.heap.size + 1, 0, none⟩ _).mono ?_
  rintro e u' w'' ⟨rfl, rfl, rfl⟩
  simp [Leaves, settle, results, Tryd.results15, go_sem]
  exact stepped_keep H.out (gb_alloc (gb_alloc (gb_refl _) _) _)

set_option maxHeartbeats 400000 in
theorem step_mark (b d : Nat) (rs : List Int) (i x y : Int) (tv : Value) (w : World) (h : Strm w b d rs i) :
    Calls Tryd.prog 15 #[.pointer (some ⟨b, 0, none⟩), .agg #[.int .u8 3, .int .i64 x, .int .i64 y, tv]] w fun e w' =>
      e = .returned (.agg #[.int .i64 0, .string ⟨#[]⟩, .slice none 0 0, .bool false]) ∧ Stepped b d rs i w w' := by
  have hmf : ∀ (fn : Fn) (first cap : Array Value) (w : World), (Instr.makeFunc fn first cap).run Tryd.prog w = .ok (.func fn first cap) w := fun _ _ _ _ => rfl
  have lt := h.lt
  have H := hid h
  clear h
  go_enter_defers Tryd.func15, Tryd.ntmps15
  go_wp2_with (first | (go_at_call 26; refine (mark_any _ _).mono ?_; rintro e w' ⟨rfl, rfl⟩) | (go_at_call 25; refine (release_any _ _ _).mono ?_; rintro e w' ⟨rfl, rfl⟩))
  refine leaves_cons (f := 21) (args := #[.pointer (some ⟨w.heap.size + 1, 0, none⟩)]) (by simp) (by simp [go_sem]) ?_
  refine (catch_idle ⟨w.heap.size + 1, 0, none⟩ _).mono ?_
  rintro e u' w'' ⟨rfl, rfl, rfl⟩
  simp [Leaves, settle, results, Tryd.results15, go_sem]
  exact stepped_keep H.out (gb_alloc (gb_alloc (gb_refl _) _) _)

set_option maxHeartbeats 400000 in
theorem step_text (b d : Nat) (rs : List Int) (i : Int) (x y : Nat) (tv : Value) (w : World) (h : Strm w b d rs i) (hxy : x ≤ y) (hy : y < rs.length) :
    Calls Tryd.prog 15 #[.pointer (some ⟨b, 0, none⟩), .agg #[.int .u8 6, .int .i64 x, .int .i64 y, tv]] w fun e w' =>
      e = .returned (.agg #[.int .i64 0, .string (runesBytes ((rs.drop x).take (y + 1 - x))), .slice none 0 0, .bool false]) ∧ Stepped b d rs i w w' := by
  have hmf : ∀ (fn : Fn) (first cap : Array Value) (w : World), (Instr.makeFunc fn first cap).run Tryd.prog w = .ok (.func fn first cap) w := fun _ _ _ _ => rfl
  have lt := h.lt
  have n := h.n
  have key : ∀ w', w.grownBy w' none → Calls Tryd.prog 29 #[.pointer (some ⟨b, 0, none⟩), .int .i64 x, .int .i64 y] w' fun e w'' => e = .returned (.string (runesBytes ((rs.drop x).take (y + 1 - x)))) ∧ w' = w'' := fun w' g => by
    have k := h.keep g
    obtain ⟨c, hc, hcc⟩ := k.c2
    exact gettext_in b d x y rs.length c rs w' hxy hy k.n hc rfl hcc k.c3 k.rc
  have H := hid h
  have C := hid key
  clear h key
  go_enter_defers Tryd.func15, Tryd.ntmps15
  go_wp2_with (go_at_call 29; refine (C.out _ (gb_alloc (gb_alloc (gb_refl _) _) _)).mono ?_; rintro e w' ⟨rfl, rfl⟩)
  refine leaves_cons (f := 21) (args := #[.pointer (some ⟨w.heap.size + 1, 0, none⟩)]) (by simp) (by simp [go_sem]) ?_
  refine (catch_idle ⟨w.heap.size + 1, 0, none⟩ _).mono ?_
  rintro e u' w'' ⟨rfl, rfl, rfl⟩
  simp [Leaves, settle, results, Tryd.results15, go_sem]
  exact stepped_keep H.out (gb_alloc (gb_alloc (gb_refl _) _) _)

set_option maxHeartbeats 400000 in
theorem step_ival (b d : Nat) (rs : List Int) (i : Int) (x y : Nat) (tv : Value) (w : World) (h : Strm w b d rs i) (hxy : x ≤ y) (hy : y < rs.length) :
    Calls Tryd.prog 15 #[.pointer (some ⟨b, 0, none⟩), .agg #[.int .u8 7, .int .i64 x, .int .i64 y, tv]] w fun e w' =>
      e = .returned (.agg #[.int .i64 0, .string (runesBytes ((rs.drop x).take (y + 1 - x))), .slice none 0 0, .bool false]) ∧ Stepped b d rs i w w' := by
  have hmf : ∀ (fn : Fn) (first cap : Array Value) (w : World), (Instr.makeFunc fn first cap).run Tryd.prog w = .ok (.func fn first cap) w := fun _ _ _ _ => rfl
  have lt := h.lt
  have n := h.n
  have key : ∀ w', w.grownBy w' none → Calls Tryd.prog 30 #[.pointer (some ⟨b, 0, none⟩), .agg #[.int .i64 x, .int .i64 y]] w' fun e w'' => e = .returned (.string (runesBytes ((rs.drop x).take (y + 1 - x)))) ∧ w'.alloc (.cells #[.int .i64 x, .int .i64 y] 65) = w'' := fun w' g => by
    have k := h.keep g
    obtain ⟨c, hc, hcc⟩ := k.c2
    exact textival_in b d x y rs.length c rs w' hxy hy k.n hc rfl k.lt k.dlt hcc k.c3 k.rc
  have H := hid h
  have C := hid key
  clear h key
  go_enter_defers Tryd.func15, Tryd.ntmps15
  go_wp2_with (first | (go_at_call 31; refine (newinterval _ _ _).mono ?_; rintro e w' ⟨rfl, rfl⟩) | (go_at_call 30; refine (C.out _ (gb_alloc (gb_alloc (gb_alloc (gb_refl _) _) _) _)).mono ?_; rintro e w' ⟨rfl, rfl⟩))
  refine leaves_cons (f := 21) (args := #[.pointer (some ⟨w.heap.size + 1, 0, none⟩)]) (by simp) (by simp [go_sem]) ?_
  refine (catch_idle ⟨w.heap.size + 1, 0, none⟩ _).mono ?_
  rintro e u' w'' ⟨rfl, rfl, rfl⟩
  simp [Leaves, settle, results, Tryd.results15, go_sem]
  exact stepped_keep H.out (gb_alloc (gb_alloc (gb_alloc (gb_alloc (gb_refl _) _) _) _) _)

end Go.Proofs.YtcakbheoibaiiaaDoor
