/- the bit set: add, remove -/
import Derived.Test.YtifoeehfblddcaaDoorE
namespace Go.Proofs.YtifoeehfblddcaaDoor
open Go.RowKit

theorem heap_set {w : World} {g : Nat} {c : Array Value} {t : TypeId} {fr : Nat × Nat} (h : w.heap[g]? = some (.cells c t fr)) (k : Nat) (u : Value) :
    (w.setCell ⟨g, k, none⟩ u).heap[g]? = some (.cells (c.setIfInBounds k u) t fr) := by
  simp [World.setCell, Array.getElem?_modify, h]

theorem or_val (x k : Nat) (hx : x < 18446744073709551616) (hk : k < 64) : bits BinOp.or IntKind.u64 (x : Int) ((2 ^ k : Nat) : Int) = ((x ||| 2 ^ k : Nat) : Int) := by
  have h : 2 ^ k < 2 ^ 64 := Nat.pow_lt_pow_right (by decide) hk
  exact u64_or_nat x _ hx (by omega)

set_option maxRecDepth 100000 in
set_option maxHeartbeats 800000 in
theorem add_in (b d c v m x k : Nat) (lenw : Nat) (w : World) (hv : v ≤ 1000) (hx : x < 18446744073709551616) (hidx : v / 64 = k) (hm : v % 64 = m) (hk : k < lenw) (hl : lenw ≤ 4) (hlc : lenw ≤ c) (hc4 : c ≤ 4) (hc : w.cell? ⟨b, 0, none⟩ = some (.slice (some ⟨d, 0, none⟩) lenw c))
    (hcell : w.cell? ⟨d, k, none⟩ = some (.int .u64 (x : Int))) (hfr : w.frozen? ⟨d, k, none⟩ = false) :
    Calls Tryd.prog 33 #[.pointer (some ⟨b, 0, none⟩), .int .i64 v] w fun e w' => e = .returned (.tuple #[]) ∧ w' = w.drew.setCell ⟨d, k, none⟩ (.int .u64 ((x ||| 2 ^ m : Nat) : Int)) := by
  have hm64 : m < 64 := by omega
  rw [← or_val x m hx hm64]
  have h1 : decide ((lenw : Int) ≤ (k : Int)) = false := by simp; omega
  have hi2 : ∀ w, Calls Tryd.prog 54 #[.int .i64 v] w fun e w' => e = .returned (.int .i64 (k : Int)) ∧ w = w' := fun w => hidx ▸ index_any v w hv
  have hm2 : ∀ w, Calls Tryd.prog 56 #[.int .i64 v] w fun e w' => e = .returned (.int .u64 ((2 ^ m : Nat) : Int)) ∧ w' = w := fun w => hm ▸ (mask_any v w hv).mono fun _ _ ⟨a, b⟩ => ⟨a, b.symm⟩
  generalize ((2 ^ m : Nat) : Int) = mm at *
  have HI := hid hi2
  have HM := hid hm2
  have hjN : (k : Int) < (lenw : Int) := by omega
  have hj0 : (0 : Int) ≤ (k : Int) := by omega
  clear hi2 hm2 hidx hm
  go_enter Tryd.func33, Tryd.ntmps33
  go_wp2_with (go_at_call 54; refine (HI.out _).mono ?_; rintro e w' ⟨rfl, rfl⟩)
  go_still_tail 11, (by kernel_rfl)
  still_call (HM.out _)
  repeat still_step
  refine wpStill_nil ?_
  change wpList _ _ _ _ _ w.drew
  go_wp2_with fail
  go_end0
  exact ⟨rfl, rfl⟩

theorem info98 : (Tryd.prog.info? 98).map (fun i => (i.zero, i.size, i.bytes)) = some (some (.int .u64 0), 1, 8) := by kernel_rfl
theorem size98 : (Tryd.prog.info? 98).map (·.size) = some 1 := by kernel_rfl

/-- words, and zeros behind them, n in all -/
def growW (ws : List Nat) (n : Nat) : List Nat := ws ++ List.replicate (n - ws.length) 0

theorem splice_grow (ws : List Nat) (n : Nat) (h : ws.length ≤ n) : splice (List.replicate n (Value.int .u64 0)) 0 (wcells ws) = wcells (growW ws n) := by
  simp [splice, wcells, growW, List.drop_replicate]

theorem growW_len (ws : List Nat) (n : Nat) (h : ws.length ≤ n) : (growW ws n).length = n := by simp [growW]; omega
theorem growW_get (ws : List Nat) (n j : Nat) : (growW ws n).getD j 0 = ws.getD j 0 := by
  unfold growW
  simp only [List.getD_eq_getElem?_getD]
  by_cases h : j < ws.length
  · rw [List.getElem?_append_left h]
  · rw [List.getElem?_append_right (by omega), List.getElem?_eq_none (l := ws) (by omega)]
    rw [List.getElem?_replicate]
    split <;> rfl

/-- a new row, and the words copied into it -/
theorem copy_grow (n c : Nat) (A : Option Addr) (ws : List Nat) (w : World) (hk : ws.length ≤ n)
    (hrow : 0 < ws.length → ∃ d, A = some ⟨d, 0, none⟩ ∧ d < w.heap.size ∧ ∀ j, j < ws.length → w.cell? ⟨d, j, none⟩ = some (.int .u64 ((ws.getD j 0 : Nat) : Int))) :
    ∃ w2, (Builtin.copy_ #[94, 94] 3 #[.slice (some ⟨w.heap.size, 0, none⟩) n n, .slice A ws.length c]).run Tryd.prog (w.alloc (.cells (madeCells #[.int .u64 0] n) 98)) = .ok (.int .i64 ws.length) w2 ∧
      w2.heap[w.heap.size]? = some (.cells (wcells (growW ws n)).toArray 98 (0, 0)) ∧ Below w.heap.size w w2 := by
  have hbel : Below w.heap.size w (w.alloc (.cells (madeCells #[.int .u64 0] n) 98)) := (Below.refl _ _).alloc (Nat.le_refl _) _
  have hnewc : (w.alloc (.cells (madeCells #[.int .u64 0] n) 98)).heap[w.heap.size]? = some (.cells (List.replicate n (Value.int .u64 0)).toArray 98 (0, 0)) := by
    have e : madeCells #[Value.int .u64 0] n = (List.replicate n (Value.int .u64 0)).toArray := by rw [← toList_madeCells_one]
    rw [e]
    show (w.heap.push _)[w.heap.size]? = _
    exact Array.getElem?_push_size
  have hlen : (wcells ws).length = ws.length := by simp [wcells]
  by_cases h0 : ws.length = 0
  · refine ⟨_, ?_, ?_, hbel⟩
    · rw [run_copy_none (P := Tryd.prog) _ 94 94 3 98 _ _ _ _ _ _ Tryd.underlying94 size98 (by rw [h0]; exact Nat.zero_min n), h0]; rfl
    · obtain rfl := List.eq_nil_of_length_eq_zero h0
      rw [hnewc, ← splice_grow [] n (by simp)]
      simp [splice, wcells]
  · obtain ⟨d, rfl, hd, hcs⟩ := hrow (by omega)
    have hsrc : ∀ j u, (wcells ws)[j]? = some u → (w.alloc (.cells (madeCells #[.int .u64 0] n) 98)).cell? ((⟨d, 0, none⟩ : Addr).add j) = some u := by
      intro j u hj
      have hjl : j < ws.length := by rw [← hlen]; exact (List.getElem?_eq_some_iff.1 hj).1
      have e : (⟨d, 0, none⟩ : Addr).add j = ⟨d, j, none⟩ := by simp [Addr.add]; exact fun h => h.symm
      rw [e, hbel.cell (p := ⟨d, j, none⟩) hd, hcs j hjl, ← hj]
      simp [wcells, hjl]
    have hone : ∀ v ∈ wcells ws, v.oneCell' = true := by
      intro v hv
      obtain ⟨x, _, rfl⟩ := List.mem_map.1 hv
      rfl
    have hrun := run_copy_row (P := Tryd.prog) _ 94 94 3 98 w.heap.size 0 n n ⟨d, 0, none⟩ ws.length c _ 98 (wcells ws) Tryd.underlying94 size98 hnewc (by rw [hlen]; exact (Nat.min_eq_left hk).symm) hsrc (by simp [hlen]; omega) hone
    refine ⟨_, hrun.trans (by rw [hlen]; rfl), ?_, ?_⟩
    · rw [← splice_grow ws n hk, setRow_heap _ _ _ _ _ _ hnewc]
      simp [splice]
      rw [hlen]
    · exact below_setRow hbel (Nat.le_refl _) _

set_option maxRecDepth 100000 in
set_option maxHeartbeats 1600000 in
theorem add_grow (b v m k n c : Nat) (A : Option Addr) (ws : List Nat) (w : World) (hv : v ≤ 1000) (hidx : v / 64 = k) (hm : v % 64 = m) (hk : ws.length ≤ k) (hn : n = k + 1) (hn4 : n ≤ 4) (hlc : ws.length ≤ c) (hc4 : c ≤ 4) (hb : b < w.heap.size) (hc : w.cell? ⟨b, 0, none⟩ = some (.slice A ws.length c))
    (hrow : 0 < ws.length → ∃ d, A = some ⟨d, 0, none⟩ ∧ d < w.heap.size ∧ ∀ j, j < ws.length → w.cell? ⟨d, j, none⟩ = some (.int .u64 ((ws.getD j 0 : Nat) : Int))) (hfr : w.frozen? ⟨b, 0, none⟩ = false) :
    Calls Tryd.prog 33 #[.pointer (some ⟨b, 0, none⟩), .int .i64 v] w fun e w' => e = .returned (.tuple #[]) ∧ ∃ w2 g, g = w.heap.size ∧ w2.heap[g]? = some (.cells (wcells (growW ws n)).toArray 98 (0, 0)) ∧ Below w.heap.size w w2 ∧
      w' = ((w2.setCell ⟨b, 0, none⟩ (.slice (some ⟨g, 0, none⟩) n n)).drew.setCell ⟨g, k, none⟩ (.int .u64 ((0 ||| 2 ^ m : Nat) : Int))) := by
  have hm64 : m < 64 := by omega
  rw [← or_val 0 m (by decide) hm64]
  have h1 : decide ((ws.length : Int) ≤ (k : Int)) = true := by simp; omega
  have hi2 : ∀ w, Calls Tryd.prog 54 #[.int .i64 v] w fun e w' => e = .returned (.int .i64 (k : Int)) ∧ w = w' := fun w => hidx ▸ index_any v w hv
  have hw2 : ∀ w, Calls Tryd.prog 55 #[.int .i64 v] w fun e w' => e = .returned (.int .i64 (n : Int)) ∧ w = w' := fun w => by rw [hn, ← hidx]; exact words_any v w hv
  have hm2 : ∀ w, Calls Tryd.prog 56 #[.int .i64 v] w fun e w' => e = .returned (.int .u64 ((2 ^ m : Nat) : Int)) ∧ w' = w := fun w => hm ▸ (mask_any v w hv).mono fun _ _ ⟨a, b⟩ => ⟨a, b.symm⟩
  have hmk := fun W => run_make_row' (P := Tryd.prog) 94 98 (.int .u64 0) 8 Tryd.underlying94 info98 rfl .i64 .i64 n (by omega) (by omega) W
  generalize ((2 ^ m : Nat) : Int) = mm at *
  have HI := hid hi2
  have HW := hid hw2
  have HM := hid hm2
  have hjN : (k : Int) < (n : Int) := by omega
  have hj0 : (0 : Int) ≤ (k : Int) := by omega
  obtain ⟨w2, hcopy, hg3, hb2⟩ := copy_grow n c A ws w (by omega) hrow
  have hc2 := (hb2.cell (p := ⟨b, 0, none⟩) hb).trans hc
  have hf2 := (hb2.frozen (p := ⟨b, 0, none⟩) hb).trans hfr
  have hcell2 : w2.cell? ⟨w.heap.size, k, none⟩ = some (.int .u64 0) := by
    rw [wcell hg3 k (by rw [growW_len ws n (by omega)]; omega), growW_get, List.getD_eq_getElem?_getD, List.getElem?_eq_none (by omega)]; rfl
  have hfz2 := wfroz hg3 k
  have HG3 := hid hg3
  have HB2 := hid hb2
  have hne : b ≠ w.heap.size := by omega
  have hne' : w.heap.size ≠ b := by omega
  have hc3 : (w2.setCell ⟨b, 0, none⟩ (.slice (some ⟨w.heap.size, 0, none⟩) n n)).cell? ⟨b, 0, none⟩ = some (.slice (some ⟨w.heap.size, 0, none⟩) n n) := by simp [go_sem, hc2]
  have hcell3 : (w2.setCell ⟨b, 0, none⟩ (.slice (some ⟨w.heap.size, 0, none⟩) n n)).cell? ⟨w.heap.size, k, none⟩ = some (.int .u64 0) := by
    rw [World.cell?_setCell_other w2 _ _ _ (by simp [hne'])]; exact hcell2
  have hfz3 : (w2.setCell ⟨b, 0, none⟩ (.slice (some ⟨w.heap.size, 0, none⟩) n n)).frozen? ⟨w.heap.size, k, none⟩ = false := by simp [go_sem, hfz2]
  clear hi2 hw2 hm2 hidx hm hrow hg3 hb2 hn hcell2 hfz2
  go_enter Tryd.func33, Tryd.ntmps33
  go_wp2_with (first | (go_at_call 54; refine (HI.out _).mono ?_; rintro e w' ⟨rfl, rfl⟩) | (go_at_call 55; refine (HW.out _).mono ?_; rintro e w' ⟨rfl, rfl⟩))
  generalize hW3 : w2.setCell ⟨b, 0, none⟩ (.slice (some ⟨w.heap.size, 0, none⟩) n n) = w3 at *
  have HW3 := hid hW3
  clear hW3 hc2 hf2
  go_still_tail 11, (by kernel_rfl)
  still_call (HM.out _)
  repeat still_step
  refine wpStill_nil ?_
  change wpList _ _ _ _ _ w3.drew
  go_wp2_with fail
  go_end0
  exact ⟨rfl, w2, _, rfl, HG3.out, HB2.out, by rw [HW3.out]; rfl⟩

def addW (ws : List Nat) (v : Nat) : List Nat := (growW ws (v / 64 + 1)).set (v / 64) (ws.getD (v / 64) 0 ||| 2 ^ (v % 64))

theorem growW_same (ws : List Nat) (n : Nat) (h : n ≤ ws.length) : growW ws n = ws := by
  unfold growW; rw [Nat.sub_eq_zero_of_le h]; simp

theorem wcells_set (ws : List Nat) (k x : Nat) : (wcells ws).toArray.setIfInBounds k (.int .u64 (x : Int)) = (wcells (ws.set k x)).toArray := by
  simp [wcells, List.map_set]

theorem getD_set (ws : List Nat) (k x j : Nat) : (ws.set k x).getD j 0 = if k = j ∧ j < ws.length then x else ws.getD j 0 := by
  simp only [List.getD_eq_getElem?_getD, List.getElem?_set]
  by_cases h : k = j
  · subst h
    by_cases h2 : k < ws.length
    · simp [h2]
    · simp [h2]
  · simp [h]

theorem or_lt (x k : Nat) (hx : x < 18446744073709551616) (hk : k < 64) : x ||| 2 ^ k < 18446744073709551616 := by
  have h : 2 ^ k < 2 ^ 64 := Nat.pow_lt_pow_right (by decide) hk
  exact Nat.or_lt_two_pow (n := 64) hx h

theorem drew_heap (w : World) : w.drew.heap = w.heap := rfl

/-- what a step on a set at block b leaves alone: all but b and rows of words -/
def Fr (b : Nat) (w w' : World) : Prop := w.heap.size ≤ w'.heap.size ∧ ∀ t, t < w.heap.size → t ≠ b → (∀ c fr, w.heap[t]? ≠ some (.cells c 98 fr)) → w'.heap[t]? = w.heap[t]?

theorem Fr.trans {b : Nat} {w w1 w2 : World} (h : Fr b w w1) (k : Fr b w1 w2) : Fr b w w2 :=
  ⟨Nat.le_trans h.1 k.1, fun t ht hb hc => by
    have e := h.2 t ht hb hc
    rw [k.2 t (Nat.lt_of_lt_of_le ht h.1) hb (by rw [e]; exact hc), e]⟩
theorem Fr.of_below {b : Nat} {w w' : World} (h : Below w.heap.size w w') : Fr b w w' := ⟨h.size, fun t ht _ _ => h.block t ht⟩
theorem Fr.setb {b : Nat} (w : World) (k : Nat) (u : Value) : Fr b w (w.setCell ⟨b, k, none⟩ u) :=
  ⟨by simp [World.setCell], fun t _ hb _ => Below.heap_setCell _ _ _ _ (by simpa using hb)⟩
theorem Fr.setrow {b d : Nat} {w : World} {c : Array Value} {fr : Nat × Nat} (h : w.heap[d]? = some (.cells c 98 fr)) (k : Nat) (u : Value) : Fr b w (w.setCell ⟨d, k, none⟩ u) :=
  ⟨by simp [World.setCell], fun t _ _ hc => Below.heap_setCell _ _ _ _ (by rintro rfl; exact hc _ _ h)⟩
theorem Fr.setnew {b : Nat} {w0 w : World} (h : Fr b w0 w) {d : Nat} (hd : w0.heap.size ≤ d) (k : Nat) (u : Value) : Fr b w0 (w.setCell ⟨d, k, none⟩ u) :=
  ⟨by simpa [World.setCell] using h.1, fun t ht hb hc => (Below.heap_setCell _ _ _ _ (by simp; omega)).trans (h.2 t ht hb hc)⟩
theorem Fr.drew {b : Nat} {w0 w : World} (h : Fr b w0 w) : Fr b w0 w.drew := ⟨h.1, h.2⟩

theorem add_any {lo hi : Nat} {w : World} {b : Nat} {ws : List Nat} (h : Bset lo hi w b ws) (v : Nat) (hv : v ≤ 255) :
    Calls Tryd.prog 33 #[.pointer (some ⟨b, 0, none⟩), .int .i64 v] w fun e w' => e = .returned (.tuple #[]) ∧ Bset lo w'.heap.size w' b (addW ws v) ∧ Below lo w w' ∧ Fr b w w' := by
  have hm64 : v % 64 < 64 := Nat.mod_lt _ (by decide)
  have hblt := Nat.lt_of_lt_of_le h.blt h.top
  by_cases hl : ws.length ≤ v / 64
  · obtain ⟨A, d, c, hc, hcl, hc4, hA, hcells⟩ := h.read
    have hrow : 0 < ws.length → ∃ d, A = some ⟨d, 0, none⟩ ∧ d < w.heap.size ∧ ∀ j, j < ws.length → w.cell? ⟨d, j, none⟩ = some (.int .u64 ((ws.getD j 0 : Nat) : Int)) := by
      intro h0
      rcases h.row with ⟨rfl, _⟩ | ⟨_, d', c', h1, h2, h3, h4, h5, h6, h7⟩
      · simp at h0
      · rw [hc] at h6
        simp only [Option.some.injEq, Value.slice.injEq] at h6
        exact ⟨d', h6.1, Nat.lt_of_lt_of_le h2 h.top, fun j hj => wcell h7 j hj⟩
    refine (add_grow b v _ _ _ c A ws w (by omega) rfl rfl hl rfl (by omega) hcl hc4 hblt hc hrow h.fr).mono ?_
    rintro e w' ⟨rfl, w2, g, rfl, hg, hb2, rfl⟩
    have hlenG := growW_len ws (v / 64 + 1) (by omega)
    have hbs := hb2.size
    have hgs : w.heap.size < w2.heap.size := (Array.getElem?_eq_some_iff.1 hg).1
    have hle := h.ble
    have hg2 : ((w2.setCell ⟨b, 0, none⟩ (.slice (some ⟨w.heap.size, 0, none⟩) (v / 64 + 1) (v / 64 + 1))).drew).heap[w.heap.size]? = some (.cells (wcells (growW ws (v / 64 + 1))).toArray 98 (0, 0)) := by
      rw [drew_heap, Below.heap_setCell _ _ _ _ (by simp; omega)]
      exact hg
    have hb3 : ∃ t, ((w2.setCell ⟨b, 0, none⟩ (.slice (some ⟨w.heap.size, 0, none⟩) (v / 64 + 1) (v / 64 + 1))).drew).heap[b]? = some (.cells #[.slice (some ⟨w.heap.size, 0, none⟩) (v / 64 + 1) (v / 64 + 1)] t (0, 0)) := by
      obtain ⟨v0, t, ho⟩ := h.own
      exact ⟨t, heap_set ((hb2.block b hblt).trans ho) 0 _⟩
    obtain ⟨t, hb3⟩ := hb3
    have hs1 : ((w2.setCell ⟨b, 0, none⟩ (.slice (some ⟨w.heap.size, 0, none⟩) (v / 64 + 1) (v / 64 + 1))).drew).heap.size = w2.heap.size := by simp [World.setCell]
    have hbel : Below lo w ((w2.setCell ⟨b, 0, none⟩ (.slice (some ⟨w.heap.size, 0, none⟩) (v / 64 + 1) (v / 64 + 1))).drew) :=
      ((hb2.mono (by omega)).setCell hle _).drew
    have hfrm : Fr b w ((w2.setCell ⟨b, 0, none⟩ (.slice (some ⟨w.heap.size, 0, none⟩) (v / 64 + 1) (v / 64 + 1))).drew) :=
      ((Fr.of_below hb2).trans (Fr.setb w2 0 _)).drew
    generalize ((w2.setCell ⟨b, 0, none⟩ (.slice (some ⟨w.heap.size, 0, none⟩) (v / 64 + 1) (v / 64 + 1))).drew) = w3 at *
    have hs2 : (w3.setCell ⟨w.heap.size, v / 64, none⟩ (.int .u64 ((0 ||| 2 ^ (v % 64) : Nat) : Int))).heap.size = w3.heap.size := by simp [World.setCell]
    have hz : ws.getD (v / 64) 0 = 0 := by rw [List.getD_eq_getElem?_getD, List.getElem?_eq_none hl]; rfl
    have hb4 : (w3.setCell ⟨w.heap.size, v / 64, none⟩ (.int .u64 ((0 ||| 2 ^ (v % 64) : Nat) : Int))).heap[b]? = w3.heap[b]? := Below.heap_setCell _ _ _ _ (by simp; omega)
    have hg4 := heap_set hg2 (v / 64) (.int .u64 ((0 ||| 2 ^ (v % 64) : Nat) : Int))
    rw [wcells_set] at hg4
    refine ⟨rfl, ?_, hbel.setCell (by simp; omega) _, hfrm.setnew (Nat.le_refl _) _ _⟩
    generalize hw4 : w3.setCell ⟨w.heap.size, v / 64, none⟩ (.int .u64 ((0 ||| 2 ^ (v % 64) : Nat) : Int)) = w4 at *
    have haw : addW ws v = (growW ws (v / 64 + 1)).set (v / 64) (0 ||| 2 ^ (v % 64)) := by unfold addW; rw [hz]
    rw [haw]
    refine ⟨by omega, hle, Nat.le_refl _, ⟨_, t, hb4.trans hb3⟩, by simp [hlenG]; omega, ?_, .inr ⟨by simp [hlenG], w.heap.size, v / 64 + 1, by have := h.blt; have := h.top; omega, by omega, by omega, by simp [hlenG], by omega, ?_, hg4⟩⟩
    · intro j
      rw [getD_set]
      split
      · exact or_lt _ _ (by decide) hm64
      · rw [growW_get]; exact h.wd j
    · simp [World.cell?, hb4.trans hb3, hlenG]
  · rcases h.row with ⟨rfl, _⟩ | ⟨hpos, d, c, h1, h2, h3, h4, h5, h6, h7⟩
    · simp at hl
    · refine (add_in b d c v _ _ _ ws.length w (by omega) (h.wd _) rfl rfl (by omega) h.len h4 h5 h6 (wcell h7 _ (by omega)) (wfroz h7 _)).mono ?_
      rintro e w' ⟨rfl, rfl⟩
      have hg4 := heap_set (w := w.drew) h7 (v / 64) (.int .u64 ((ws.getD (v / 64) 0 ||| 2 ^ (v % 64) : Nat) : Int))
      rw [wcells_set] at hg4
      have hs2 : (w.drew.setCell ⟨d, v / 64, none⟩ (.int .u64 ((ws.getD (v / 64) 0 ||| 2 ^ (v % 64) : Nat) : Int))).heap.size = w.heap.size := by simp [World.setCell]
      have hb4 : (w.drew.setCell ⟨d, v / 64, none⟩ (.int .u64 ((ws.getD (v / 64) 0 ||| 2 ^ (v % 64) : Nat) : Int))).heap[b]? = w.heap[b]? := Below.heap_setCell _ _ _ _ (by simp; omega)
      refine ⟨rfl, ?_, ((Below.refl _ _).drew).setCell h1 _, (show Fr b w w.drew from ⟨Nat.le_refl _, fun _ _ _ _ => rfl⟩).trans (Fr.setrow (w := w.drew) h7 _ _)⟩
      have haw : addW ws v = ws.set (v / 64) (ws.getD (v / 64) 0 ||| 2 ^ (v % 64)) := by unfold addW; rw [growW_same ws _ (by omega)]
      rw [haw]
      generalize w.drew.setCell ⟨d, v / 64, none⟩ (.int .u64 ((ws.getD (v / 64) 0 ||| 2 ^ (v % 64) : Nat) : Int)) = w4 at *
      obtain ⟨v0, t, ho⟩ := h.own
      have htop := h.top
      refine ⟨by omega, h.ble, Nat.le_refl _, ⟨_, t, hb4.trans ho⟩, by simp [h.len], ?_, .inr ⟨by simp; exact hpos, d, c, h1, by omega, h3, by simp [h4], h5, ?_, hg4⟩⟩
      · intro j
        rw [getD_set]
        split
        · exact or_lt _ _ (h.wd _) hm64
        · exact h.wd j
      · rw [World.cell?_of_block (a := ⟨b, 0, none⟩) hb4, h6]; simp

end Go.Proofs.YtifoeehfblddcaaDoor
