/- walks: two lists of answers that are the same -/
import Derived.Test.YtcakbheoibaiiaaDoorQ
namespace Go.Proofs.YtcakbheoibaiiaaDoor
open Go.RowKit

def OutRow (w : World) (g : Nat) (os : List Out) : Prop := ∀ k o, os[k]? = some o → w.cell? ⟨g, k * 4, none⟩ = some (.int .i64 o.num) ∧ w.cell? ⟨g, k * 4 + 1, none⟩ = some (.string o.text) ∧ w.cell? ⟨g, k * 4 + 2, none⟩ = some (.slice none 0 0) ∧ w.cell? ⟨g, k * 4 + 3, none⟩ = some (.bool o.pan)

theorem outCells_get (ss : List Out) : ∀ (k : Nat) (s : Out), ss[k]? = some s → ∀ j, j < 4 → (outCells ss)[k * 4 + j]? = s.cells[j]? := by
  induction ss with
  | nil => intro k s h; simp at h
  | cons t r ih =>
    intro k s h j hj
    have hc : outCells (t :: r) = t.cells ++ outCells r := rfl
    have hl : t.cells.length = 4 := rfl
    rw [hc]
    cases k with
    | zero =>
      simp at h
      subst h
      rw [List.getElem?_append_left (by omega)]
      simp
    | succ k =>
      rw [List.getElem?_append_right (by omega), hl]
      have e : (k + 1) * 4 + j - 4 = k * 4 + j := by omega
      rw [e]
      exact ih k s (by simpa using h) j hj

theorem outRow_own {w : World} {base g c : Nat} {t : TypeId} {os : List Out} (h : w.ownsRow base t 4 (.slice (some ⟨g, 0, none⟩) os.length c) os.length (outCells os)) : OutRow w g os := by
  intro k s hk
  have hkl : k < os.length := (List.getElem?_eq_some_iff.1 hk).1
  have c : ∀ j, j < 4 → w.cell? ⟨g, k * 4 + j, none⟩ = s.cells[j]? := fun j hj => (h.cellAt _ (by omega)).trans (outCells_get os k s hk j hj)
  exact ⟨c 0 (by omega), c 1 (by omega), c 2 (by omega), c 3 (by omega)⟩

set_option maxHeartbeats 400000 in
theorem eqf_nil (A B : Option Addr) (c d : Nat) (fv : Value) (w : World) :
    Calls Tryd.prog 17 #[.slice A 0 c, .slice B 0 d, fv] w fun e w' => e = .returned (.bool true) ∧ Below w.heap.size w w' := by
  go_enter Tryd.func17, Tryd.ntmps17
  go_wp2_with fail
  refine wp_loop_rounds 1 ?_
  rw [rounds_succ]
  go_wp2_with fail
  go_ret
  exact ⟨rfl, Below.refl _ _⟩

set_option maxHeartbeats 800000 in
theorem eqf_same (g1 g2 c1 c2 : Nat) (os : List Out) (w : World) (hg1 : g1 < w.heap.size) (hg2 : g2 < w.heap.size) (h1 : OutRow w g1 os) (h2 : OutRow w g2 os) (hn : os.length ≤ 1000000) :
    Calls Tryd.prog 17 #[.slice (some ⟨g1, 0, none⟩) os.length c1, .slice (some ⟨g2, 0, none⟩) os.length c2, .func (.func 18) #[] #[]] w fun e w' => e = .returned (.bool true) ∧ Below w.heap.size w w' := by
  generalize hN : os.length = N at hn ⊢
  have H1 := hid h1
  have H2 := hid h2
  have HN := hid hN
  clear h1 h2 hN
  go_enter Tryd.func17, Tryd.ntmps17
  go_wp2_with fail
  go_loopg [17] N (fun k i wr => ∃ j : Nat, j + k = N ∧ i = .int .i64 j ∧ Below w.heap.size w wr)
  case atStart => exact ⟨0, by omega, rfl, Below.refl _ _⟩
  case round =>
    obtain ⟨j, hj, rfl, hb⟩ := hrel
    by_cases hlt : j < N
    · obtain ⟨o, ho⟩ : ∃ o, os[j]? = some o := ⟨os[j]'(by have := HN.out; omega), List.getElem?_eq_getElem _⟩
      obtain ⟨p0, p1, p2, p3⟩ := H1.out j o ho
      obtain ⟨q0, q1, q2, q3⟩ := H2.out j o ho
      have r0 := (hb.cell (p := ⟨g1, j * 4, none⟩) hg1).trans p0
      have r1 := (hb.cell (p := ⟨g1, j * 4 + 1, none⟩) hg1).trans p1
      have r2 := (hb.cell (p := ⟨g1, j * 4 + 2, none⟩) hg1).trans p2
      have r3 := (hb.cell (p := ⟨g1, j * 4 + 3, none⟩) hg1).trans p3
      have t0 := (hb.cell (p := ⟨g2, j * 4, none⟩) hg2).trans q0
      have t1 := (hb.cell (p := ⟨g2, j * 4 + 1, none⟩) hg2).trans q1
      have t2 := (hb.cell (p := ⟨g2, j * 4 + 2, none⟩) hg2).trans q2
      have t3 := (hb.cell (p := ⟨g2, j * 4 + 3, none⟩) hg2).trans q3
      have hbs := hb.size
      have HB := hid hb
      have hlt1 : g1 < wr.heap.size := by omega
      have hlt2 : g2 < wr.heap.size := by omega
      clear p0 p1 p2 p3 q0 q1 q2 q3 ho hb
      go_wp2_with (go_at_call 18; refine (seen1_same o _).mono ?_; rintro e w2 ⟨rfl, hb2⟩)
      go_roundg (gk - 1)
      case measure => omega
      case rel => exact ⟨j + 1, by omega, by go_num, ((HB.out.alloc hbs _).alloc (by simp; omega) _).trans (hb2.mono (by simp; omega))⟩
    · go_wp2_with fail
      go_ret
      exact ⟨rfl, hb⟩

/-- answers that are the same are told as the same -/
theorem seen_same (v1 v2 : Value) (os : List Out) (b1 b2 : Nat) (w : World) (h1 : w.ownsRow b1 34 4 v1 os.length (outCells os)) (h2 : w.ownsRow b2 47 4 v2 os.length (outCells os)) (hn : os.length ≤ 1000000) :
    Calls Tryd.prog 17 #[v1, v2, .func (.func 18) #[] #[]] w fun e w' => e = .returned (.bool true) ∧ Below w.heap.size w w' := by
  by_cases h0 : 0 < os.length
  · obtain ⟨g1, c1, rfl, _, l1⟩ := h1.form h0
    obtain ⟨g2, c2, rfl, _, l2⟩ := h2.form h0
    exact eqf_same g1 g2 c1 c2 os w l1 l2 (outRow_own h1) (outRow_own h2) hn
  · have hz : os.length = 0 := by omega
    rw [hz] at h1 h2
    have f : ∀ {b : Nat} {t : TypeId} {v : Value} {xs : List Value}, w.ownsRow b t 4 v 0 xs → ∃ A c, v = .slice A 0 c := by
      intro b t v xs h
      rcases h.2 with ⟨rfl, _⟩ | ⟨g, cap, cur, rfl, _⟩
      · exact ⟨_, _, rfl⟩
      · exact ⟨_, _, rfl⟩
    obtain ⟨A, c, rfl⟩ := f h1
    obtain ⟨B, d, rfl⟩ := f h2
    exact eqf_nil A B c d _ w

set_option maxHeartbeats 400000 in
theorem seenis_same (v1 v2 : Value) (os : List Out) (b1 b2 : Nat) (w : World) (h1 : w.ownsRow b1 34 4 v1 os.length (outCells os)) (h2 : w.ownsRow b2 47 4 v2 os.length (outCells os)) (hn : os.length ≤ 1000000) :
    Calls Tryd.prog 11 #[v1, v2] w fun e w' => e = .returned (.bool true) ∧ Below w.heap.size w w' := by
  have H := hid (seen_same v1 v2 os b1 b2 w h1 h2 hn)
  clear h1 h2
  go_enter Tryd.func11, Tryd.ntmps11
  go_wp2_with (go_at_call 17; refine H.out.mono ?_; rintro e w2 ⟨rfl, hb2⟩)
  go_ret
  exact ⟨rfl, hb2⟩
end Go.Proofs.YtcakbheoibaiiaaDoor
