/- walks: charsFit, charsAwake -/
import Derived.Test.YtcakbheoibaiiaaDoorK
import Derived.Test.YtcakbheoibaiiaaDoorV
namespace Go.Proofs.YtcakbheoibaiiaaDoor
open Go.RowKit

def Tabs (w : World) : Prop := Lib.Utf8Tabs (Tryd.laysValid_ren.g 3) (Tryd.laysValid_ren.g 4) w

theorem valid_any (s : ByteArray) (w : World) (hs : s.size ≤ 9223372036854775807) (hT : Tabs w) :
    Calls Tryd.prog 12 #[.string s] w fun e w' => e = .returned (.bool (Lib.validD s.data.toList)) ∧ Below w.heap.size w w' :=
  Any.utf8_ValidString Tryd.laysValid s w hs hT

/-- what charsFit answers -/
def fitsB (s : ByteArray) (n : Nat) : Bool := decide (s.size ≤ 200) && (Lib.validD s.data.toList && (plain s && decide (n ≤ 60)))

set_option maxHeartbeats 400000 in
theorem charsfit_any (s : ByteArray) (A : Option Addr) (n c : Nat) (w : World) (hs : s.size ≤ 2147483647) (hn : n ≤ 2147483647) (hT : Tabs w) :
    Calls Tryd.prog 5 #[.string s, .slice A n c] w fun e w' => e = .returned (.bool (fitsB s n)) ∧ Below w.heap.size w w' := by
  unfold fitsB
  by_cases h1 : s.size ≤ 200
  · rw [decide_eq_true h1, Bool.true_and]
    have h1z : decide ((s.size : Int) ≤ 200) = true := by simp; omega
    have cV := valid_any s w (by omega) hT
    cases hv : Lib.validD s.data.toList
    · rw [hv] at cV
      have CV := hid cV
      clear cV hv hT
      go_enter Tryd.func5, Tryd.ntmps5
      go_wp2_with (go_at_call 12; refine CV.out.mono ?_; rintro e w1 ⟨rfl, hb⟩)
      go_ret
      exact ⟨rfl, hb⟩
    · rw [hv] at cV
      have CV := hid cV
      clear cV hv hT
      have cC := fun W => characters_any s W (by omega)
      cases hp : plain s
      · rw [hp] at cC
        have CC := hid cC
        clear cC hp
        go_enter Tryd.func5, Tryd.ntmps5
        go_wp2_with (first | (go_at_call 12; refine CV.out.mono ?_; rintro e w1 ⟨rfl, hb⟩) | (go_at_call 13; refine (CC.out _).mono ?_; rintro e w2 ⟨rfl, hb2⟩))
        go_ret
        exact ⟨rfl, hb.trans (hb2.mono hb.size)⟩
      · rw [hp] at cC
        have CC := hid cC
        clear cC hp
        by_cases h2 : n ≤ 60
        · have h2z : decide ((n : Int) ≤ 60) = true := by simp; omega
          rw [decide_eq_true h2]
          go_enter Tryd.func5, Tryd.ntmps5
          go_wp2_with (first | (go_at_call 12; refine CV.out.mono ?_; rintro e w1 ⟨rfl, hb⟩) | (go_at_call 13; refine (CC.out _).mono ?_; rintro e w2 ⟨rfl, hb2⟩))
          go_ret
          exact ⟨rfl, hb.trans (hb2.mono hb.size)⟩
        · have h2z : decide ((n : Int) ≤ 60) = false := by simp; omega
          rw [decide_eq_false h2]
          go_enter Tryd.func5, Tryd.ntmps5
          go_wp2_with (first | (go_at_call 12; refine CV.out.mono ?_; rintro e w1 ⟨rfl, hb⟩) | (go_at_call 13; refine (CC.out _).mono ?_; rintro e w2 ⟨rfl, hb2⟩))
          go_ret
          exact ⟨rfl, hb.trans (hb2.mono hb.size)⟩
  · rw [decide_eq_false h1, Bool.false_and]
    have h1z : decide ((s.size : Int) ≤ 200) = false := by simp; omega
    go_enter Tryd.func5, Tryd.ntmps5
    go_wp2_with fail
    go_ret
    exact ⟨rfl, Below.refl _ _⟩

theorem stpCells_get (ss : List Stp) : ∀ (k : Nat) (s : Stp), ss[k]? = some s → ∀ j, j < 4 → (stpCells ss)[k * 4 + j]? = s.cells[j]? := by
  induction ss with
  | nil => intro k s h; simp at h
  | cons t r ih =>
    intro k s h j hj
    have hc : stpCells (t :: r) = t.cells ++ stpCells r := rfl
    have hl : t.cells.length = 4 := rfl
    rw [hc]
    cases k with
    | zero =>
      simp at h
      subst h
      rw [List.getElem?_append_left (by omega)]
      simp
    | succ k =>
      rw [List.getElem?_append_right (by omega), hl]
      have e : (k + 1) * 4 + j - 4 = k * 4 + j := by omega
      rw [e]
      exact ih k s (by simpa using h) j hj

theorem stepRow_of {w : World} {g : Nat} {ss : List Stp} (h : ∀ j, j < ss.length * 4 → w.cell? ⟨g, j, none⟩ = (stpCells ss)[j]?) : StepRow w g 0 ss := by
  intro k s hk
  have hkl : k < ss.length := (List.getElem?_eq_some_iff.1 hk).1
  have c : ∀ j, j < 4 → w.cell? ⟨g, k * 4 + j, none⟩ = s.cells[j]? := fun j hj => (h _ (by omega)).trans (stpCells_get ss k s hk j hj)
  have e : 0 + k * 4 = k * 4 := by omega
  rw [e]
  exact ⟨c 0 (by omega), c 1 (by omega), c 2 (by omega), c 3 (by omega)⟩

theorem stepRow_new (w : World) (ss : List Stp) (t : TypeId) : StepRow (w.alloc (.cells (stpCells ss).toArray t)) w.heap.size 0 ss :=
  stepRow_of fun j _ => by rw [World.cell?_alloc_mark]; simp

theorem stepRow_own {w : World} {base g c : Nat} {t : TypeId} {ss : List Stp} (h : w.ownsRow base t 4 (.slice (some ⟨g, 0, none⟩) ss.length c) ss.length (stpCells ss)) : StepRow w g 0 ss :=
  stepRow_of fun j hj => h.cellAt j hj

def abText : ByteArray := ⟨#[97, 98]⟩
theorem ab_runes : runes abText = [97, 98] := by decide
theorem ab_run : runSteps (runes abText) 0 [⟨0, 0, 0, none, 0, 0⟩, ⟨1, 1, 0, none, 0, 0⟩] = some [⟨0, ⟨#[]⟩, false⟩, ⟨98, ⟨#[]⟩, false⟩] := by
  rw [ab_runes]; simp [runSteps, stepTo, laOf]

set_option maxHeartbeats 400000 in
theorem awake_any (w : World) :
    Calls Tryd.prog 6 #[] w fun e w' => e = .returned (.bool true) ∧ Below w.heap.size w w' := by
  have key := chars_any abText w.heap.size 0 2 [⟨0, 0, 0, none, 0, 0⟩, ⟨1, 1, 0, none, 0, 0⟩] _ (w.alloc (.cells (stpCells [⟨0, 0, 0, none, 0, 0⟩, ⟨1, 1, 0, none, 0, 0⟩]).toArray 42)) (by decide) (by simp) (stepRow_new w _ 42) (by decide) ab_run
  unfold abText at key
  have KEY := hid key
  clear key
  go_enter Tryd.func6, Tryd.ntmps6
  go_wp2_with (go_at_call 7; refine KEY.out.mono ?_; rintro e w1 ⟨v, rfl, hown, hb⟩; obtain ⟨g3, cap3, rfl, hge3, hlt3⟩ := hown.form (by decide); have h4 : w1.cell? ⟨g3, 4, none⟩ = some (.int .i64 98) := (hown.cellAt 4 (by decide)).trans rfl; have HOWN := hid hown; clear hown)
  go_ret
  exact ⟨rfl, ((Below.refl _ _).alloc (Nat.le_refl _) _).trans (hb.mono (by simp))⟩
end Go.Proofs.YtcakbheoibaiiaaDoor
