/- four interval sets -/
import Derived.Test.YtifoeehfblddcaaDoorSA
import Derived.Test.YtifoeehfblddcaaDoorSC
namespace Go.Proofs.YtifoeehfblddcaaDoor
open Go.RowKit

/-- four interval sets: their blocks, their slices, their numbers -/
structure Four (lo : Nat) (w : World) (B : Nat → Nat) (V : Nat → Value) (F : FS) : Prop where
  set : ∀ i, i < 4 → Iset lo w (B i) (V i) (runsI (F i) 141)
  ne : ∀ i j, i < 4 → j < 4 → i ≠ j → B i ≠ B j
  own : ∀ i j, i < 4 → j < 4 → i ≠ j → (V i).ownBlock = none ∨ (V i).ownBlock ≠ (V j).ownBlock

def updV (V : Nat → Value) (i : Nat) (v : Value) : Nat → Value := fun k => if k = i then v else V k

theorem Four.keep {lo : Nat} {w w' : World} {B : Nat → Nat} {V : Nat → Value} {F : FS} (h : Four lo w B V F) (hb : Below w.heap.size w w') : Four lo w' B V F :=
  ⟨fun i hi => (h.set i hi).keep hb, h.ne, h.own⟩

theorem Four.step {lo : Nat} {w w' : World} {B : Nat → Nat} {V : Nat → Value} {F : FS} {i : Nat} {v' : Value} {f' : Nat → Bool} (h : Four lo w B V F) (hi : i < 4) (hs : Iset lo w' (B i) v' (runsI f' 141)) (hc : Chg (B i) (V i) v' w w') :
    Four lo w' B (updV V i v') (updF F i f') := by
  have hnew : ∀ k, k < 4 → k ≠ i → (V k).ownBlock = none ∨ (V k).ownBlock ≠ v'.ownBlock := by
    intro k hk hki
    rcases h.own k i hk hi hki with h1 | h1
    · exact .inl h1
    · cases hv : (V k).ownBlock with
      | none => exact .inl rfl
      | some g =>
        refine .inr (fun e => ?_)
        rcases hc.own g e.symm with h2 | h2
        · exact h1 (by rw [hv, h2])
        · have := ((h.set k hk).own.lt g hv).2
          omega
  refine ⟨fun k hk => ?_, h.ne, fun k j hk hj hkj => ?_⟩
  · by_cases e : k = i
    · subst e
      simpa [updV, updF] using hs
    · have := (h.set k hk).other (h.set i hi) hc (h.ne k i hk hi e) (h.own k i hk hi e)
      simpa [updV, updF, e] using this
  · unfold updV
    by_cases e1 : k = i
    · rw [if_pos e1, if_neg (fun e => hkj (e1.trans e.symm))]
      cases hv : v'.ownBlock with
      | none => exact .inl rfl
      | some g =>
        rcases hnew j hj (fun e => hkj (e1.trans e.symm)) with h2 | h2
        · exact .inr (by rw [h2]; simp)
        · exact .inr (by rw [← hv]; exact Ne.symm h2)
    · rw [if_neg e1]
      by_cases e2 : j = i
      · rw [if_pos e2]; exact hnew k hk e1
      · rw [if_neg e2]; exact h.own k j hk hj hkj

theorem runs_none : ∀ k, runsI (fun _ => false) k = []
  | 0 => rfl
  | k + 1 => by simp [runsI, runs_none k]

/-- the variable that holds the four sets -/
def Ptrs (w : World) (lb : Nat) (B : Nat → Nat) : Prop := w.rowIs lb 84 4 fun i => .pointer (some ⟨B i, 0, none⟩)

theorem Ptrs.keep {w w' : World} {lb : Nat} {B : Nat → Nat} (h : Ptrs w lb B) (hb : Below w.heap.size w w') : Ptrs w' lb B := World.rowIs.of_block h (hb.block _ (World.rowIs.lt h))
theorem Ptrs.chg {lo : Nat} {w w' : World} {lb b : Nat} {B : Nat → Nat} {v v' : Value} {ivs : List Iv} (h : Ptrs w lb B) (hs : Iset lo w b v ivs) (hc : Chg b v v' w w') : Ptrs w' lb B := by
  obtain ⟨c, hb, hn, hcs⟩ := h
  exact ⟨c, hc.far hs hb (by decide) (by decide), hn, hcs⟩
theorem Ptrs.cells {w : World} {lb : Nat} {B : Nat → Nat} (h : Ptrs w lb B) : ∀ i, i < 4 → w.cell? ⟨lb, i, none⟩ = some (.pointer (some ⟨B i, 0, none⟩)) := fun _ hi => World.rowIs.cell h hi

/-- while the four sets are made -/
structure Making (lo lb j : Nat) (w : World) (B : Nat → Nat) : Prop where
  row : w.rowIs lb 84 4 fun i => if i < j then .pointer (some ⟨B i, 0, none⟩) else .pointer none
  set : ∀ i, i < j → Iset lo w (B i) (.slice none 0 0) []
  ne : ∀ i k, i < j → k < j → i ≠ k → B i ≠ B k

theorem Iset.setCell {lo : Nat} {w : World} {b : Nat} {v : Value} {ivs : List Iv} (h : Iset lo w b v ivs) (p : Addr) (u : Value) (h1 : b ≠ p.block) (h2 : v.ownBlock ≠ some p.block) : Iset lo (w.setCell p u) b v ivs :=
  ⟨(heap_other _ _ _ _ h1).trans h.blk, h.ble, own_set h.own _ _ h2, h.nil⟩

theorem Making.step {lo lb j b : Nat} {w w' : World} {B : Nat → Nat} (h : Making lo lb j w B) (hb : Below w.heap.size w w') (hs : Iset w.heap.size w' b (.slice none 0 0) []) (hlo : lo ≤ w.heap.size) :
    Making lo lb (j + 1) (w'.setCell ⟨lb, j, none⟩ (.pointer (some ⟨b, 0, none⟩))) (fun i => if i = j then b else B i) := by
  have hr := World.rowIs.of_block h.row (hb.block _ (World.rowIs.lt h.row))
  have hlb : ∀ x, (∃ lo2 v ivs, Iset lo2 w' x v ivs) → x ≠ lb := by
    rintro x ⟨lo2, v, ivs, hx⟩ rfl
    obtain ⟨c, hc, _⟩ := hr
    rw [hx.blk] at hc
    simp at hc
  refine ⟨(World.rowIs.set hr j _).congr (fun i hi => ?_), fun i hi => ?_, fun i k hi hk hik => ?_⟩
  · by_cases e : i = j
    · subst e; simp
    · rw [if_neg e, if_neg e]
      by_cases e2 : i < j
      · rw [if_pos e2, if_pos (by omega)]
      · rw [if_neg e2, if_neg (by omega)]
  · by_cases e : i = j
    · rw [if_pos e]
      refine Iset.setCell ⟨hs.blk, Nat.le_trans hlo hs.ble, own_low hs.own hlo, hs.nil⟩ _ _ (hlb _ ⟨_, _, _, hs⟩) (by simp [Value.ownBlock])
    · rw [if_neg e]
      have h1 := (h.set i (by omega)).keep hb
      exact Iset.setCell h1 _ _ (hlb _ ⟨_, _, _, h1⟩) (by simp [Value.ownBlock])
  · have h2 : ∀ x, x < j → B x < w.heap.size := fun x hx => (h.set x hx).lt
    have h3 := hs.ble
    by_cases e1 : i = j
    · by_cases e2 : k = j
      · omega
      · rw [if_pos e1, if_neg e2]
        have := h2 k (by omega); omega
    · by_cases e2 : k = j
      · rw [if_neg e1, if_pos e2]
        have := h2 i (by omega); omega
      · rw [if_neg e1, if_neg e2]
        exact h.ne i k (by omega) (by omega) hik

theorem Making.done {lo lb : Nat} {w : World} {B : Nat → Nat} (h : Making lo lb 4 w B) : Four lo w B (fun _ => .slice none 0 0) F0 ∧ Ptrs w lb B :=
  ⟨⟨fun i hi => by rw [show runsI (F0 i) 141 = [] from runs_none 141]; exact h.set i hi, h.ne, fun i j _ _ _ => .inl rfl⟩, h.row.congr (fun i hi => by rw [if_pos hi])⟩

end Go.Proofs.YtifoeehfblddcaaDoor
