/- the sets of numbers as maps: their least, their sameness -/
import Derived.Test.YtifoeehfblddcaaDoorP
import Derived.Maps.Range
namespace Go.Proofs.YtifoeehfblddcaaDoor
open Go.RowKit

theorem pb_inv {P : Program} {e : TypeId} (he : P.underlying e = some .bool) {v : Value} {x : Bool} {ps : List MemPlace} (h : plainElem (H := Unit) P e v = some (.lit (.bool x), ps)) : v = .bool x := by
  unfold plainElem at h
  rw [he] at h
  cases v <;> simp at h
  rw [h.1]
theorem plainElem_bool_inv {v : Value} {x : Bool} {ps : List MemPlace} (h : plainElem (H := Unit) Tryd.prog 4 v = some (.lit (.bool x), ps)) : v = .bool x := pb_inv Tryd.underlying4 h
theorem zinfo4 : (Tryd.prog.info? 4).map (fun i => i.zero) = some (some (.bool false)) := by kernel_rfl
theorem zero4 (w : World) : (zeroValue 4).run Tryd.prog w = .ok (.bool false) w := by
  obtain ⟨i, hi, hz⟩ := Option.map_eq_some_iff.1 zinfo4
  simp [zeroValue, typeInfo, hi, hz]

theorem Mset.look {w : World} {mb : Nat} {f : Nat → Bool} (h : Mset w mb f) (v : Nat) (hv : v ≤ 1000) : (Instr.lookup 23 (.map (some mb)) (.int .i64 v) false).run Tryd.prog w = .ok (.bool (f v)) w := by
  obtain ⟨n, D, _, ho, hf⟩ := h
  have hz := zero4 w
  obtain ⟨u, ps, hrun, hu⟩ := ho.lookup keyed3 Tryd.underlying23 hz (plainElem_bool Tryd.underlying4 false) (key64 v (by omega) (by omega))
  rw [hf.atk v hv] at hu
  rw [hrun, plainElem_bool_inv hu]

theorem Mset.len {w : World} {mb : Nat} {f : Nat → Bool} (h : Mset w mb f) (ty : TypeId) : (Builtin.len_ #[23] ty #[.map (some mb)]).run Tryd.prog w = .ok (.int .i64 (cnt f 201 : Nat)) w := by
  obtain ⟨n, D, _, ho, hf⟩ := h
  rw [ho.len Tryd.underlying23 ty, hf.size]

theorem Mset.keep {w w' : World} {mb : Nat} {f : Nat → Bool} (h : Mset w mb f) (hb : Below w.heap.size w w') : Mset w' mb f := by
  obtain ⟨n, D, hn, ho, hf⟩ := h
  exact ⟨n, D, hn, ho.kept (show w.grownBy w' none from ⟨hb.os, hb.tape, hb.output, hb.size, fun i hi _ => hb.block i hi⟩) (by simp), hf⟩

def leastFrom (f : Nat → Bool) : Nat → Nat → Nat
  | 0, _ => 0
  | k + 1, i => if f i then i else leastFrom f k (i + 1)

set_option maxHeartbeats 400000 in
theorem least_any {w : World} {mb : Nat} {f : Nat → Bool} (h : Mset w mb f) :
    Calls Tryd.prog 26 #[.map (some mb)] w fun e w' => e = .returned (.int .i64 (leastFrom f 201 0 : Nat)) ∧ w' = w := by
  have HL := hid (fun v (hv : v ≤ 1000) => h.look v hv)
  clear h
  go_enter Tryd.func26, Tryd.ntmps26
  go_wp2_with fail
  go_loopg [3] 201 (fun k i wr => ∃ j : Nat, j + k = 201 ∧ i = .int .i64 j ∧ leastFrom f k j = leastFrom f 201 0 ∧ wr = w)
  case atStart => exact ⟨0, by omega, rfl, rfl, rfl⟩
  case round =>
    obtain ⟨j, hj, rfl, hm, rfl⟩ := hrel
    by_cases hlt : j < 201
    · have hd : decide ((j : Int) ≤ 200) = true := by simp; omega
      have hl := HL.out j (by omega)
      obtain ⟨m, rfl⟩ : ∃ m, gk = m + 1 := ⟨gk - 1, by omega⟩
      have e : leastFrom f (m + 1) j = if f j then j else leastFrom f m (j + 1) := rfl
      cases hf : f j
      · rw [hf] at hl e
        simp only [Bool.false_eq_true, if_false] at e
        rw [e] at hm
        have HM := hid hm
        clear e hm hf
        go_wp2_with fail
        go_roundg m
        case measure => omega
        case rel => exact ⟨j + 1, by omega, by go_num, HM.out, rfl⟩
      · rw [hf] at hl e
        simp only [if_true] at e
        rw [e] at hm
        have HM := hid hm
        clear e hm hf
        go_wp2_with fail
        go_ret
        refine ⟨?_, rfl⟩
        rw [← HM.out]
        rfl
    · have hj2 : j = 201 := by omega
      subst hj2
      have hk : gk = 0 := by omega
      subst hk
      have HM := hid hm
      clear hm
      go_wp2_with fail
      go_ret
      refine ⟨?_, rfl⟩
      rw [← HM.out]
      rfl

def askB (zs : List Int) : Bool := (zs.all fun z => decide (0 ≤ z ∧ z ≤ 300)) && decide (zs.length ≤ 100)

set_option maxHeartbeats 800000 in
theorem ask_good (A : Option Addr) (c : Nat) (zs : List Int) (w : World) (h : Ints w A c zs) (hg : ∀ j, j < zs.length → 0 ≤ zs.getD j 0 ∧ zs.getD j 0 ≤ 300) (hl : zs.length ≤ 2147483647) :
    Calls Tryd.prog 7 #[.slice A zs.length c] w fun e w' => e = .returned (.bool (decide (zs.length ≤ 100))) ∧ w' = w := by
  have hca := h.cap
  have HZ := hid h
  have HG := hid hg
  generalize hN : zs.length = N at *
  have HN := hid hN
  clear h hg hN
  go_enter Tryd.func7, Tryd.ntmps7
  go_wp2_with fail
  go_loopg [7] N (fun k i wr => ∃ j : Nat, j + k = N ∧ i = .int .i64 j ∧ wr = w)
  case atStart => exact ⟨0, by omega, rfl, rfl⟩
  case round =>
    obtain ⟨j, hj, rfl, rfl⟩ := hrel
    by_cases hlt : j < N
    · obtain ⟨g, o, rfl, hg, hcs⟩ := HZ.out.row (by rw [HN.out]; omega)
      have r0 := hcs j (by rw [HN.out]; exact hlt)
      have h2 := HG.out j hlt
      generalize zs.getD j 0 = z at *
      have hd1 : decide (z < 0) = false := by simp; omega
      have hd2 : decide (300 < z) = false := by simp; omega
      clear h2 hcs
      go_wp2_with fail
      go_roundg (gk - 1)
      case measure => omega
      case rel => exact ⟨j + 1, by omega, by go_num, rfl⟩
    · have hjN : j = N := by omega
      subst hjN
      go_wp2_with fail
      go_ret
      refine ⟨?_, rfl⟩
      show Ending.returned (.bool (decide ((j : Int) ≤ 100))) = _
      rw [show decide ((j : Int) ≤ 100) = decide (j ≤ 100) from decide_eq_decide.2 (by omega)]

set_option maxHeartbeats 800000 in
theorem ask_bad (A : Option Addr) (c : Nat) (zs : List Int) (w : World) (h : Ints w A c zs) (p : Nat) (hp : p < zs.length) (hbad : zs.getD p 0 < 0 ∨ 300 < zs.getD p 0) (hg : ∀ j, j < p → 0 ≤ zs.getD j 0 ∧ zs.getD j 0 ≤ 300) (hl : zs.length ≤ 2147483647) :
    Calls Tryd.prog 7 #[.slice A zs.length c] w fun e w' => e = .returned (.bool false) ∧ w' = w := by
  have hca := h.cap
  have HZ := hid h
  have HG := hid hg
  have HBAD := hid hbad
  generalize hN : zs.length = N at *
  have HN := hid hN
  clear h hg hN hbad
  go_enter Tryd.func7, Tryd.ntmps7
  go_wp2_with fail
  go_loopg [7] p (fun k i wr => ∃ j : Nat, j + k = p ∧ i = .int .i64 j ∧ wr = w)
  case atStart => exact ⟨0, by omega, rfl, rfl⟩
  case round =>
    obtain ⟨j, hj, rfl, rfl⟩ := hrel
    obtain ⟨g, o, rfl, hg, hcs⟩ := HZ.out.row (by rw [HN.out]; omega)
    have r0 := hcs j (by rw [HN.out]; omega)
    by_cases hlt : j < p
    · have h2 := HG.out j hlt
      have hjN : j < N := by omega
      generalize zs.getD j 0 = z at *
      have hd1 : decide (z < 0) = false := by simp; omega
      have hd2 : decide (300 < z) = false := by simp; omega
      clear h2 hcs
      go_wp2_with fail
      go_roundg (gk - 1)
      case measure => omega
      case rel => exact ⟨j + 1, by omega, by go_num, rfl⟩
    · have hjN : j = p := by omega
      subst hjN
      have hbd := HBAD.out
      generalize zs.getD j 0 = z at *
      clear hcs
      by_cases hz : z < 0
      · have hd1 : decide (z < 0) = true := by simp [hz]
        clear hbd
        go_wp2_with fail
        go_ret
        exact ⟨rfl, rfl⟩
      · have hd1 : decide (z < 0) = false := by simp [hz]
        have hd2 : decide (300 < z) = true := by simp; omega
        clear hbd hz
        go_wp2_with fail
        go_ret
        exact ⟨rfl, rfl⟩

theorem askB_false {xs : List Int} (h : (xs.all fun z => decide (0 ≤ z ∧ z ≤ 300)) = false) : ∃ p, p < xs.length ∧ (xs.getD p 0 < 0 ∨ 300 < xs.getD p 0) ∧ ∀ j, j < p → 0 ≤ xs.getD j 0 ∧ xs.getD j 0 ≤ 300 := by
  induction xs with
  | nil => simp at h
  | cons x r ih =>
    by_cases hx : 0 ≤ x ∧ x ≤ 300
    · have h2 : (r.all fun z => decide (0 ≤ z ∧ z ≤ 300)) = false := by
        rw [List.all_cons] at h
        simpa [hx] using h
      obtain ⟨p, h3, h4, h5⟩ := ih h2
      refine ⟨p + 1, by simp; exact h3, by simpa using h4, ?_⟩
      intro j hj
      cases j with
      | zero => simpa using hx
      | succ j => simpa using h5 j (by omega)
    · exact ⟨0, by simp, by simp; omega, fun j hj => by omega⟩

theorem ask_any (A : Option Addr) (c : Nat) (zs : List Int) (w : World) (h : Ints w A c zs) (hl : zs.length ≤ 2147483647) :
    Calls Tryd.prog 7 #[.slice A zs.length c] w fun e w' => e = .returned (.bool (askB zs)) ∧ w' = w := by
  unfold askB
  cases h1 : (zs.all fun z => decide (0 ≤ z ∧ z ≤ 300))
  · obtain ⟨p, h3, h4, h5⟩ := askB_false h1
    exact ask_bad A c zs w h p h3 h4 h5 hl
  · have hg : ∀ j, j < zs.length → 0 ≤ zs.getD j 0 ∧ zs.getD j 0 ≤ 300 := by
      intro j hj
      have := List.all_eq_true.1 h1 (zs.getD j 0) (by simp [hj])
      simpa using this
    simpa using ask_good A c zs w h hg hl
end Go.Proofs.YtifoeehfblddcaaDoor
