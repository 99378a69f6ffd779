/- FnBits -/
import Derived.Test.YtifoeehfblddcaaDoorX
namespace Go.Proofs.YtifoeehfblddcaaDoor
open Go.RowKit

theorem okWords_add (ws : List Nat) (v : Nat) (hv : v ≤ 255) (hl : ws.length ≤ 4) (hw : ∀ j, ws.getD j 0 < 18446744073709551616) : (addW ws v).length ≤ 4 ∧ ∀ j, (addW ws v).getD j 0 < 18446744073709551616 := by
  have hg : (growW ws (v / 64 + 1)).length ≤ 4 := by simp [growW]; omega
  refine ⟨by simp [addW]; exact hg, fun j => ?_⟩
  unfold addW
  rw [getD_set]
  split
  · exact or_lt _ _ (hw _) (Nat.mod_lt _ (by decide))
  · rw [growW_get]; exact hw j
theorem okWords_clear (ws : List Nat) (v : Nat) (hl : ws.length ≤ 4) (hw : ∀ j, ws.getD j 0 < 18446744073709551616) : (clearW ws v).length ≤ 4 ∧ ∀ j, (clearW ws v).getD j 0 < 18446744073709551616 := by
  refine ⟨by simp [clearW]; exact hl, fun j => ?_⟩
  unfold clearW
  rw [getD_set]
  split
  · exact Nat.lt_of_le_of_lt Nat.and_le_left (hw _)
  · exact hw j
theorem okWords_addAll : ∀ (xs : List Int) (ws : List Nat), (∀ x ∈ xs, 0 ≤ x ∧ x ≤ 200) → ws.length ≤ 4 → (∀ j, ws.getD j 0 < 18446744073709551616) → (addAll ws xs).length ≤ 4 ∧ ∀ j, (addAll ws xs).getD j 0 < 18446744073709551616
  | [], ws, _, hl, hw => ⟨hl, hw⟩
  | x :: r, ws, h, hl, hw => by
    have hx := h x (by simp)
    obtain ⟨a, b⟩ := okWords_add ws x.toNat (by omega) hl hw
    exact okWords_addAll r (addW ws x.toNat) (fun y hy => h y (by simp [hy])) a b
theorem okWords_clearAll : ∀ (xs : List Int) (ws : List Nat), ws.length ≤ 4 → (∀ j, ws.getD j 0 < 18446744073709551616) → (clearAll ws xs).length ≤ 4 ∧ ∀ j, (clearAll ws xs).getD j 0 < 18446744073709551616
  | [], ws, hl, hw => ⟨hl, hw⟩
  | x :: r, ws, hl, hw => by
    obtain ⟨a, b⟩ := okWords_clear ws x.toNat hl hw
    exact okWords_clearAll r (clearW ws x.toNat) a b

theorem goodL_mem {xs : List Int} (h : goodL xs = true) : ∀ x ∈ xs, 0 ≤ x ∧ x ≤ 200 := by
  intro x hx
  have := List.all_eq_true.1 h x hx
  simpa using this
theorem goodL_in {xs : List Int} (h : goodL xs = true) : In200 xs := by
  intro j
  by_cases hj : j < xs.length
  · exact goodL_true h j hj
  · rw [List.getD_eq_getElem?_getD, List.getElem?_eq_none (by omega)]; simp
theorem mk_ok (xs ys : List Int) (h : goodL xs = true) : (mk xs ys).length ≤ 4 ∧ ∀ j, (mk xs ys).getD j 0 < 18446744073709551616 := by
  obtain ⟨a, b⟩ := okWords_addAll xs [] (goodL_mem h) (by decide) (by simp)
  exact okWords_clearAll ys _ a b
theorem askB_in {zs : List Int} (h : askB zs = true) : (∀ j, 0 ≤ zs.getD j 0 ∧ zs.getD j 0 ≤ 300) ∧ zs.length ≤ 100 := by
  unfold askB at h
  rw [Bool.and_eq_true] at h
  refine ⟨fun j => ?_, by simpa using h.2⟩
  by_cases hj : j < zs.length
  · have := List.all_eq_true.1 h.1 (zs.getD j 0) (by simp [hj])
    simpa using this
  · rw [List.getD_eq_getElem?_getD, List.getElem?_eq_none (by omega)]; simp

theorem slice_len {w : World} {base : Nat} {e : TypeId} {size : Nat} {v : Value} {n : Nat} {xs : List Value} (h : w.ownsRow base e size v n xs) : ∃ A c, v = .slice A n c := by
  rcases h.2 with ⟨e, h0⟩ | ⟨_, _, _, e, _⟩
  · exact ⟨none, 0, by rw [e, h0]⟩
  · exact ⟨_, _, e⟩

section
variable (A L Z : Option Addr) (ca cl cz : Nat) (xs ys zs : List Int) (w : World) (hA : Ints w A ca xs) (hL : Ints w L cl ys) (hZ : Ints w Z cz zs) (hT : Tabs w) (hw0 : 0 < w.heap.size)

set_option maxHeartbeats 400000 in
theorem bits_long (h : 2147483647 < xs.length ∨ 2147483647 < ys.length ∨ 2147483647 < zs.length) :
    Calls Tryd.prog 3 #[.slice A xs.length ca, .slice L ys.length cl, .slice Z zs.length cz] w fun e w' => e = .returned (.bool true) ∧ Below w.heap.size w w' := by
  generalize xs.length = N at *
  generalize ys.length = M at *
  generalize zs.length = K at *
  by_cases h1 : 2147483647 < N
  · have d1 : decide ((2147483647 : Int) < (N : Int)) = true := by simp; omega
    clear h
    go_enter Tryd.func3, Tryd.ntmps3
    go_wp2_with fail
    go_ret
    exact ⟨rfl, Below.refl _ _⟩
  · have d1 : decide ((2147483647 : Int) < (N : Int)) = false := by simp; omega
    by_cases h2 : 2147483647 < M
    · have d2 : decide ((2147483647 : Int) < (M : Int)) = true := by simp; omega
      clear h
      go_enter Tryd.func3, Tryd.ntmps3
      go_wp2_with fail
      go_ret
      exact ⟨rfl, Below.refl _ _⟩
    · have d2 : decide ((2147483647 : Int) < (M : Int)) = false := by simp; omega
      have d3 : decide ((2147483647 : Int) < (K : Int)) = true := by simp; omega
      clear h
      go_enter Tryd.func3, Tryd.ntmps3
      go_wp2_with fail
      go_ret
      exact ⟨rfl, Below.refl _ _⟩
include hA hL hZ hT hw0 in
set_option maxHeartbeats 1600000 in
theorem bits_unasked (hN : xs.length ≤ 2147483647) (hM : ys.length ≤ 2147483647) (hK : zs.length ≤ 2147483647) (h : (goodL xs && goodL ys) = false ∨ 100 < xs.length ∨ 100 < ys.length ∨ askB zs = false) :
    Calls Tryd.prog 3 #[.slice A xs.length ca, .slice L ys.length cl, .slice Z zs.length cz] w fun e w' => e = .returned (.bool true) ∧ Below w.heap.size w w' := by
  have HBO := bitsof_any A L ca cl xs ys w hA hL hN hM
  have HAW := hid (fun W (hb : Below w.heap.size w W) => awake_any W (hT.keep hw0 hb) (Nat.lt_of_lt_of_le hw0 hb.size))
  have HAK := hid (fun W (hb : Below w.heap.size w W) => ask_any Z cz zs W (hZ.keep hb) hK)
  have hca := hA.cap
  have hcl := hL.cap
  have hcz := hZ.cap
  clear hA hL hZ hT
  have d1 : decide ((2147483647 : Int) < (xs.length : Int)) = false := by simp; omega
  have d2 : decide ((2147483647 : Int) < (ys.length : Int)) = false := by simp; omega
  have d3 : decide ((2147483647 : Int) < (zs.length : Int)) = false := by simp; omega
  cases hg : (goodL xs && goodL ys)
  · have H6 : Calls Tryd.prog 6 #[.slice A xs.length ca, .slice L ys.length cl] w fun e w' => e = .returned (.tuple #[.map none, .bool false]) ∧ Below w.heap.size w w' := HBO.mono fun e w' ⟨h1, h2⟩ => by
      rcases h1 with ⟨h3, _⟩ | ⟨_, h3⟩
      · rw [hg] at h3; cases h3
      · exact ⟨h3, h2⟩
    have HH := hid H6
    clear HBO H6 h hg
    generalize xs.length = N at *
    generalize ys.length = M at *
    generalize zs.length = K at *
    go_enter Tryd.func3, Tryd.ntmps3
    go_wp2_with (first | (go_at_call 6; refine HH.out.mono ?_; rintro e w1 ⟨rfl, hb1⟩) | (go_at_call 8; refine (HAW.out _ hb1).mono ?_; rintro e w2 ⟨rfl, hb2⟩))
    go_ret
    exact ⟨rfl, bl hb1 hb2⟩
  · have H6 : Calls Tryd.prog 6 #[.slice A xs.length ca, .slice L ys.length cl] w fun e w' => (∃ mb, e = .returned (.tuple #[.map (some mb), .bool true])) ∧ Below w.heap.size w w' := HBO.mono fun e w' ⟨h1, h2⟩ => by
      rcases h1 with ⟨_, mb, h3, _⟩ | ⟨h3, _⟩
      · exact ⟨⟨mb, h3⟩, h2⟩
      · rw [hg] at h3; cases h3
    have HH := hid H6
    have h' : 100 < xs.length ∨ 100 < ys.length ∨ askB zs = false := by
      rcases h with h | h
      · rw [hg] at h; cases h
      · exact h
    clear HBO H6 h hg
    generalize xs.length = N at *
    generalize ys.length = M at *
    generalize zs.length = K at *
    by_cases h1 : 100 < N
    · have e1 : decide ((100 : Int) < (N : Int)) = true := by simp; omega
      clear h'
      go_enter Tryd.func3, Tryd.ntmps3
      go_wp2_with (first | (go_at_call 6; refine HH.out.mono ?_; rintro e w1 ⟨⟨mb, rfl⟩, hb1⟩) | (go_at_call 8; refine (HAW.out _ hb1).mono ?_; rintro e w2 ⟨rfl, hb2⟩))
      go_ret
      exact ⟨rfl, bl hb1 hb2⟩
    · have e1 : decide ((100 : Int) < (N : Int)) = false := by simp; omega
      by_cases h2 : 100 < M
      · have e2 : decide ((100 : Int) < (M : Int)) = true := by simp; omega
        clear h'
        go_enter Tryd.func3, Tryd.ntmps3
        go_wp2_with (first | (go_at_call 6; refine HH.out.mono ?_; rintro e w1 ⟨⟨mb, rfl⟩, hb1⟩) | (go_at_call 8; refine (HAW.out _ hb1).mono ?_; rintro e w2 ⟨rfl, hb2⟩))
        go_ret
        exact ⟨rfl, bl hb1 hb2⟩
      · have e2 : decide ((100 : Int) < (M : Int)) = false := by simp; omega
        have h3 : askB zs = false := by
          rcases h' with h | h | h
          · exact absurd h h1
          · exact absurd h h2
          · exact h
        rw [h3] at HAK
        clear h' h3
        go_enter Tryd.func3, Tryd.ntmps3
        go_wp2_with (first | (go_at_call 6; refine HH.out.mono ?_; rintro e w1 ⟨⟨mb, rfl⟩, hb1⟩) | (go_at_call 7; refine (HAK.out _ hb1).mono ?_; rintro e w3 ⟨rfl, rfl⟩) | (go_at_call 8; refine (HAW.out _ hb1).mono ?_; rintro e w2 ⟨rfl, hb2⟩))
        go_ret
        exact ⟨rfl, bl hb1 hb2⟩

include hA hL hZ hT hw0 in
set_option maxRecDepth 100000 in
set_option maxHeartbeats 1600000 in
theorem bits_asked (hN : xs.length ≤ 100) (hM : ys.length ≤ 100) (hg : (goodL xs && goodL ys) = true) (hask : askB zs = true) :
    Calls Tryd.prog 3 #[.slice A xs.length ca, .slice L ys.length cl, .slice Z zs.length cz] w fun e w' => e = .returned (.bool true) ∧ Below w.heap.size w w' := by
  obtain ⟨hz3, hK⟩ := askB_in hask
  have hgx : goodL xs = true := (Bool.and_eq_true _ _ ▸ hg).1
  have hgy : goodL ys = true := (Bool.and_eq_true _ _ ▸ hg).2
  have H6 : Calls Tryd.prog 6 #[.slice A xs.length ca, .slice L ys.length cl] w fun e w' => (∃ mb, e = .returned (.tuple #[.map (some mb), .bool true]) ∧ Mset w' mb (bitN (mk xs ys))) ∧ Below w.heap.size w w' :=
    (bitsof_any A L ca cl xs ys w hA hL (by omega) (by omega)).mono fun e w' ⟨h1, h2⟩ => by
      rcases h1 with ⟨_, mb, h3, _, h4⟩ | ⟨h3, _⟩
      · exact ⟨⟨mb, h3, by rw [show bitN (mk xs ys) = delAll (putAll (fun _ => false) xs) ys from bitN_mk xs ys]; exact h4⟩, h2⟩
      · rw [hg] at h3; cases h3
  obtain ⟨ml, mw⟩ := mk_ok xs ys hgx
  have HAW := hid (fun W (hb : Below w.heap.size w W) => awake_any W (hT.keep hw0 hb) (Nat.lt_of_lt_of_le hw0 hb.size))
  have HAK := hid (fun W (hb : Below w.heap.size w W) => ask_any Z cz zs W (hZ.keep hb) (by omega))
  rw [hask] at HAK
  have HBT := hid (fun W (hb : Below w.heap.size w W) => bits_any A L none none Z ca cl 0 0 cz xs ys [] [] zs W (hA.keep hb) (hL.keep hb) (Ints.nil W) (Ints.nil W) (hZ.keep hb) (goodL_in hgx) (goodL_in hgy) (fun j => by simp) (fun j => by simp) hz3 (by omega) (by omega) (by simp) (by simp) (by omega) (hT.keep hw0 hb) (Nat.lt_of_lt_of_le hw0 hb.size))
  have HTD := hid (fun W (hb : Below w.heap.size w W) HA hc p m mb base s hm hp hlst hown => told_any Z HA cz hc p m mb base s (bitN (mk xs ys)) zs W (hZ.keep hb) hz3 (by omega) hm hp hlst hown)
  have hout : ∀ mb W, Mset W mb (bitN (mk xs ys)) → ∀ n, 200 < n → bitN (mk xs ys) n = false := fun mb W ⟨_, _, _, _, hf⟩ => hf.out
  have HLE := hid (fun ho => least_eq (mk xs ys) ml mw ho)
  have HOUT := hid hout
  have hca := hA.cap
  have hcl := hL.cap
  have hcz := hZ.cap
  have HH := hid H6
  have d1 : decide ((2147483647 : Int) < (xs.length : Int)) = false := by simp; omega
  have d2 : decide ((2147483647 : Int) < (ys.length : Int)) = false := by simp; omega
  have d3 : decide ((2147483647 : Int) < (zs.length : Int)) = false := by simp; omega
  have e1 : decide ((100 : Int) < (xs.length : Int)) = false := by simp; omega
  have e2 : decide ((100 : Int) < (ys.length : Int)) = false := by simp; omega
  clear hA hL hZ hT H6 hg hask hgx hgy ml mw hout
  go_enter Tryd.func3, Tryd.ntmps3
  go_wp2_with (first
    | (go_at_call 6; refine HH.out.mono ?_; rintro e w1 ⟨⟨mb, rfl, hm⟩, hb1⟩; have HM := hid hm; clear hm)
    | (go_at_call 7; refine (HAK.out _ hb1).mono ?_; rintro e w3 ⟨rfl, rfl⟩)
    | (go_at_call 9; refine (HBT.out _ hb1).mono ?_; rintro e w4 ⟨⟨X, Y, U, rfl, ⟨X1, t1, rfl, o1⟩, ⟨X2, t2, rfl, o2⟩, ⟨X3, t3, rfl, o3⟩⟩, hb4⟩; have hs1 := slice_len o1; have hs2 := slice_of o2; have hs3 := slice_of o3; obtain ⟨B1, k1, rfl⟩ := hs1; obtain ⟨B2, n2, k2, rfl⟩ := hs2; obtain ⟨B3, n3, k3, rfl⟩ := hs3; have HO1 := hid o1; clear o1 o2 o3)
    | (go_at_call 10; refine (HTD.out _ (bl (bl hb1 hb4) (bl (bl (bl1 w4 _) (bl1 _ _)) (bl1 _ _))) B1 k1 (popS (mk xs ys) (mk xs ys).length) (tellLeast (mk xs ys)) mb w3.heap.size t1 (HM.out.keep (bl hb4 (bl (bl (bl1 w4 _) (bl1 _ _)) (bl1 _ _)))) (HLE.out (HOUT.out mb w3 HM.out)).2.symm (HLE.out (HOUT.out mb w3 HM.out)).1.symm (own_below HO1.out (bl (bl (bl1 w4 _) (bl1 _ _)) (bl1 _ _)))).mono ?_; rintro e w5 ⟨rfl, hb5⟩)
    | (go_at_call 8; refine (HAW.out _ (bl (bl (bl hb1 hb4) (bl (bl (bl1 w4 _) (bl1 _ _)) (bl1 _ _))) hb5)).mono ?_; rintro e w6 ⟨rfl, hb6⟩))
  go_ret
  exact ⟨rfl, bl (bl (bl (bl hb1 hb4) (bl (bl (bl1 w4 _) (bl1 _ _)) (bl1 _ _))) hb5) hb6⟩

include hA hL hZ hT hw0 in
/-- FnBits at any three lists -/
theorem bits_law : Calls Tryd.prog 3 #[.slice A xs.length ca, .slice L ys.length cl, .slice Z zs.length cz] w fun e w' => e = .returned (.bool true) ∧ Below w.heap.size w w' := by
  by_cases h1 : 2147483647 < xs.length ∨ 2147483647 < ys.length ∨ 2147483647 < zs.length
  · exact bits_long A L Z ca cl cz xs ys zs w h1
  · by_cases h2 : (goodL xs && goodL ys) = false ∨ 100 < xs.length ∨ 100 < ys.length ∨ askB zs = false
    · exact bits_unasked A L Z ca cl cz xs ys zs w hA hL hZ hT hw0 (by omega) (by omega) (by omega) h2
    · have hg : (goodL xs && goodL ys) = true := by
        cases h : (goodL xs && goodL ys)
        · exact absurd (.inl h) h2
        · rfl
      have ha : askB zs = true := by
        cases h : askB zs
        · exact absurd (.inr (.inr (.inr h))) h2
        · rfl
      exact bits_asked A L Z ca cl cz xs ys zs w hA hL hZ hT hw0 (by omega) (by omega) hg ha
end
end Go.Proofs.YtifoeehfblddcaaDoor
