/- FnBitsEqual -/
import Derived.Test.YtifoeehfblddcaaDoorY
namespace Go.Proofs.YtifoeehfblddcaaDoor
open Go.RowKit

theorem eqW_same (pw qw : List Nat) (hp : ∀ j, pw.getD j 0 < 18446744073709551616) (hq : ∀ j, qw.getD j 0 < 18446744073709551616) (op : ∀ n, 200 < n → bitN pw n = false) (oq : ∀ n, 200 < n → bitN qw n = false) : eqW pw qw = sameF (bitN pw) (bitN qw) := by
  cases h : eqW pw qw
  · cases h2 : sameF (bitN pw) (bitN qw)
    · rfl
    · exfalso
      have : eqW pw qw = true := by
        rw [eqW_bits pw qw hp hq]
        intro n
        by_cases hn : n < 201
        · unfold sameF at h2
          rw [List.all_eq_true] at h2
          simpa using h2 n (List.mem_range.2 hn)
        · rw [op n (by omega), oq n (by omega)]
      rw [h] at this; cases this
  · have := (eqW_bits pw qw hp hq).1 h
    exact (sameF_true (fun i _ => this i)).symm

section
variable (A L : Option Addr) (ca cl : Nat) (xs ys : List Int) (w : World) (hA : Ints w A ca xs) (hL : Ints w L cl ys) (hT : Tabs w) (hw0 : 0 < w.heap.size)

set_option maxHeartbeats 400000 in
theorem equal_long (h : 2147483647 < xs.length ∨ 2147483647 < ys.length) :
    Calls Tryd.prog 4 #[.slice A xs.length ca, .slice L ys.length cl] w fun e w' => e = .returned (.bool true) ∧ Below w.heap.size w w' := by
  generalize xs.length = N at *
  generalize ys.length = M at *
  by_cases h1 : 2147483647 < N
  · have d1 : decide ((2147483647 : Int) < (N : Int)) = true := by simp; omega
    clear h
    go_enter Tryd.func4, Tryd.ntmps4
    go_wp2_with fail
    go_ret
    exact ⟨rfl, Below.refl _ _⟩
  · have d1 : decide ((2147483647 : Int) < (N : Int)) = false := by simp; omega
    have d2 : decide ((2147483647 : Int) < (M : Int)) = true := by simp; omega
    clear h
    go_enter Tryd.func4, Tryd.ntmps4
    go_wp2_with fail
    go_ret
    exact ⟨rfl, Below.refl _ _⟩

theorem bitsof_shape {A : Option Addr} {ca : Nat} {xs : List Int} {w : World} (hA : Ints w A ca xs) (hN : xs.length ≤ 2147483647) :
    Calls Tryd.prog 6 #[.slice A xs.length ca, .slice none 0 0] w fun e w' => (∃ mv, e = .returned (.tuple #[mv, .bool (goodL xs)])) ∧ Below w.heap.size w w' :=
  (bitsof_any A none ca 0 xs [] w hA (Ints.nil w) hN (by simp)).mono fun e w' ⟨h1, h2⟩ => by
    rw [show goodL [] = true from rfl, Bool.and_true] at h1
    rcases h1 with ⟨h, mb, h3, _⟩ | ⟨h, h3⟩
    · exact ⟨⟨_, by rw [h]; exact h3⟩, h2⟩
    · exact ⟨⟨_, by rw [h]; exact h3⟩, h2⟩

include hA hL hT hw0 in
set_option maxHeartbeats 1600000 in
theorem equal_unasked (hN : xs.length ≤ 2147483647) (hM : ys.length ≤ 2147483647) (h : goodL xs = false ∨ goodL ys = false ∨ 100 < xs.length + ys.length) :
    Calls Tryd.prog 4 #[.slice A xs.length ca, .slice L ys.length cl] w fun e w' => e = .returned (.bool true) ∧ Below w.heap.size w w' := by
  have HAW := hid (fun W (hb : Below w.heap.size w W) => awake_any W (hT.keep hw0 hb) (Nat.lt_of_lt_of_le hw0 hb.size))
  have H6 := hid (bitsof_shape hA hN)
  have H7 := hid (fun W (hb : Below w.heap.size w W) => bitsof_shape (hL.keep hb) hM)
  have hca := hA.cap
  have hcl := hL.cap
  clear hA hL hT
  have d1 : decide ((2147483647 : Int) < (xs.length : Int)) = false := by simp; omega
  have d2 : decide ((2147483647 : Int) < (ys.length : Int)) = false := by simp; omega
  generalize goodL xs = gx at *
  generalize goodL ys = gy at *
  generalize xs.length = N at *
  generalize ys.length = M at *
  cases gx
  · clear h
    go_enter Tryd.func4, Tryd.ntmps4
    go_wp2_with (first
      | (go_at_call_of 6 (Value.slice A N ca); refine H6.out.mono ?_; rintro e w1 ⟨⟨mv, rfl⟩, hb1⟩)
      | (go_at_call_of 6 (Value.slice L M cl); refine (H7.out _ hb1).mono ?_; rintro e w2 ⟨⟨mv2, rfl⟩, hb2⟩)
      | (go_at_call 8; refine (HAW.out _ (bl hb1 hb2)).mono ?_; rintro e w3 ⟨rfl, hb3⟩))
    go_ret
    exact ⟨rfl, bl (bl hb1 hb2) hb3⟩
  · cases gy
    · clear h
      go_enter Tryd.func4, Tryd.ntmps4
      go_wp2_with (first
        | (go_at_call_of 6 (Value.slice A N ca); refine H6.out.mono ?_; rintro e w1 ⟨⟨mv, rfl⟩, hb1⟩)
        | (go_at_call_of 6 (Value.slice L M cl); refine (H7.out _ hb1).mono ?_; rintro e w2 ⟨⟨mv2, rfl⟩, hb2⟩)
        | (go_at_call 8; refine (HAW.out _ (bl hb1 hb2)).mono ?_; rintro e w3 ⟨rfl, hb3⟩))
      go_ret
      exact ⟨rfl, bl (bl hb1 hb2) hb3⟩
    · have hs : 100 < N + M := by
        rcases h with h | h | h
        · cases h
        · cases h
        · exact h
      have d3 : decide ((100 : Int) < (N : Int) + (M : Int)) = true := by simp; omega
      clear h
      go_enter Tryd.func4, Tryd.ntmps4
      go_wp2_with (first
        | (go_at_call_of 6 (Value.slice A N ca); refine H6.out.mono ?_; rintro e w1 ⟨⟨mv, rfl⟩, hb1⟩)
        | (go_at_call_of 6 (Value.slice L M cl); refine (H7.out _ hb1).mono ?_; rintro e w2 ⟨⟨mv2, rfl⟩, hb2⟩)
        | (go_at_call 8; refine (HAW.out _ (bl hb1 hb2)).mono ?_; rintro e w3 ⟨rfl, hb3⟩))
      go_ret
      exact ⟨rfl, bl (bl hb1 hb2) hb3⟩

theorem bitsof_set {A : Option Addr} {ca : Nat} {xs : List Int} {w : World} (hA : Ints w A ca xs) (hN : xs.length ≤ 2147483647) (hg : goodL xs = true) :
    Calls Tryd.prog 6 #[.slice A xs.length ca, .slice none 0 0] w fun e w' => (∃ mb, e = .returned (.tuple #[.map (some mb), .bool true]) ∧ Mset w' mb (bitN (mk xs []))) ∧ Below w.heap.size w w' :=
  (bitsof_any A none ca 0 xs [] w hA (Ints.nil w) hN (by simp)).mono fun e w' ⟨h1, h2⟩ => by
    rcases h1 with ⟨_, mb, h3, _, h4⟩ | ⟨h, h3⟩
    · exact ⟨⟨mb, h3, by rw [show bitN (mk xs []) = delAll (putAll (fun _ => false) xs) [] from bitN_mk xs []]; exact h4⟩, h2⟩
    · rw [hg] at h; cases h

include hA hL hT hw0 in
set_option maxRecDepth 100000 in
set_option maxHeartbeats 1600000 in
theorem equal_asked (hg : goodL xs = true) (hg2 : goodL ys = true) (hs : xs.length + ys.length ≤ 100) :
    Calls Tryd.prog 4 #[.slice A xs.length ca, .slice L ys.length cl] w fun e w' => e = .returned (.bool true) ∧ Below w.heap.size w w' := by
  have HAW := hid (fun W (hb : Below w.heap.size w W) => awake_any W (hT.keep hw0 hb) (Nat.lt_of_lt_of_le hw0 hb.size))
  have H6 := hid (bitsof_set hA (by omega) hg)
  have H7 := hid (fun W (hb : Below w.heap.size w W) => bitsof_set (hL.keep hb) (by omega) hg2)
  have HBT := hid (fun W (hb : Below w.heap.size w W) => bits_any A none L none none ca 0 cl 0 0 xs [] ys [] [] W (hA.keep hb) (Ints.nil W) (hL.keep hb) (Ints.nil W) (Ints.nil W) (goodL_in hg) (fun j => by simp) (goodL_in hg2) (fun j => by simp) (fun j => by simp) (by omega) (by simp) (by omega) (by simp) (by simp) (hT.keep hw0 hb) (Nat.lt_of_lt_of_le hw0 hb.size))
  have hpw := (mk_ok xs [] hg).2
  have hqw := (mk_ok ys [] hg2).2
  have HEQ := hid (fun op oq => eqW_same (mk xs []) (mk ys []) hpw hqw op oq)
  have hsame : ∀ m1 m2, eqW (mk xs []) (mk ys []) = sameF (bitN (mk xs [])) (bitN (mk ys [])) → ∀ W, Mset W m1 (bitN (mk xs [])) → Mset W m2 (bitN (mk ys [])) → Calls Tryd.prog 11 #[.map (some m1), .map (some m2)] W fun e w' => e = .returned (.bool (eqW (mk xs []) (mk ys []))) ∧ Below W.heap.size W w' := fun m1 m2 he W h1 h2 => by
    rw [he]; exact same_any h1 h2
  have HSAME := hid hsame
  clear hsame
  have HOUT := hid (fun mb W f (h : Mset W mb f) => (show ∀ n, 200 < n → f n = false from by obtain ⟨_, _, _, _, hf⟩ := h; exact hf.out))
  have hca := hA.cap
  have hcl := hL.cap
  have d1 : decide ((2147483647 : Int) < (xs.length : Int)) = false := by simp; omega
  have d2 : decide ((2147483647 : Int) < (ys.length : Int)) = false := by simp; omega
  have d3 : decide ((100 : Int) < (xs.length : Int) + (ys.length : Int)) = false := by simp; omega
  clear hA hL hT hg hg2 hpw hqw
  go_enter Tryd.func4, Tryd.ntmps4
  go_wp2_with (first
    | (go_at_call_of 6 (Value.slice A xs.length ca); refine H6.out.mono ?_; rintro e w1 ⟨⟨mb, rfl, hm⟩, hb1⟩; have HM := hid hm; clear hm)
    | (go_at_call_of 6 (Value.slice L ys.length cl); refine (H7.out _ hb1).mono ?_; rintro e w2 ⟨⟨mb2, rfl, hm2⟩, hb2⟩; have HM2 := hid hm2; clear hm2)
    | (go_at_call 9; refine (HBT.out _ (bl hb1 hb2)).mono ?_; rintro e w4 ⟨⟨X, Y, U, rfl, ⟨X1, t1, rfl, o1⟩, ⟨X2, t2, rfl, o2⟩, ⟨X3, t3, rfl, o3⟩⟩, hb4⟩; have hs1 := slice_of o1; have hs2 := slice_of o2; have hs3 := slice_of o3; obtain ⟨B1, n1, k1, rfl⟩ := hs1; obtain ⟨B2, n2, k2, rfl⟩ := hs2; obtain ⟨B3, n3, k3, rfl⟩ := hs3; have he := HEQ.out (HOUT.out mb w1 _ HM.out) (HOUT.out mb2 w2 _ HM2.out); have HS11 := hid (HSAME.out mb mb2 he); clear o1 o2 o3 he; generalize eqW (mk xs []) (mk ys []) = qq at *)
    | (go_at_call 11; refine (HS11.out _ (HM.out.keep (bl (bl hb2 hb4) (bl (bl (bl1 w4 _) (bl1 _ _)) (bl1 _ _)))) (HM2.out.keep (bl hb4 (bl (bl (bl1 w4 _) (bl1 _ _)) (bl1 _ _))))).mono ?_; rintro e w5 ⟨rfl, hb5⟩)
    | (go_at_call 8; refine (HAW.out _ (bl (bl (bl (bl hb1 hb2) hb4) (bl (bl (bl1 w4 _) (bl1 _ _)) (bl1 _ _))) hb5)).mono ?_; rintro e w6 ⟨rfl, hb6⟩))
  all_goals go_ret
  all_goals exact ⟨rfl, bl (bl (bl (bl (bl hb1 hb2) hb4) (bl (bl (bl1 w4 _) (bl1 _ _)) (bl1 _ _))) hb5) hb6⟩

include hA hL hT hw0 in
/-- FnBitsEqual at any two lists -/
theorem equal_law : Calls Tryd.prog 4 #[.slice A xs.length ca, .slice L ys.length cl] w fun e w' => e = .returned (.bool true) ∧ Below w.heap.size w w' := by
  by_cases h1 : 2147483647 < xs.length ∨ 2147483647 < ys.length
  · exact equal_long A L ca cl xs ys w h1
  · by_cases h2 : goodL xs = false ∨ goodL ys = false ∨ 100 < xs.length + ys.length
    · exact equal_unasked A L ca cl xs ys w hA hL hT hw0 (by omega) (by omega) h2
    · have hg : goodL xs = true := by
        cases h : goodL xs
        · exact absurd (.inl h) h2
        · rfl
      have hg2 : goodL ys = true := by
        cases h : goodL ys
        · exact absurd (.inr (.inl h)) h2
        · rfl
      exact equal_asked A L ca cl xs ys w hA hL hT hw0 hg hg2 (by omega)
end
end Go.Proofs.YtifoeehfblddcaaDoor
