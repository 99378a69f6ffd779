/- the bit set: what it is in memory; asking it -/
import Derived.Test.YtifoeehfblddcaaDoorB
import Derived.Laws.CopyOwn
import Derived.Deep.OwnRows
import Derived.OwnWalk
import Derived.Deep.LoopGhost
import Derived.StillTailTactics
namespace Go.Proofs.YtifoeehfblddcaaDoor
open Go.RowKit

/-- has a set of words a number -/
def bitN (ws : List Nat) (n : Nat) : Bool := (ws.getD (n / 64) 0).testBit (n % 64)

/-- the words' cells -/
def wcells (ws : List Nat) : List Value := ws.map fun (x : Nat) => .int .u64 (x : Int)

/-- a bit set at block b, its words in a block of their own; both from lo on, below hi -/
structure Bset (lo hi : Nat) (w : World) (b : Nat) (ws : List Nat) : Prop where
  blt : b < hi
  ble : lo ≤ b
  top : hi ≤ w.heap.size
  own : ∃ v t, w.heap[b]? = some (.cells #[v] t (0, 0))
  len : ws.length ≤ 4
  wd : ∀ j, ws.getD j 0 < 18446744073709551616
  row : (ws = [] ∧ w.cell? ⟨b, 0, none⟩ = some (.slice none 0 0)) ∨
    (0 < ws.length ∧ ∃ d c, lo ≤ d ∧ d < hi ∧ d ≠ b ∧ ws.length ≤ c ∧ c ≤ 4 ∧ w.cell? ⟨b, 0, none⟩ = some (.slice (some ⟨d, 0, none⟩) ws.length c) ∧ w.heap[d]? = some (.cells (wcells ws).toArray 98 (0, 0)))

theorem wcell {w : World} {d : Nat} {ws : List Nat} {t : TypeId} (h : w.heap[d]? = some (.cells (wcells ws).toArray t (0, 0))) (j : Nat) (hj : j < ws.length) :
    w.cell? ⟨d, j, none⟩ = some (.int .u64 ((ws.getD j 0 : Nat) : Int)) := by
  simp [World.cell?, h, wcells, hj]
theorem wfroz {w : World} {d : Nat} {ws : List Nat} {t : TypeId} (h : w.heap[d]? = some (.cells (wcells ws).toArray t (0, 0))) (j : Nat) :
    w.frozen? ⟨d, j, none⟩ = false := by
  simp [World.frozen?, h]

theorem Bset.fr {lo hi : Nat} {w : World} {b : Nat} {ws : List Nat} (h : Bset lo hi w b ws) : w.frozen? ⟨b, 0, none⟩ = false := by
  obtain ⟨v, t, hh⟩ := h.own
  simp [World.frozen?, hh]

theorem Bset.keep {lo hi : Nat} {w w' : World} {b : Nat} {ws : List Nat} (h : Bset lo hi w b ws) (hb : Below hi w w') : Bset lo hi w' b ws where
  blt := h.blt
  ble := h.ble
  top := Nat.le_trans h.top hb.size
  own := h.own.imp fun v ⟨t, hh⟩ => ⟨t, (hb.block _ h.blt).trans hh⟩
  len := h.len
  wd := h.wd
  row := by
    rcases h.row with ⟨a, b⟩ | ⟨a, d, c, h1, h2, h3, h4, h5, h6, h7⟩
    · exact .inl ⟨a, (World.cell?_of_block (hb.block _ h.blt)).trans b⟩
    · exact .inr ⟨a, d, c, h1, h2, h3, h4, h5, (World.cell?_of_block (hb.block _ h.blt)).trans h6, (hb.block _ h2).trans h7⟩

theorem quiet_eq {P : Program} {f : FuncId} {args : Array Value} {w : World} {n : Nat} {v : Value}
    (h : Calls P f args (w.drewN n) fun e w' => e = .returned v ∧ w.drewN n = w') : Calls P f args (w.drewN n) fun e w'' => e = .returned v ∧ ∃ m, w'' = w.drewN m :=
  h.mono fun _ _ ⟨he, hm⟩ => ⟨he, n, hm.symm⟩

theorem bit_and (x k : Nat) (hx : x < 18446744073709551616) (hk : k < 64) : (!(bits BinOp.and IntKind.u64 (x : Int) ((2 ^ k : Nat) : Int) == 0)) = x.testBit k := by
  have h : 2 ^ k < 2 ^ 64 := Nat.pow_lt_pow_right (by decide) hk
  have h2 : 0 < 2 ^ k := Nat.two_pow_pos k
  rw [u64_and_nat x _ hx (by omega), nat_bit, Nat.testBit_eq_decide_div_mod_eq]
  rcases Nat.mod_two_eq_zero_or_one (x / 2 ^ k) with h0 | h0 <;> rw [h0]
  · simp
  · generalize 2 ^ k = m at *
    have : (m : Int) ≠ 0 := by omega
    simp; omega

set_option maxHeartbeats 400000 in
theorem contains_in (b d c v m x k : Nat) (lenw : Nat) (w : World) (hv : v ≤ 1000) (hx : x < 18446744073709551616) (hidx : v / 64 = k) (hm : v % 64 = m) (hk : k < lenw) (hl : lenw ≤ 4) (hlc : lenw ≤ c) (hc : w.cell? ⟨b, 0, none⟩ = some (.slice (some ⟨d, 0, none⟩) lenw c))
    (hcell : w.cell? ⟨d, k, none⟩ = some (.int .u64 (x : Int))) :
    Calls Tryd.prog 38 #[.pointer (some ⟨b, 0, none⟩), .int .i64 v] w fun e w' => e = .returned (.bool (x.testBit m)) ∧ ∃ n, w' = w.drewN n := by
  have hm64 : m < 64 := by omega
  rw [← bit_and x m hx hm64]
  have hi := hid (fun w => index_any v w hv)
  have hmk := hid (fun w => mask_any v w hv)
  have h1 : decide ((lenw : Int) ≤ (k : Int)) = false := by simp; omega
  have hi2 : ∀ w, Calls Tryd.prog 54 #[.int .i64 v] w fun e w' => e = .returned (.int .i64 (k : Int)) ∧ w = w' := fun w => hidx ▸ index_any v w hv
  have hm2 : ∀ w, Calls Tryd.prog 56 #[.int .i64 v] w fun e w' => e = .returned (.int .u64 ((2 ^ m : Nat) : Int)) ∧ w = w' := fun w => hm ▸ mask_any v w hv
  generalize ((2 ^ m : Nat) : Int) = mm at *
  have HI := hid hi2
  have HM := hid hm2
  clear hi2 hm2 hi hmk hidx hm
  go_enter Tryd.func38, Tryd.ntmps38
  go_wp2_with (go_at_call 54; refine (HI.out _).mono ?_; rintro e w' ⟨rfl, rfl⟩)
  go_quiet ((go_at_call 56; exact quiet_eq (HM.out _)))
  go_wp2_with fail
  go_ret
  exact ⟨rfl, _, rfl⟩


set_option maxHeartbeats 400000 in
theorem contains_out (b v k : Nat) (A : Option Addr) (lenw c : Nat) (w : World) (hv : v ≤ 1000) (hidx : v / 64 = k) (hk : lenw ≤ k) (hc : w.cell? ⟨b, 0, none⟩ = some (.slice A lenw c)) :
    Calls Tryd.prog 38 #[.pointer (some ⟨b, 0, none⟩), .int .i64 v] w fun e w' => e = .returned (.bool false) ∧ w = w' := by
  have h1 : decide ((lenw : Int) ≤ (k : Int)) = true := by simp; omega
  have hi2 : ∀ w, Calls Tryd.prog 54 #[.int .i64 v] w fun e w' => e = .returned (.int .i64 (k : Int)) ∧ w = w' := fun w => hidx ▸ index_any v w hv
  have HI := hid hi2
  clear hi2 hidx
  go_enter Tryd.func38, Tryd.ntmps38
  go_wp2_with (go_at_call 54; refine (HI.out _).mono ?_; rintro e w' ⟨rfl, rfl⟩)
  go_ret
  exact ⟨rfl, rfl⟩

theorem contains_any {lo hi : Nat} {w : World} {b : Nat} {ws : List Nat} (h : Bset lo hi w b ws) (v : Nat) (hv : v ≤ 1000) :
    Calls Tryd.prog 38 #[.pointer (some ⟨b, 0, none⟩), .int .i64 v] w fun e w' => e = .returned (.bool (bitN ws v)) ∧ ∃ n, w' = w.drewN n := by
  have out : ∀ A c, w.cell? ⟨b, 0, none⟩ = some (.slice A ws.length c) → ws.length ≤ v / 64 → Calls Tryd.prog 38 #[.pointer (some ⟨b, 0, none⟩), .int .i64 v] w fun e w' => e = .returned (.bool (bitN ws v)) ∧ ∃ n, w' = w.drewN n := by
    intro A c hc hl
    refine (contains_out b v _ A _ c w hv rfl hl hc).mono ?_
    rintro e w' ⟨rfl, rfl⟩
    refine ⟨?_, 0, rfl⟩
    unfold bitN
    rw [List.getD_eq_getElem?_getD, List.getElem?_eq_none hl]
    simp
  rcases h.row with ⟨rfl, hc⟩ | ⟨hpos, d, c, h1, h2, h3, h4, h5, h6, h7⟩
  · exact out none 0 hc (Nat.zero_le _)
  · by_cases hl : ws.length ≤ v / 64
    · exact out _ _ h6 hl
    · exact contains_in b d c v (v % 64) (ws.getD (v / 64) 0) (v / 64) ws.length w hv (h.wd _) rfl rfl (by omega) h.len h4 h6 (wcell h7 _ (by omega))

end Go.Proofs.YtifoeehfblddcaaDoor
