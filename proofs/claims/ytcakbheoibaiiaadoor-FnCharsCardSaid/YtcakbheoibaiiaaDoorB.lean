/- walks of the stream's methods -/
import Derived.Test.YtcakbheoibaiiaaDoorA
import Derived.Laws.Cover4
namespace Go.Proofs.YtcakbheoibaiiaaDoor
open Go.RowKit

set_option maxHeartbeats 400000 in
theorem consume_ok (a : Nat) (i n : Int) (w : World) (h0 : 0 ≤ i) (hn : n ≤ 1000000) (hlt : i < n) (hc : w.cell? ⟨a, 1, none⟩ = some (.int .i64 i)) (hs : w.cell? ⟨a, 3, none⟩ = some (.int .i64 n)) (hf : w.frozen? ⟨a, 1, none⟩ = false) :
    Calls Tryd.prog 22 #[.pointer (some ⟨a, 0, none⟩)] w fun e w' => e = .returned (.tuple #[]) ∧ ∃ q, (w.drewN q).setCell ⟨a, 1, none⟩ (.int .i64 (i + 1)) = w' := by
  have hd : decide (n ≤ i) = false := by simpa using hlt
  go_enter Tryd.func22, Tryd.ntmps22
  go_wp2
  go_quiet (fail)
  go_wp2
  go_end0
  exact ⟨rfl, _, rfl⟩

set_option maxHeartbeats 400000 in
theorem consume_end (a : Nat) (i n : Int) (w : World) (hlt : n ≤ i) (hc : w.cell? ⟨a, 1, none⟩ = some (.int .i64 i)) (hs : w.cell? ⟨a, 3, none⟩ = some (.int .i64 n)) :
    Calls Tryd.prog 22 #[.pointer (some ⟨a, 0, none⟩)] w fun e w' => (∃ x u, e = .panicked [{ v := .iface u x, recovered := false }]) ∧ ∃ q, w.drewN q = w' := by
  have hd : decide (n ≤ i) = true := by simpa using hlt
  go_enter Tryd.func22, Tryd.ntmps22
  go_wp2
  go_quiet (fail)
  go_wp2
  exact ⟨rfl, ⟨_, _, rfl⟩, _, rfl⟩

set_option maxHeartbeats 400000 in
theorem la_pos_in (a d : Nat) (i x : Int) (p n c : Nat) (r : Int) (w : World) (h0 : 0 ≤ i) (hi : i ≤ 1000000) (hx : 0 < x) (hx2 : x ≤ 1000000) (hp : (p : Int) = i + x - 1) (hlt : p < n) (hn : n ≤ 1000000)
    (hc : w.cell? ⟨a, 1, none⟩ = some (.int .i64 i)) (hdat : w.cell? ⟨a, 2, none⟩ = some (.slice (some ⟨d, 0, none⟩) n c)) (hs : w.cell? ⟨a, 3, none⟩ = some (.int .i64 n)) (hr : w.cell? ⟨d, p, none⟩ = some (.int .i32 r)) (hr1 : 0 ≤ r) (hr2 : r ≤ 2100000) :
    Calls Tryd.prog 23 #[.pointer (some ⟨a, 0, none⟩), .int .i64 x] w fun e w' => e = .returned (.int .i64 r) ∧ w = w' := by
  have hx0 : (x == 0) = false := by simp; omega
  have hx1 : decide (x < 0) = false := by simp; omega
  have e1 : i + x - 1 = (p : Int) := hp.symm
  clear hp
  have hq1 : decide ((p : Int) < 0) = false := by simp
  have hq2 : decide ((n : Int) ≤ (p : Int)) = false := by simp; omega
  go_enter Tryd.func23, Tryd.ntmps23
  go_wp2
  go_ret
  exact ⟨rfl, rfl⟩

set_option maxHeartbeats 400000 in
theorem la_neg_in (a d : Nat) (i x : Int) (p n c : Nat) (r : Int) (w : World) (h0 : 0 ≤ i) (hi : i ≤ 1000000) (hx : x < 0) (hx2 : -1000000 ≤ x) (hp : (p : Int) = i + x) (hlt : p < n) (hn : n ≤ 1000000)
    (hc : w.cell? ⟨a, 1, none⟩ = some (.int .i64 i)) (hdat : w.cell? ⟨a, 2, none⟩ = some (.slice (some ⟨d, 0, none⟩) n c)) (hs : w.cell? ⟨a, 3, none⟩ = some (.int .i64 n)) (hr : w.cell? ⟨d, p, none⟩ = some (.int .i32 r)) (hr1 : 0 ≤ r) (hr2 : r ≤ 2100000) :
    Calls Tryd.prog 23 #[.pointer (some ⟨a, 0, none⟩), .int .i64 x] w fun e w' => e = .returned (.int .i64 r) ∧ w = w' := by
  have hx0 : (x == 0) = false := by simp; omega
  have hx1 : decide (x < 0) = true := by simp; omega
  have e1 : i + (x + 1) - 1 = (p : Int) := by omega
  clear hp
  have hq1 : decide ((p : Int) < 0) = false := by simp
  have hq2 : decide ((n : Int) ≤ (p : Int)) = false := by simp; omega
  go_enter Tryd.func23, Tryd.ntmps23
  go_wp2
  go_ret
  exact ⟨rfl, rfl⟩

set_option maxHeartbeats 400000 in
theorem la_pos_out (a : Nat) (i x : Int) (n : Nat) (w : World) (h0 : 0 ≤ i) (hi : i ≤ 1000000) (hx : 0 < x) (hx2 : x ≤ 1000000) (hlt : (n : Int) ≤ i + x - 1) 
    (hc : w.cell? ⟨a, 1, none⟩ = some (.int .i64 i)) (hs : w.cell? ⟨a, 3, none⟩ = some (.int .i64 n)) :
    Calls Tryd.prog 23 #[.pointer (some ⟨a, 0, none⟩), .int .i64 x] w fun e w' => e = .returned (.int .i64 (-1)) ∧ w = w' := by
  have hx0 : (x == 0) = false := by simp; omega
  have hx1 : decide (x < 0) = false := by simp; omega
  have hq1 : decide (i + x - 1 < 0) = false := by simp; omega
  have hq2 : decide ((n : Int) ≤ i + x - 1) = true := by simp; omega
  go_enter Tryd.func23, Tryd.ntmps23
  go_wp2
  go_ret
  exact ⟨rfl, rfl⟩

set_option maxHeartbeats 400000 in
theorem la_neg_low (a : Nat) (i x : Int) (w : World) (h0 : 0 ≤ i) (hi : i ≤ 1000000) (hx : x < 0) (hx2 : -1000000 ≤ x) (hlt : i + x < 0) 
    (hc : w.cell? ⟨a, 1, none⟩ = some (.int .i64 i)) :
    Calls Tryd.prog 23 #[.pointer (some ⟨a, 0, none⟩), .int .i64 x] w fun e w' => e = .returned (.int .i64 (-1)) ∧ w = w' := by
  have hx0 : (x == 0) = false := by simp; omega
  have hx1 : decide (x < 0) = true := by simp; omega
  have hq1 : decide (i + (x + 1) - 1 < 0) = true := by simp; omega
  go_enter Tryd.func23, Tryd.ntmps23
  go_wp2
  go_ret
  exact ⟨rfl, rfl⟩

set_option maxHeartbeats 400000 in
theorem seek_back (a : Nat) (i x : Int) (w : World) (hx : x ≤ i)
    (hc : w.cell? ⟨a, 1, none⟩ = some (.int .i64 i)) (hf : w.frozen? ⟨a, 1, none⟩ = false) :
    Calls Tryd.prog 24 #[.pointer (some ⟨a, 0, none⟩), .int .i64 x] w fun e w' => e = .returned (.tuple #[]) ∧ w.setCell ⟨a, 1, none⟩ (.int .i64 x) = w' := by
  have hx1 : decide (x ≤ i) = true := by simp; omega
  go_enter Tryd.func24, Tryd.ntmps24
  go_wp2
  refine bodyPost_ret (results_none rfl _ _ _) rfl ?_
  exact ⟨rfl, rfl⟩

set_option maxHeartbeats 400000 in
theorem seek_forth (a : Nat) (i x n : Int) (w : World) (hx : i < x) (hn : x ≤ n)
    (hc : w.cell? ⟨a, 1, none⟩ = some (.int .i64 i)) (hs : w.cell? ⟨a, 3, none⟩ = some (.int .i64 n)) (hf : w.frozen? ⟨a, 1, none⟩ = false) :
    Calls Tryd.prog 24 #[.pointer (some ⟨a, 0, none⟩), .int .i64 x] w fun e w' => e = .returned (.tuple #[]) ∧ w.setCell ⟨a, 1, none⟩ (.int .i64 x) = w' := by
  have hx1 : decide (x ≤ i) = false := by simp; omega
  have hm : (if x < n then x else n) = x := by split <;> omega
  have cm : ∀ w, Calls Tryd.prog 33 #[.int .i64 x, .int .i64 n] w fun e w' => e = .returned (.int .i64 x) ∧ w = w' := fun w => (intmin_any x n w).mono fun e w' ⟨he, hw⟩ => ⟨by rw [he, hm], hw⟩
  clear hm
  go_enter Tryd.func24, Tryd.ntmps24
  go_wp2_with (go_at_call 33; refine (cm _).mono ?_; rintro e w' ⟨rfl, rfl⟩)
  go_end0
  exact ⟨rfl, rfl⟩

set_option maxHeartbeats 400000 in
theorem gettext_in (a d : Nat) (x y n c : Nat) (zs : List Int) (w : World) (hxy : x ≤ y) (hlt : y < n) (hn : n ≤ 1000000) (hnc : n ≤ c) (hz : zs.length = n)
    (hdat : w.cell? ⟨a, 2, none⟩ = some (.slice (some ⟨d, 0, none⟩) n c)) (hs : w.cell? ⟨a, 3, none⟩ = some (.int .i64 n))
    (hr : ∀ j, j < zs.length → w.cell? ⟨d, j, none⟩ = some (.int .i32 (zs.getD j 0))) :
    Calls Tryd.prog 29 #[.pointer (some ⟨a, 0, none⟩), .int .i64 x, .int .i64 y] w fun e w' => e = .returned (.string (runesBytes ((zs.drop x).take (y + 1 - x)))) ∧ w = w' := by
  have hconv : (convert 22 9 (.slice (some ⟨d, x, none⟩) (y + 1 - x) (c - x))).run Tryd.prog w = .ok (.string (runesBytes ((zs.drop x).take (y + 1 - x)))) w := by
    refine run_convert_runes w 22 9 21 ⟨d, x, none⟩ (y + 1 - x) (c - x) (zs.drop x) (by simp; omega) Tryd.underlying22 Tryd.underlying21 Tryd.underlying9 ?_
    intro j hj
    have hj' : x + j < zs.length := by simp at hj; omega
    have := hr (x + j) hj'
    have ea : (⟨d, x, none⟩ : Addr).add j = ⟨d, x + j, none⟩ := by
      unfold Addr.add; split
      · subst_vars; rfl
      · rfl
    rw [ea, this]
    simp [List.getD]
  clear hr hz
  have h1 : decide ((n : Int) ≤ (y : Int)) = false := by simp; omega
  have h2 : decide ((n : Int) ≤ (x : Int)) = false := by simp; omega
  have hxc : x < c := by omega
  have hyc : y + 1 ≤ c := by omega
  go_enter Tryd.func29, Tryd.ntmps29
  go_wp2
  go_ret
  exact ⟨rfl, rfl⟩


set_option maxHeartbeats 400000 in
theorem text_all (a d : Nat) (n c : Nat) (zs : List Int) (w : World) (hz : zs.length = n)
    (hdat : w.cell? ⟨a, 2, none⟩ = some (.slice (some ⟨d, 0, none⟩) n c))
    (hr : ∀ j, j < zs.length → w.cell? ⟨d, j, none⟩ = some (.int .i32 (zs.getD j 0))) :
    Calls Tryd.prog 32 #[.pointer (some ⟨a, 0, none⟩)] w fun e w' => e = .returned (.string (runesBytes zs)) ∧ w = w' := by
  have hconv : (convert 22 9 (.slice (some ⟨d, 0, none⟩) n c)).run Tryd.prog w = .ok (.string (runesBytes zs)) w := by
    have := run_convert_runes (P := Tryd.prog) w 22 9 21 ⟨d, 0, none⟩ n c zs (by omega) Tryd.underlying22 Tryd.underlying21 Tryd.underlying9 (by
      intro j hj
      have := hr j hj
      have ea : (⟨d, 0, none⟩ : Addr).add j = ⟨d, j, none⟩ := by
        unfold Addr.add; split
        · subst_vars; rfl
        · simp
      rw [ea, this])
    rw [this, List.take_of_length_le (by omega)]
  clear hr hz
  go_enter Tryd.func32, Tryd.ntmps32
  go_wp2
  go_ret
  exact ⟨rfl, rfl⟩

set_option maxHeartbeats 400000 in
theorem newinterval (x y : Int) (w : World) :
    Calls Tryd.prog 31 #[.int .i64 x, .int .i64 y] w fun e w' => e = .returned (.agg #[.int .i64 x, .int .i64 y]) ∧ w.alloc (.cells #[.int .i64 x, .int .i64 y] 65) = w' := by
  go_enter Tryd.func31, Tryd.ntmps31
  go_wp2
  exact bodyPost_ret (v := .agg #[.int .i64 x, .int .i64 y]) (by simp [results, Tryd.results31, go_sem]) rfl ⟨rfl, rfl⟩

end Go.Proofs.YtcakbheoibaiiaaDoor
