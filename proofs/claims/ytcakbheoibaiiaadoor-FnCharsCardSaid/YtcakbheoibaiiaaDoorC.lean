/- walks: the stream made, a text by an interval, the recovering closure -/
import Derived.Test.YtcakbheoibaiiaaDoorB
import Derived.Recover
import Derived.Laws.IdiomStrings
namespace Go.Proofs.YtcakbheoibaiiaaDoor
open Go.RowKit

set_option maxHeartbeats 400000 in
theorem textival_in (a d : Nat) (x y n c : Nat) (zs : List Int) (w : World) (hxy : x ≤ y) (hlt : y < n) (hn : n ≤ 1000000) (hnc : n ≤ c) (hz : zs.length = n) (ha : a < w.heap.size) (hdl : d < w.heap.size)
    (hdat : w.cell? ⟨a, 2, none⟩ = some (.slice (some ⟨d, 0, none⟩) n c)) (hs : w.cell? ⟨a, 3, none⟩ = some (.int .i64 n))
    (hr : ∀ j, j < zs.length → w.cell? ⟨d, j, none⟩ = some (.int .i32 (zs.getD j 0))) :
    Calls Tryd.prog 30 #[.pointer (some ⟨a, 0, none⟩), .agg #[.int .i64 x, .int .i64 y]] w fun e w' => e = .returned (.string (runesBytes ((zs.drop x).take (y + 1 - x)))) ∧ w.alloc (.cells #[.int .i64 x, .int .i64 y] 65) = w' := by
  have hA : ∀ (b o : Nat), b < w.heap.size → (w.alloc (.cells #[.int .i64 x, .int .i64 y] 65)).cell? ⟨b, o, none⟩ = w.cell? ⟨b, o, none⟩ := fun b o h => World.cell?_alloc_lt w _ _ h
  have key := gettext_in a d x y n c zs (w.alloc (.cells #[.int .i64 x, .int .i64 y] 65)) hxy hlt hn hnc hz ((hA _ _ ha).trans hdat) ((hA _ _ ha).trans hs) (fun j hj => (hA _ _ hdl).trans (hr j hj))
  clear hr hA hz
  go_enter Tryd.func30, Tryd.ntmps30
  go_wp2_with (go_at_call 29; refine key.mono ?_; rintro e w' ⟨rfl, rfl⟩)
  go_ret
  exact ⟨rfl, rfl⟩

set_option maxHeartbeats 400000 in
theorem newstream (s : ByteArray) (w : World) (hs : s.size ≤ 1000000) (rs : Array Value) (c : Nat) (hrs : Conv.runesFrom s s.size 0 #[] = rs) (hc : grownCap w rs.size 0 21 = c) :
    Calls Tryd.prog 14 #[.string s] w fun e w' => e = .returned (.pointer (some ⟨w.heap.size + 1, 0, none⟩)) ∧
      (w.drew.alloc (.cells (rs ++ Array.replicate (c - rs.size) (.int .i32 0)) 21)).alloc (.cells #[.string ⟨#[60, 101, 109, 112, 116, 121, 62]⟩, .int .i64 0, .slice (some ⟨w.heap.size, 0, none⟩) rs.size c, .int .i64 rs.size] 58) = w' := by
  have hsz : rs.size ≤ s.size := by rw [← hrs]; simpa using size_runesFrom s s.size 0 #[]
  have hm : rs.size ≤ 1000000 := by omega
  have hconv := run_runes_of_string (P := Tryd.prog) w 9 22 21 s Tryd.underlying9 Tryd.underlying22 Tryd.underlying21 (by rw [hrs]; omega)
  rw [hrs, hc] at hconv
  clear hrs hc hsz hs
  go_enter Tryd.func14, Tryd.ntmps14
  go_wp2
  go_ret
  exact ⟨rfl, rfl⟩

theorem catch_panicking (p : Nat) (v0 v1 v2 v3 : Value) (u : TypeId) (pv : Value) (older : List PanicEntry) (w : World) (h0 : w.cell? ⟨p, 0, none⟩ = some v0) (h1 : w.cell? ⟨p, 1, none⟩ = some v1) (h2 : w.cell? ⟨p, 2, none⟩ = some v2) (h3 : w.cell? ⟨p, 3, none⟩ = some v3) (hz : ∀ j, w.frozen? ⟨p, j, none⟩ = false) :
    CallsD Tryd.prog 21 #[.pointer (some ⟨p, 0, none⟩)] (.panicking ({ v := .iface u pv, recovered := false } :: older)) w fun e u' w' =>
      e = .returned (.tuple #[]) ∧ u' = .panicking ({ v := .iface u pv, recovered := true } :: older) ∧ w' = (((w.setCell ⟨p, 0, none⟩ (.int .i64 0)).setCell ⟨p, 1, none⟩ (.string ⟨#[]⟩)).setCell ⟨p, 2, none⟩ (.slice none 0 0)).setCell ⟨p, 3, none⟩ (.bool true) := by
  refine callsD_of_wpS Tryd.func21 rfl fun c₀ cs hu => ?_
  apply wpS_seq
  apply wpS_region
  simp [wpOpsS, go_sem, recoverD, hu, Tryd.ntmps21, Exit.thenS]
  refine wpS_cond (t := true) (by simp [Act.eval, Array.replicate]) ?_
  simp only [if_true]
  apply wpS_region
  simp [wpOpsS, go_sem, h0, h1, h2, h3, hz, bodyPostS, results, Tryd.results21]

theorem catch_idle (p : Addr) (w : World) :
    CallsD Tryd.prog 21 #[.pointer (some p)] .returning w fun e u' w' => e = .returned (.tuple #[]) ∧ u' = .returning ∧ w' = w := by
  refine callsD_of_wpS Tryd.func21 rfl fun c₀ cs hu => ?_
  apply wpS_seq
  apply wpS_region
  simp [wpOpsS, go_sem, recoverD, hu, Tryd.ntmps21, Exit.thenS]
  refine wpS_cond (t := false) (by simp [Act.eval, Array.replicate]) ?_
  simp only [Bool.false_eq_true, if_false]
  refine wpS_of_wp (wp_skip ?_)
  cases c₀
  simp_all [bodyPostS, results, Tryd.results21]

end Go.Proofs.YtcakbheoibaiiaaDoor
