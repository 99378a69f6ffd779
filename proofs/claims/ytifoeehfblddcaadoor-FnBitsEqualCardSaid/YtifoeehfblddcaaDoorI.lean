/- the bit set's doors -/
import Derived.Test.YtifoeehfblddcaaDoorH
import Derived.Deep.RegionHeld3
namespace Go.Proofs.YtifoeehfblddcaaDoor
open Go.RowKit

theorem bl1 (w : World) (o : Obj) : Below w.heap.size w (w.alloc o) := (Below.refl _ _).alloc (Nat.le_refl _) _
theorem bl {w a b : World} (h : Below w.heap.size w a) (k : Below a.heap.size a b) : Below w.heap.size w b := h.trans (k.mono h.size)

set_option maxHeartbeats 400000 in
theorem newset_any (w : World) :
    Calls Tryd.prog 32 #[] w fun e w' => e = .returned (.pointer (some ⟨w.heap.size, 0, none⟩)) ∧ w' = w.alloc (.cells #[.slice none 0 0] 96) := by
  go_enter Tryd.func32, Tryd.ntmps32
  go_wp2_with fail
  go_ret
  exact ⟨rfl, rfl⟩

theorem newset_bset (w w' : World) (h : w' = w.alloc (.cells #[.slice none 0 0] 96)) : Bset w.heap.size w'.heap.size w' w.heap.size [] := by
  have hh : w'.heap[w.heap.size]? = some (.cells #[.slice none 0 0] 96 (0, 0)) := by
    rw [h]
    show (w.heap.push _)[w.heap.size]? = _
    exact Array.getElem?_push_size
  have hs : w'.heap.size = w.heap.size + 1 := by rw [h]; simp
  exact ⟨by omega, Nat.le_refl _, Nat.le_refl _, ⟨_, _, hh⟩, by decide, by simp, .inl ⟨rfl, by simp [World.cell?, hh]⟩⟩

theorem Bset.low {lo lo' hi : Nat} {w : World} {b : Nat} {ws : List Nat} (h : Bset lo hi w b ws) (h1 : lo' ≤ lo) : Bset lo' hi w b ws :=
  ⟨h.blt, Nat.le_trans h1 h.ble, h.top, h.own, h.len, h.wd, h.row.imp id fun ⟨a, d, c, k1, k2, k3, k4, k5, k6, k7⟩ => ⟨a, d, c, by omega, k2, k3, k4, k5, k6, k7⟩⟩

set_option maxHeartbeats 400000 in
theorem znew_any (w : World) :
    Calls Tryd.prog 16 #[] w fun e w' => ∃ b, e = .returned (.agg #[.pointer (some ⟨b, 0, none⟩)]) ∧ Bset w.heap.size w'.heap.size w' b [] ∧ Below w.heap.size w w' := by
  have H := hid newset_any
  go_enter Tryd.func16, Tryd.ntmps16
  go_wp2_with (go_at_call 32; refine (H.out _).mono ?_; rintro e w' ⟨rfl, rfl⟩)
  have hs : (w.alloc (.cells #[.pointer (some ⟨w.heap.size + 1, 0, none⟩)] 48)).heap.size = w.heap.size + 1 := by simp
  have hb := newset_bset (w.alloc (.cells #[.pointer (some ⟨w.heap.size + 1, 0, none⟩)] 48)) _ rfl
  rw [hs] at hb
  refine bodyPost_ret (v := .agg #[.pointer (some ⟨w.heap.size + 1, 0, none⟩)]) (by simp [results, Tryd.results16, go_sem]) rfl ⟨w.heap.size + 1, rfl, hb.low (Nat.le_succ _), bl (bl1 w _) (bl1 _ _)⟩

set_option maxHeartbeats 400000 in
theorem zadd_any {lo hi : Nat} {w : World} {b : Nat} {ws : List Nat} (h : Bset lo hi w b ws) (v : Nat) (hv : v ≤ 255) :
    Calls Tryd.prog 17 #[.agg #[.pointer (some ⟨b, 0, none⟩)], .int .i64 v] w fun e w' => e = .returned (.tuple #[]) ∧ Bset lo w'.heap.size w' b (addW ws v) ∧ Below lo w w' ∧ Fr b w w' := by
  have hle : lo ≤ w.heap.size := by have := h.ble; have := h.blt; have := h.top; omega
  have hB : ∀ o, Below lo w (w.alloc o) := fun o => (bl1 w o).mono hle
  have H := hid (fun W (hb : Below w.heap.size w W) => add_any (h.keep (hb.mono h.top)) v hv)
  clear h
  go_enter Tryd.func17, Tryd.ntmps17
  go_wp2_with (go_at_call 33; refine (H.out _ (bl1 w _)).mono ?_; rintro e w' ⟨rfl, hb, hbb, hff⟩; have HB := hid hb; have HFF := hid hff; clear hb hff)
  go_end0
  exact ⟨rfl, HB.out, (hB _).trans hbb, (Fr.of_below (bl1 w _)).trans HFF.out⟩

set_option maxHeartbeats 400000 in
theorem zremove_any {lo hi : Nat} {w : World} {b : Nat} {ws : List Nat} (h : Bset lo hi w b ws) (v : Nat) (hv : v ≤ 255) :
    Calls Tryd.prog 18 #[.agg #[.pointer (some ⟨b, 0, none⟩)], .int .i64 v] w fun e w' => e = .returned (.tuple #[]) ∧ Bset lo w'.heap.size w' b (clearW ws v) ∧ Below lo w w' ∧ Fr b w w' := by
  have hle : lo ≤ w.heap.size := by have := h.ble; have := h.blt; have := h.top; omega
  have hB : ∀ o, Below lo w (w.alloc o) := fun o => (bl1 w o).mono hle
  have H := hid (fun W (hb : Below w.heap.size w W) => remove_any (h.keep (hb.mono h.top)) v hv)
  clear h
  go_enter Tryd.func18, Tryd.ntmps18
  go_wp2_with (go_at_call 34; refine (H.out _ (bl1 w _)).mono ?_; rintro e w' ⟨rfl, hb, hbb, hff⟩; have HB := hid hb; have HFF := hid hff; clear hb hff)
  go_end0
  exact ⟨rfl, HB.out, (hB _).trans hbb, (Fr.of_below (bl1 w _)).trans HFF.out⟩

set_option maxHeartbeats 400000 in
theorem zlength_any {lo hi : Nat} {w : World} {b : Nat} {ws : List Nat} (h : Bset lo hi w b ws) :
    Calls Tryd.prog 20 #[.agg #[.pointer (some ⟨b, 0, none⟩)]] w fun e w' => e = .returned (.int .i64 ((popS ws ws.length : Nat) : Int)) ∧ Below w.heap.size w w' := by
  have hB := bl1 w
  have H := hid (fun W (hb : Below w.heap.size w W) => length_any (h.keep (hb.mono h.top)))
  clear h
  go_enter Tryd.func20, Tryd.ntmps20
  go_wp2_with (go_at_call 35; refine (H.out _ (bl1 w _)).mono ?_; rintro e w' ⟨rfl, rfl⟩)
  go_ret
  exact ⟨rfl, hB _⟩

theorem TzTab.keep {w w' : World} (h : TzTab w) (h0 : 0 < w.heap.size) (hb : Below w.heap.size w w') : TzTab w' := fun j hj => (hb.cell (p := ⟨0, j, none⟩) h0).trans (h j hj)

set_option maxHeartbeats 400000 in
theorem zleast_any {lo hi : Nat} {w : World} {b : Nat} {ws : List Nat} (h : Bset lo hi w b ws) (hT : TzTab w) :
    Calls Tryd.prog 22 #[.agg #[.pointer (some ⟨b, 0, none⟩)]] w fun e w' => e = .returned (.int .i64 ((minV ws ws.length 0 : Nat) : Int)) ∧ Below w.heap.size w w' := by
  have hB := bl1 w
  have h0 : 0 < w.heap.size := by have := h.ble; have := h.blt; have := h.top; omega
  have H := hid (fun W (hb : Below w.heap.size w W) => minvalue_any (h.keep (hb.mono h.top)) (hT.keep h0 hb))
  clear h hT
  go_enter Tryd.func22, Tryd.ntmps22
  go_wp2_with (go_at_call 37; refine (H.out _ (bl1 w _)).mono ?_; rintro e w' ⟨rfl, rfl⟩)
  go_ret
  exact ⟨rfl, hB _⟩

set_option maxHeartbeats 400000 in
theorem zcontains_any {lo hi : Nat} {w : World} {b : Nat} {ws : List Nat} (h : Bset lo hi w b ws) (v : Nat) (hv : v ≤ 1000) :
    Calls Tryd.prog 23 #[.agg #[.pointer (some ⟨b, 0, none⟩)], .int .i64 v] w fun e w' => e = .returned (.bool (bitN ws v)) ∧ Below w.heap.size w w' := by
  have hB := bl1 w
  have H := hid (fun W (hb : Below w.heap.size w W) => contains_any (h.keep (hb.mono h.top)) v hv)
  clear h
  go_enter Tryd.func23, Tryd.ntmps23
  go_wp2_with (go_at_call 38; refine (H.out _ (bl1 w _)).mono ?_; rintro e w' ⟨rfl, n, rfl⟩)
  go_ret
  exact ⟨rfl, ⟨rfl, rfl, rfl, (hB _).size, (hB _).block⟩⟩

set_option maxHeartbeats 400000 in
theorem zor_any {lo hi lo' : Nat} {w : World} {b b' : Nat} {us ss : List Nat} (h : Bset lo hi w b us) (h' : Bset lo' lo w b' ss) :
    Calls Tryd.prog 24 #[.agg #[.pointer (some ⟨b, 0, none⟩)], .agg #[.pointer (some ⟨b', 0, none⟩)]] w fun e w' => e = .returned (.tuple #[]) ∧ Bset lo w'.heap.size w' b (orW us ss) ∧ Below lo w w' ∧ Fr b w w' := by
  have hle : lo ≤ w.heap.size := by have := h.ble; have := h.blt; have := h.top; omega
  have hB : ∀ o o', Below w.heap.size w ((w.alloc o).alloc o') := fun o o' => bl (bl1 w o) (bl1 _ o')
  have H := hid (fun W (hb : Below w.heap.size w W) => or_any (h.keep (hb.mono h.top)) (h'.keep (hb.mono hle)))
  clear h h'
  go_enter Tryd.func24, Tryd.ntmps24
  go_wp2_with (go_at_call 39; refine (H.out _ (hB _ _)).mono ?_; rintro e w' ⟨rfl, hb, hbb, hff⟩; have HB := hid hb; have HFF := hid hff; clear hb hff)
  go_end0
  exact ⟨rfl, HB.out, ((hB _ _).mono hle).trans hbb, (Fr.of_below (hB _ _)).trans HFF.out⟩

set_option maxHeartbeats 400000 in
theorem zequal_any {lo hi lo' hi' : Nat} {w : World} {b b' : Nat} {us ss : List Nat} (h : Bset lo hi w b us) (h' : Bset lo' hi' w b' ss) (hne : b ≠ b') :
    Calls Tryd.prog 25 #[.agg #[.pointer (some ⟨b, 0, none⟩)], .agg #[.pointer (some ⟨b', 0, none⟩)]] w fun e w' => e = .returned (.bool (eqW us ss)) ∧ Below w.heap.size w w' := by
  have hB : ∀ o o', Below w.heap.size w ((w.alloc o).alloc o') := fun o o' => bl (bl1 w o) (bl1 _ o')
  have H := hid (fun W (hb : Below w.heap.size w W) => equals_any (h.keep (hb.mono h.top)) (h'.keep (hb.mono h'.top)) hne)
  clear h h'
  go_enter Tryd.func25, Tryd.ntmps25
  go_wp2_with (go_at_call 40; refine (H.out _ (hB _ _)).mono ?_; rintro e w' ⟨rfl, n, rfl⟩)
  go_ret
  exact ⟨rfl, ⟨rfl, rfl, rfl, (hB _ _).size, (hB _ _).block⟩⟩
end Go.Proofs.YtifoeehfblddcaaDoor
