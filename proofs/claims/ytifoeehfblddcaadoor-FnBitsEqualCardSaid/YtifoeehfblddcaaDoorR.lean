/- impl.Bits -/
import Derived.Test.YtifoeehfblddcaaDoorM
import Derived.Test.YtifoeehfblddcaaDoorN
namespace Go.Proofs.YtifoeehfblddcaaDoor
open Go.RowKit

/-- what is told of a set -/
def Told (w : World) (base : Nat) (X : Value) (ws : List Nat) (zs : List Int) : Prop :=
  ∃ H s, X = .agg #[H, .int .i64 (popS ws ws.length : Nat), .int .i64 (tellLeast ws : Nat), .string s] ∧ w.ownsRow base 4 1 H zs.length (hasCells ws zs)

theorem told_mk {W : World} {base : Nat} {H : Value} {s : ByteArray} {ws : List Nat} {zs : List Int} (h : W.ownsRow base 4 1 H zs.length (hasCells ws zs)) : Told W base (.agg #[H, .int .i64 (popS ws ws.length : Nat), .int .i64 (tellLeast ws : Nat), .string s]) ws zs := ⟨H, s, rfl, h⟩

def mk (xs ys : List Int) : List Nat := clearAll (addAll [] xs) ys

/-- the three sets, and the variables that hold them -/
structure Three (w0 : World) (lou t b1 b2 b3 : Nat) (pw qw uw : List Nat) (W : World) : Prop where
  p : ∃ lo, Bset lo lou W b1 pw
  q : ∃ lo, Bset lo lou W b2 qw
  u : Bset lou W.heap.size W b3 uw
  ne : b1 ≠ b2
  c1 : W.heap[t]? = some (.cells #[.pointer (some ⟨b1, 0, none⟩)] 48 (0, 0))
  c2 : W.heap[t + 1]? = some (.cells #[.pointer (some ⟨b2, 0, none⟩)] 48 (0, 0))
  c3 : W.heap[t + 1 + 1]? = some (.cells #[.pointer (some ⟨b3, 0, none⟩)] 48 (0, 0))
  lt : b3 < t
  bel : Below w0.heap.size w0 W
  le : w0.heap.size ≤ lou

theorem three_start {w0 w1 w2 w3 : World} {b1 b2 b3 : Nat} {pw qw : List Nat} (h1 : Bset w0.heap.size w1.heap.size w1 b1 pw) (k1 : Below w0.heap.size w0 w1) (h2 : Bset w1.heap.size w2.heap.size w2 b2 qw) (k2 : Below w1.heap.size w1 w2) (h3 : Bset w2.heap.size w3.heap.size w3 b3 []) (k3 : Below w2.heap.size w2 w3) :
    Three w0 w2.heap.size w3.heap.size b1 b2 b3 pw qw [] (((w3.alloc (.cells #[.pointer (some ⟨b1, 0, none⟩)] 48)).alloc (.cells #[.pointer (some ⟨b2, 0, none⟩)] 48)).alloc (.cells #[.pointer (some ⟨b3, 0, none⟩)] 48)) := by
  have a := bl1 w3 (.cells #[.pointer (some ⟨b1, 0, none⟩)] 48)
  have b := bl1 (w3.alloc (.cells #[.pointer (some ⟨b1, 0, none⟩)] 48)) (.cells #[.pointer (some ⟨b2, 0, none⟩)] 48)
  have c := bl1 ((w3.alloc (.cells #[.pointer (some ⟨b1, 0, none⟩)] 48)).alloc (.cells #[.pointer (some ⟨b2, 0, none⟩)] 48)) (.cells #[.pointer (some ⟨b3, 0, none⟩)] 48)
  have e1 := heap_alloc_new w3 #[.pointer (some ⟨b1, 0, none⟩)] 48
  have e2 := heap_alloc_new (w3.alloc (.cells #[.pointer (some ⟨b1, 0, none⟩)] 48)) #[.pointer (some ⟨b2, 0, none⟩)] 48
  have e3 := heap_alloc_new ((w3.alloc (.cells #[.pointer (some ⟨b1, 0, none⟩)] 48)).alloc (.cells #[.pointer (some ⟨b2, 0, none⟩)] 48)) #[.pointer (some ⟨b3, 0, none⟩)] 48
  have s1 : (w3.alloc (.cells #[.pointer (some ⟨b1, 0, none⟩)] 48)).heap.size = w3.heap.size + 1 := by simp
  have s2 : ((w3.alloc (.cells #[.pointer (some ⟨b1, 0, none⟩)] 48)).alloc (.cells #[.pointer (some ⟨b2, 0, none⟩)] 48)).heap.size = w3.heap.size + 2 := by simp
  generalize w3.alloc (.cells #[.pointer (some ⟨b1, 0, none⟩)] 48) = w4 at *
  generalize w4.alloc (.cells #[.pointer (some ⟨b2, 0, none⟩)] 48) = w5 at *
  generalize w5.alloc (.cells #[.pointer (some ⟨b3, 0, none⟩)] 48) = w6 at *
  have abc := bl (bl a b) c
  have kk := bl k2 k3
  have k12 := k1.size
  have k22 := k2.size
  have k32 := k3.size
  have c6 := c.size
  rw [s2] at e3
  rw [s1] at e2
  refine ⟨⟨_, ((h1.keep (bl kk abc)).wide k22 (by omega))⟩, ⟨_, h2.keep (bl k3 abc)⟩, (h3.keep abc).wide (by omega) (Nat.le_refl _), ?_, ?_, ?_, ?_, h3.blt, bl (bl (bl k1 k2) k3) abc, by omega⟩
  · have := h1.blt; have := h2.ble; omega
  · rw [c.block _ (by omega), b.block _ (by omega)]; exact e1
  · rw [c.block _ (by omega)]; exact e2
  · exact e3

theorem Three.keep {w0 W W' : World} {lou t b1 b2 b3 : Nat} {pw qw uw : List Nat} (h : Three w0 lou t b1 b2 b3 pw qw uw W) (hb : Below W.heap.size W W') : Three w0 lou t b1 b2 b3 pw qw uw W' := by
  obtain ⟨lo, hp⟩ := h.p
  obtain ⟨lo', hq⟩ := h.q
  exact ⟨⟨lo, hp.keep (hb.mono hp.top)⟩, ⟨lo', hq.keep (hb.mono hq.top)⟩, (h.u.keep hb).wide hb.size (Nat.le_refl _), h.ne,
    (hb.block _ (Array.getElem?_eq_some_iff.1 h.c1).1).trans h.c1, (hb.block _ (Array.getElem?_eq_some_iff.1 h.c2).1).trans h.c2, (hb.block _ (Array.getElem?_eq_some_iff.1 h.c3).1).trans h.c3, h.lt, bl h.bel hb, h.le⟩

theorem Three.step {w0 W W' : World} {lou t b1 b2 b3 : Nat} {pw qw uw uw' : List Nat} (h : Three w0 lou t b1 b2 b3 pw qw uw W) (h1 : Bset lou W'.heap.size W' b3 uw') (h2 : Below lou W W') (h3 : Fr b3 W W') : Three w0 lou t b1 b2 b3 pw qw uw' W' := by
  obtain ⟨lo, hp⟩ := h.p
  obtain ⟨lo', hq⟩ := h.q
  have hlt := h.lt
  exact ⟨⟨lo, hp.keep h2⟩, ⟨lo', hq.keep h2⟩, h1, h.ne,
    (h3.2 _ (Array.getElem?_eq_some_iff.1 h.c1).1 (by omega) (by intro c fr; rw [h.c1]; simp)).trans h.c1,
    (h3.2 _ (Array.getElem?_eq_some_iff.1 h.c2).1 (by omega) (by intro c fr; rw [h.c2]; simp)).trans h.c2,
    (h3.2 _ (Array.getElem?_eq_some_iff.1 h.c3).1 (by omega) (by intro c fr; rw [h.c3]; simp)).trans h.c3, h.lt, h.bel.trans (h2.mono h.le), h.le⟩

theorem Three.cells {w0 W : World} {lou t b1 b2 b3 : Nat} {pw qw uw : List Nat} (h : Three w0 lou t b1 b2 b3 pw qw uw W) :
    W.cell? ⟨t, 0, none⟩ = some (.pointer (some ⟨b1, 0, none⟩)) ∧ W.cell? ⟨t + 1, 0, none⟩ = some (.pointer (some ⟨b2, 0, none⟩)) ∧ W.cell? ⟨t + 1 + 1, 0, none⟩ = some (.pointer (some ⟨b3, 0, none⟩)) :=
  ⟨cell_of_heap h.c1, cell_of_heap h.c2, cell_of_heap h.c3⟩

/-- four cells stored -/
def fin4 (w : World) (g : Nat) (a b c d : Value) : World := (((w.setCell ⟨g, 0, none⟩ a).setCell ⟨g, 1, none⟩ b).setCell ⟨g, 2, none⟩ c).setCell ⟨g, 3, none⟩ d

theorem fin4_size (w : World) (g : Nat) (a b c d : Value) : (fin4 w g a b c d).heap.size = w.heap.size := by simp [fin4, World.setCell]
theorem fin4_other (w : World) (g : Nat) (a b c d : Value) (i : Nat) (hi : i ≠ g) : (fin4 w g a b c d).heap[i]? = w.heap[i]? := by
  unfold fin4
  rw [Below.heap_setCell _ _ _ _ (by simpa using hi), Below.heap_setCell _ _ _ _ (by simpa using hi), Below.heap_setCell _ _ _ _ (by simpa using hi), Below.heap_setCell _ _ _ _ (by simpa using hi)]
theorem fin4_own {w : World} {base : Nat} {e : TypeId} {size : Nat} {v : Value} {n : Nat} {xs : List Value} (h : w.ownsRow base e size v n xs) (g : Nat) (a b c d : Value) (hg : g < base) : (fin4 w g a b c d).ownsRow base e size v n xs := by
  have hne : v.ownBlock ≠ some g := fun e => by have := (h.lt _ e).1; omega
  unfold fin4
  refine own_set (own_set (own_set (own_set h _ _ ?_) _ _ ?_) _ _ ?_) _ _ ?_ <;> exact hne
theorem fin4_below {w0 w : World} (h : Below w0.heap.size w0 w) (g : Nat) (a b c d : Value) (hg : w0.heap.size ≤ g) : Below w0.heap.size w0 (fin4 w g a b c d) :=
  (((h.setCell hg _).setCell hg _).setCell hg _).setCell hg _
theorem fin4_tl {w : World} {g : Nat} {z0 z1 z2 z3 : Value} {t : TypeId} (h : w.heap[g]? = some (.cells #[z0, z1, z2, z3] t (0, 0))) (a b c d : Value) : Tl (fin4 w g a b c d) g a b c d := tl_set h a b c d
theorem Tl.other {w w' : World} {g : Nat} {a b c d : Value} (h : Tl w g a b c d) (e : w'.heap[g]? = w.heap[g]?) : Tl w' g a b c d :=
  ⟨(World.cell?_of_block (a := ⟨g, 0, none⟩) e).trans h.c0, (World.cell?_of_block (a := ⟨g, 1, none⟩) e).trans h.c1, (World.cell?_of_block (a := ⟨g, 2, none⟩) e).trans h.c2, (World.cell?_of_block (a := ⟨g, 3, none⟩) e).trans h.c3, fun j => (World.frozen?_of_block (a := ⟨g, j, none⟩) e).trans (h.fr j)⟩

theorem slice_of {w : World} {base : Nat} {e : TypeId} {size : Nat} {v : Value} {n : Nat} {xs : List Value} (h : w.ownsRow base e size v n xs) : ∃ A n c, v = .slice A n c := by
  rcases h.2 with ⟨e, _⟩ | ⟨_, _, _, e, _⟩ <;> exact ⟨_, _, _, e⟩

set_option maxRecDepth 100000 in
set_option maxHeartbeats 12800000 in
theorem bits_any (A LA B LB Z : Option Addr) (ca cla cb clb cz : Nat) (xs lx ys ly zs : List Int) (w : World) (hA : Ints w A ca xs) (hLA : Ints w LA cla lx) (hB : Ints w B cb ys) (hLB : Ints w LB clb ly) (hZ : Ints w Z cz zs)
    (h1 : In200 xs) (h2 : In200 lx) (h3 : In200 ys) (h4 : In200 ly) (h5 : ∀ j, 0 ≤ zs.getD j 0 ∧ zs.getD j 0 ≤ 300) (l1 : xs.length ≤ 1000) (l2 : lx.length ≤ 1000) (l3 : ys.length ≤ 1000) (l4 : ly.length ≤ 1000) (l5 : zs.length ≤ 1000) (hT : Tabs w) (hw0 : 0 < w.heap.size) :
    Calls Tryd.prog 9 #[.slice A xs.length ca, .slice LA lx.length cla, .slice B ys.length cb, .slice LB ly.length clb, .slice Z zs.length cz] w fun e w' =>
      (∃ X Y U, e = .returned (.tuple #[X, Y, U, .bool (eqW (mk xs lx) (mk ys ly)), .bool (eqW (mk xs lx) (mk ys ly))]) ∧ Told w' w.heap.size X (mk xs lx) zs ∧ Told w' w.heap.size Y (mk ys ly) zs ∧ Told w' w.heap.size U (orW (orW [] (mk xs lx)) (mk ys ly)) zs) ∧ Below w.heap.size w w' := by
  have M1 := hid (fun W (hb : Below w.heap.size w W) => make_any A LA ca cla xs lx W (hA.keep hb) (hLA.keep hb) h1 h2 (by omega) (by omega))
  have M2 := hid (fun W (hb : Below w.heap.size w W) => make_any B LB cb clb ys ly W (hB.keep hb) (hLB.keep hb) h3 h4 (by omega) (by omega))
  have M3 := hid (fun (W : World) => make_any none none 0 0 [] [] W (Ints.nil W) (Ints.nil W) (fun j => by simp) (fun j => by simp) (by simp) (by simp))
  have hmk0 : clearAll (addAll [] []) [] = [] := rfl
  generalize hp : mk xs lx = pw at *
  generalize hq : mk ys ly = qw at *
  have HP := hid hp
  have HQ := hid hq
  have HZ := hid hZ
  have H5 := hid h5
  have HT := hid hT
  have hzc := hZ.cap
  have hac := hA.cap
  have hlac := hLA.cap
  have hbc := hB.cap
  have hlbc := hLB.cap
  have hmf : ∀ (fn : Fn) (first cap : Array Value) (w : World), (Instr.makeFunc fn first cap).run Tryd.prog w = .ok (.func fn first cap) w := fun _ _ _ _ => rfl
  clear hA hLA hB hLB hZ h1 h2 h3 h4 h5 hT hp hq
  go_enter Tryd.func9, Tryd.ntmps9
  go_upto_region 3 with fail
  have hB0 : Below w.heap.size w ((((w.alloc (.cells #[.slice Z zs.length cz] 22)).alloc (.cells #[.slice none 0 0, .int .i64 0, .int .i64 0, .string ⟨#[]⟩] 30)).alloc (.cells #[.slice none 0 0, .int .i64 0, .int .i64 0, .string ⟨#[]⟩] 30)).alloc (.cells #[.slice none 0 0, .int .i64 0, .int .i64 0, .string ⟨#[]⟩] 30)) := bl (bl (bl (bl1 w _) (bl1 _ _)) (bl1 _ _)) (bl1 _ _)
  have hqc : ((((w.alloc (.cells #[.slice Z zs.length cz] 22)).alloc (.cells #[.slice none 0 0, .int .i64 0, .int .i64 0, .string ⟨#[]⟩] 30)).alloc (.cells #[.slice none 0 0, .int .i64 0, .int .i64 0, .string ⟨#[]⟩] 30)).alloc (.cells #[.slice none 0 0, .int .i64 0, .int .i64 0, .string ⟨#[]⟩] 30)).cell? ⟨w.heap.size, 0, none⟩ = some (.slice Z zs.length cz) := by
    rw [World.cell?_alloc_lt _ _ _ (by simp; omega), World.cell?_alloc_lt _ _ _ (by simp; omega), World.cell?_alloc_lt _ _ _ (by simp)]
    exact cell_of_heap (heap_alloc_new _ _ _)
  have hz3 : ∀ k, k < 3 → ((((w.alloc (.cells #[.slice Z zs.length cz] 22)).alloc (.cells #[.slice none 0 0, .int .i64 0, .int .i64 0, .string ⟨#[]⟩] 30)).alloc (.cells #[.slice none 0 0, .int .i64 0, .int .i64 0, .string ⟨#[]⟩] 30)).alloc (.cells #[.slice none 0 0, .int .i64 0, .int .i64 0, .string ⟨#[]⟩] 30)).heap[w.heap.size + 1 + k]? = some (.cells #[.slice none 0 0, .int .i64 0, .int .i64 0, .string ⟨#[]⟩] 30 (0, 0)) := by
    intro k hk
    have g1 := heap_alloc_new (w.alloc (.cells #[.slice Z zs.length cz] 22)) #[.slice none 0 0, .int .i64 0, .int .i64 0, .string ⟨#[]⟩] 30
    have g2 := heap_alloc_new ((w.alloc (.cells #[.slice Z zs.length cz] 22)).alloc (.cells #[.slice none 0 0, .int .i64 0, .int .i64 0, .string ⟨#[]⟩] 30)) #[.slice none 0 0, .int .i64 0, .int .i64 0, .string ⟨#[]⟩] 30
    have g3 := heap_alloc_new (((w.alloc (.cells #[.slice Z zs.length cz] 22)).alloc (.cells #[.slice none 0 0, .int .i64 0, .int .i64 0, .string ⟨#[]⟩] 30)).alloc (.cells #[.slice none 0 0, .int .i64 0, .int .i64 0, .string ⟨#[]⟩] 30)) #[.slice none 0 0, .int .i64 0, .int .i64 0, .string ⟨#[]⟩] 30
    have s0 : (w.alloc (.cells #[.slice Z zs.length cz] 22)).heap.size = w.heap.size + 1 := by simp
    generalize w.alloc (.cells #[.slice Z zs.length cz] 22) = v0 at *
    have s1 : (v0.alloc (.cells #[.slice none 0 0, .int .i64 0, .int .i64 0, .string ⟨#[]⟩] 30)).heap.size = v0.heap.size + 1 := by simp
    have b1 := bl1 (v0.alloc (.cells #[.slice none 0 0, .int .i64 0, .int .i64 0, .string ⟨#[]⟩] 30)) (.cells #[.slice none 0 0, .int .i64 0, .int .i64 0, .string ⟨#[]⟩] 30)
    generalize v0.alloc (.cells #[.slice none 0 0, .int .i64 0, .int .i64 0, .string ⟨#[]⟩] 30) = v1 at *
    have s2 : (v1.alloc (.cells #[.slice none 0 0, .int .i64 0, .int .i64 0, .string ⟨#[]⟩] 30)).heap.size = v1.heap.size + 1 := by simp
    generalize v1.alloc (.cells #[.slice none 0 0, .int .i64 0, .int .i64 0, .string ⟨#[]⟩] 30) = v2 at *
    have b2 := bl1 v2 (.cells #[.slice none 0 0, .int .i64 0, .int .i64 0, .string ⟨#[]⟩] 30)
    generalize v2.alloc (.cells #[.slice none 0 0, .int .i64 0, .int .i64 0, .string ⟨#[]⟩] 30) = v3 at *
    rcases k with _ | _ | _ | k
    · rw [b2.block _ (by omega), b1.block _ (by omega), ← g1]; congr 1; omega
    · rw [b2.block _ (by omega), ← g2]; congr 1; omega
    · rw [← g3]; congr 1; omega
    · omega
  have hs0 : ((((w.alloc (.cells #[.slice Z zs.length cz] 22)).alloc (.cells #[.slice none 0 0, .int .i64 0, .int .i64 0, .string ⟨#[]⟩] 30)).alloc (.cells #[.slice none 0 0, .int .i64 0, .int .i64 0, .string ⟨#[]⟩] 30)).alloc (.cells #[.slice none 0 0, .int .i64 0, .int .i64 0, .string ⟨#[]⟩] 30)).heap.size = w.heap.size + 4 := by simp
  generalize hw0e : (((w.alloc (.cells #[.slice Z zs.length cz] 22)).alloc (.cells #[.slice none 0 0, .int .i64 0, .int .i64 0, .string ⟨#[]⟩] 30)).alloc (.cells #[.slice none 0 0, .int .i64 0, .int .i64 0, .string ⟨#[]⟩] 30)).alloc (.cells #[.slice none 0 0, .int .i64 0, .int .i64 0, .string ⟨#[]⟩] 30) = w0 at *
  have HB0 := hid hB0
  have HQC := hid hqc
  have HZ3 := hid hz3
  have HS0 := hid hs0
  clear hB0 hqc hz3 hs0 hw0e
  go_upto_region 4 with (first
    | (go_at_call_of 15 (Value.slice A xs.length ca); refine (M1.out _ HB0.out).mono ?_; rintro e w1 ⟨⟨b1, rfl, hp1⟩, hb1⟩; have HP1 := hid hp1; have HB1 := hid hb1; clear hp1 hb1)
    | (go_at_call_of 15 (Value.slice B ys.length cb); refine (M2.out _ (bl HB0.out HB1.out)).mono ?_; rintro e w2 ⟨⟨b2, rfl, hp2⟩, hb2⟩; have HP2 := hid hp2; have HB2 := hid hb2; clear hp2 hb2)
    | (go_at_call_of 15 (Value.slice none 0 0); refine (M3.out _).mono ?_; rintro e w3 ⟨⟨b3, rfl, hp3⟩, hb3⟩; have HP3 := hid hp3; have HB3 := hid hb3; clear hp3 hb3))
  have h3 := three_start (pw := pw) (qw := qw) (by have e := HP.out; unfold mk at e; rw [← e]; exact HP1.out) HB1.out (by have e := HQ.out; unfold mk at e; rw [← e]; exact HP2.out) HB2.out HP3.out HB3.out
  have HH1 := hid h3
  obtain ⟨c1, c2, c3⟩ := h3.cells
  clear h3
  generalize ((w3.alloc (.cells #[.pointer (some ⟨b1, 0, none⟩)] 48)).alloc (.cells #[.pointer (some ⟨b2, 0, none⟩)] 48)).alloc (.cells #[.pointer (some ⟨b3, 0, none⟩)] 48) = w4 at *
  generalize w3.heap.size = t at *
  have HU1 := hid (zor_any HH1.out.u HH1.out.p.choose_spec)
  go_upto_region 7 with (first
    | (go_at_call_of 24 (Value.agg #[Value.pointer (some ⟨b1, 0, none⟩)]); refine HU1.out.mono ?_; rintro e w5 ⟨rfl, hs5, hb5, hf5⟩; have HH2 := hid (HH1.out.step hs5 hb5 hf5); clear hs5 hb5 hf5; have cc := HH2.out.cells; have d1 := cc.1; have d2 := cc.2.1; have d3 := cc.2.2; clear cc; have HU2 := hid (zor_any HH2.out.u HH2.out.q.choose_spec))
    | (go_at_call_of 24 (Value.agg #[Value.pointer (some ⟨b2, 0, none⟩)]); refine HU2.out.mono ?_; rintro e w6 ⟨rfl, hs6, hb6, hf6⟩; have HH3 := hid (HH2.out.step hs6 hb6 hf6); clear hs6 hb6 hf6; have cc := HH3.out.cells; have e1 := cc.1; have e2 := cc.2.1; have e3 := cc.2.2; clear cc)
    | (go_at_call 25; refine (zequal_any HH3.out.p.choose_spec HH3.out.q.choose_spec HH3.out.ne).mono ?_; rintro e w7 ⟨rfl, hb7⟩; have HH4 := hid (HH3.out.keep hb7); clear hb7; have cc := HH4.out.cells; have f1 := cc.1; have f2 := cc.2.1; have f3 := cc.2.2; clear cc))
  have hS0 := HS0.out
  have hlew : w.heap.size ≤ w7.heap.size := Nat.le_trans (by omega) HH4.out.bel.size
  have hBw7 : Below w.heap.size w w7 := bl HB0.out HH4.out.bel
  have hq7 : w.heap.size < w7.heap.size := Nat.lt_of_lt_of_le (by omega) HH4.out.bel.size
  have hqc7 : w7.cell? ⟨w.heap.size, 0, none⟩ = some (.slice Z zs.length cz) := (HH4.out.bel.cell (p := ⟨w.heap.size, 0, none⟩) (by simp; omega)).trans HQC.out
  have TL1 := hid (fun W (hb : Below w7.heap.size w7 W) => tell_any w.heap.size b1 cz Z pw zs W (HH4.out.p.choose_spec.keep (hb.mono HH4.out.p.choose_spec.top)) (HT.out.keep hw0 (bl hBw7 hb)) (Nat.lt_of_lt_of_le hq7 hb.size) ((hb.cell (p := ⟨w.heap.size, 0, none⟩) hq7).trans hqc7) (HZ.out.keep (bl hBw7 hb)) H5.out l5)
  have TL2 := hid (fun W (hb : Below w7.heap.size w7 W) => tell_any w.heap.size b2 cz Z qw zs W (HH4.out.q.choose_spec.keep (hb.mono HH4.out.q.choose_spec.top)) (HT.out.keep hw0 (bl hBw7 hb)) (Nat.lt_of_lt_of_le hq7 hb.size) ((hb.cell (p := ⟨w.heap.size, 0, none⟩) hq7).trans hqc7) (HZ.out.keep (bl hBw7 hb)) H5.out l5)
  have TL3 := hid (fun W (hb : Below w7.heap.size w7 W) => tell_any w.heap.size b3 cz Z (orW (orW [] pw) qw) zs W ((HH4.out.u).keep hb) (HT.out.keep hw0 (bl hBw7 hb)) (Nat.lt_of_lt_of_le hq7 hb.size) ((hb.cell (p := ⟨w.heap.size, 0, none⟩) hq7).trans hqc7) (HZ.out.keep (bl hBw7 hb)) H5.out l5)
  have ZH := hid (fun W (hb : Below w7.heap.size w7 W) (k : Nat) (hk : k < 3) => ((hb.block (w.heap.size + 1 + k) (Nat.lt_of_lt_of_le (by omega) HH4.out.bel.size)).trans ((HH4.out.bel.block (w.heap.size + 1 + k) (by omega)).trans (HZ3.out k hk))))
  have ZT := hid (fun W (hb : Below w7.heap.size w7 W) (k : Nat) (hk : k < 3) => told_facts ((hb.block (w.heap.size + 1 + k) (Nat.lt_of_lt_of_le (by omega) HH4.out.bel.size)).trans ((HH4.out.bel.block (w.heap.size + 1 + k) (by omega)).trans (HZ3.out k hk))))
  have D := hid ((Below.refl w7.heap.size w7).drew)
  have HBW7 := hid hBw7
  have hb0' : w.heap.size + 4 ≤ w7.heap.size := Nat.le_trans (by omega) HH4.out.bel.size
  have HLE := hid hb0'
  clear hb0'
  have td1 : ∀ (W : World) (base : Nat) (H : Value) (s : ByteArray), W.ownsRow base 4 1 H zs.length (hasCells pw zs) → Told W base (.agg #[H, .int .i64 (popS pw pw.length : Nat), .int .i64 (tellLeast pw : Nat), .string s]) pw zs := fun W base H s h => told_mk h
  have td3 : ∀ (W : World) (base : Nat) (H : Value) (s : ByteArray), W.ownsRow base 4 1 H zs.length (hasCells (orW (orW [] pw) qw) zs) → Told W base (.agg #[H, .int .i64 (popS (orW (orW [] pw) qw) (orW (orW [] pw) qw).length : Nat), .int .i64 (tellLeast (orW (orW [] pw) qw) : Nat), .string s]) (orW (orW [] pw) qw) zs := fun W base H s h => told_mk h
  have td2 : ∀ (W : World) (base : Nat) (H : Value) (s : ByteArray), W.ownsRow base 4 1 H zs.length (hasCells qw zs) → Told W base (.agg #[H, .int .i64 (popS qw qw.length : Nat), .int .i64 (tellLeast qw : Nat), .string s]) qw zs := fun W base H s h => told_mk h
  have TD2 := hid td2
  have TD1 := hid td1
  have TD3 := hid td3
  clear td1 td2 td3
  generalize popS pw pw.length = pp1 at *
  generalize popS qw qw.length = pp2 at *
  generalize popS (orW (orW [] pw) qw) (orW (orW [] pw) qw).length = pp3 at *
  generalize tellLeast pw = tt1 at *
  generalize tellLeast qw = tt2 at *
  generalize tellLeast (orW (orW [] pw) qw) = tt3 at *
  clear hBw7 hqc7 hS0
  go_region_with (first
    | (go_at_call_of 19 (Value.agg #[Value.pointer (some ⟨b1, 0, none⟩)]); refine (TL1.out _ D.out).mono ?_; rintro e w8 ⟨⟨X1, s1, rfl, ho1⟩, hb8⟩; have hsl := slice_of ho1; obtain ⟨A1, n1, k1, rfl⟩ := hsl; have HO1 := hid ho1; have HB8 := hid (bl D.out hb8); have cc := (HH4.out.keep (bl D.out hb8)).cells; have g1 := cc.1; have g2 := cc.2.1; have g3 := cc.2.2; clear ho1 hb8 cc)
    | (go_at_call_of 19 (Value.agg #[Value.pointer (some ⟨b2, 0, none⟩)]); refine (TL2.out _ HB8.out).mono ?_; rintro e w9 ⟨⟨X2, s2, rfl, ho2⟩, hb9⟩; have hsl := slice_of ho2; obtain ⟨A2, n2, k2, rfl⟩ := hsl; have HO2 := hid ho2; have HB89 := hid hb9; have HB9 := hid (bl HB8.out hb9); have cc := (HH4.out.keep (bl HB8.out hb9)).cells; have i1 := cc.1; have i2 := cc.2.1; have i3 := cc.2.2; clear ho2 hb9 cc)
    | (go_at_call_of 19 (Value.agg #[Value.pointer (some ⟨b3, 0, none⟩)]); refine (TL3.out _ HB9.out).mono ?_; rintro e wt ⟨⟨X3, s3, rfl, ho3⟩, hbt⟩; have hsl := slice_of ho3; obtain ⟨A3, n3, k3, rfl⟩ := hsl; have HO3 := hid ho3; have HB9T := hid hbt; have HBT := hid (bl HB9.out hbt); have y0 := ZT.out wt (bl HB9.out hbt) 0 (by decide); have y1 := ZT.out wt (bl HB9.out hbt) 1 (by decide); have y2 := ZT.out wt (bl HB9.out hbt) 2 (by decide); clear ho3 hbt;
       obtain ⟨a0, a1, a2, a3, a4, a5, a6, a7⟩ := y0; obtain ⟨q0, q1, q2, q3, q4, q5, q6, q7⟩ := y1; obtain ⟨r0, r1, r2, r3, r4, r5, r6, r7⟩ := y2))
  all_goals
    go_wp2_with fail
    change bodyPost _ _ _ _ _ (fin4 (fin4 (fin4 wt (w.heap.size + 1) (.slice A1 n1 k1) (.int .i64 (pp1 : Nat)) (.int .i64 (tt1 : Nat)) (.string s1)) (w.heap.size + 1 + 1) (.slice A2 n2 k2) (.int .i64 (pp2 : Nat)) (.int .i64 (tt2 : Nat)) (.string s2)) (w.heap.size + 1 + 1 + 1) (.slice A3 n3 k3) (.int .i64 (pp3 : Nat)) (.int .i64 (tt3 : Nat)) (.string s3))
    have u0 := ZH.out wt HBT.out 0 (by decide)
    have u1 := ZH.out wt HBT.out 1 (by decide)
    have u2 := ZH.out wt HBT.out 2 (by decide)
    have f1 := fin4_tl u0 (.slice A1 n1 k1) (.int .i64 (pp1 : Nat)) (.int .i64 (tt1 : Nat)) (.string s1)
    have f2 := fin4_tl ((fin4_other wt (w.heap.size + 1) (.slice A1 n1 k1) (.int .i64 (pp1 : Nat)) (.int .i64 (tt1 : Nat)) (.string s1) (w.heap.size + 1 + 1) (by omega)).trans u1) (.slice A2 n2 k2) (.int .i64 (pp2 : Nat)) (.int .i64 (tt2 : Nat)) (.string s2)
    have f3 := fin4_tl ((fin4_other (fin4 wt (w.heap.size + 1) (.slice A1 n1 k1) (.int .i64 (pp1 : Nat)) (.int .i64 (tt1 : Nat)) (.string s1)) (w.heap.size + 1 + 1) (.slice A2 n2 k2) (.int .i64 (pp2 : Nat)) (.int .i64 (tt2 : Nat)) (.string s2) (w.heap.size + 1 + 1 + 1) (by omega)).trans ((fin4_other wt (w.heap.size + 1) (.slice A1 n1 k1) (.int .i64 (pp1 : Nat)) (.int .i64 (tt1 : Nat)) (.string s1) (w.heap.size + 1 + 1 + 1) (by omega)).trans u2)) (.slice A3 n3 k3) (.int .i64 (pp3 : Nat)) (.int .i64 (tt3 : Nat)) (.string s3)
    have f1' := (f1.other (fin4_other _ (w.heap.size + 1 + 1) (.slice A2 n2 k2) (.int .i64 (pp2 : Nat)) (.int .i64 (tt2 : Nat)) (.string s2) (w.heap.size + 1) (by omega))).other (fin4_other _ (w.heap.size + 1 + 1 + 1) (.slice A3 n3 k3) (.int .i64 (pp3 : Nat)) (.int .i64 (tt3 : Nat)) (.string s3) (w.heap.size + 1) (by omega))
    have f2' := f2.other (fin4_other _ (w.heap.size + 1 + 1 + 1) (.slice A3 n3 k3) (.int .i64 (pp3 : Nat)) (.int .i64 (tt3 : Nat)) (.string s3) (w.heap.size + 1 + 1) (by omega))
    have hle := HLE.out
    have le8 : w7.heap.size ≤ w8.heap.size := HB8.out.size
    have le9 : w8.heap.size ≤ w9.heap.size := HB89.out.size
    have o1 := fin4_own (fin4_own (fin4_own (own_below (own_below HO1.out HB89.out) HB9T.out) (w.heap.size + 1) (.slice A1 n1 k1) (.int .i64 (pp1 : Nat)) (.int .i64 (tt1 : Nat)) (.string s1) (by simp; omega)) (w.heap.size + 1 + 1) (.slice A2 n2 k2) (.int .i64 (pp2 : Nat)) (.int .i64 (tt2 : Nat)) (.string s2) (by simp; omega)) (w.heap.size + 1 + 1 + 1) (.slice A3 n3 k3) (.int .i64 (pp3 : Nat)) (.int .i64 (tt3 : Nat)) (.string s3) (by simp; omega)
    have o2 := fin4_own (fin4_own (fin4_own (own_below HO2.out HB9T.out) (w.heap.size + 1) (.slice A1 n1 k1) (.int .i64 (pp1 : Nat)) (.int .i64 (tt1 : Nat)) (.string s1) (by omega)) (w.heap.size + 1 + 1) (.slice A2 n2 k2) (.int .i64 (pp2 : Nat)) (.int .i64 (tt2 : Nat)) (.string s2) (by omega)) (w.heap.size + 1 + 1 + 1) (.slice A3 n3 k3) (.int .i64 (pp3 : Nat)) (.int .i64 (tt3 : Nat)) (.string s3) (by omega)
    have o3 := fin4_own (fin4_own (fin4_own HO3.out (w.heap.size + 1) (.slice A1 n1 k1) (.int .i64 (pp1 : Nat)) (.int .i64 (tt1 : Nat)) (.string s1) (by omega)) (w.heap.size + 1 + 1) (.slice A2 n2 k2) (.int .i64 (pp2 : Nat)) (.int .i64 (tt2 : Nat)) (.string s2) (by omega)) (w.heap.size + 1 + 1 + 1) (.slice A3 n3 k3) (.int .i64 (pp3 : Nat)) (.int .i64 (tt3 : Nat)) (.string s3) (by omega)
    have bf := fin4_below (fin4_below (fin4_below (bl HBW7.out HBT.out) (w.heap.size + 1) (.slice A1 n1 k1) (.int .i64 (pp1 : Nat)) (.int .i64 (tt1 : Nat)) (.string s1) (by omega)) (w.heap.size + 1 + 1) (.slice A2 n2 k2) (.int .i64 (pp2 : Nat)) (.int .i64 (tt2 : Nat)) (.string s2) (by omega)) (w.heap.size + 1 + 1 + 1) (.slice A3 n3 k3) (.int .i64 (pp3 : Nat)) (.int .i64 (tt3 : Nat)) (.string s3) (by omega)
    generalize fin4 (fin4 (fin4 wt (w.heap.size + 1) (.slice A1 n1 k1) (.int .i64 (pp1 : Nat)) (.int .i64 (tt1 : Nat)) (.string s1)) (w.heap.size + 1 + 1) (.slice A2 n2 k2) (.int .i64 (pp2 : Nat)) (.int .i64 (tt2 : Nat)) (.string s2)) (w.heap.size + 1 + 1 + 1) (.slice A3 n3 k3) (.int .i64 (pp3 : Nat)) (.int .i64 (tt3 : Nat)) (.string s3) = wf at *
    have e1 := f1'.c0
    have e2 := f1'.c1
    have e3 := f1'.c2
    have e4 := f1'.c3
    have e5 := f2'.c0
    have e6 := f2'.c1
    have e7 := f2'.c2
    have e8 := f2'.c3
    have e9 := f3.c0
    have e10 := f3.c1
    have e11 := f3.c2
    have e12 := f3.c3
    refine bodyPost_ret (v := .tuple #[.agg #[.slice A1 n1 k1, .int .i64 (pp1 : Nat), .int .i64 (tt1 : Nat), .string s1], .agg #[.slice A2 n2 k2, .int .i64 (pp2 : Nat), .int .i64 (tt2 : Nat), .string s2], .agg #[.slice A3 n3 k3, .int .i64 (pp3 : Nat), .int .i64 (tt3 : Nat), .string s3], .bool (eqW pw qw), .bool (eqW pw qw)]) (by simp [results, Tryd.results9, go_sem, e1, e2, e3, e4, e5, e6, e7, e8, e9, e10, e11, e12]) rfl ⟨⟨_, _, _, rfl, TD1.out _ _ _ _ (own_low o1 (by simp; omega)), TD2.out _ _ _ _ (own_low o2 (by omega)), TD3.out _ _ _ _ (own_low o3 (by omega))⟩, bf⟩
end Go.Proofs.YtifoeehfblddcaaDoor
