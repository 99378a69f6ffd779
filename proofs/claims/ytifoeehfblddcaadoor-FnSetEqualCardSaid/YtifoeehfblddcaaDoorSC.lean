/- laws.setTo, laws.setAsk, spec.Only -/
import Derived.Test.YtifoeehfblddcaaDoorS7
namespace Go.Proofs.YtifoeehfblddcaaDoor
open Go.RowKit

/-- the cells of a step -/
def s4 (s : Sst) : List Value := [.int .u8 (s.op : Nat), .int .i64 s.set, .int .i64 s.a, .int .i64 s.b]
def scells (ss : List Sst) : List Value := ss.flatMap s4
theorem scells_len (ss : List Sst) : (scells ss).length = ss.length * 4 := by
  induction ss with
  | nil => rfl
  | cons p r ih => simp only [scells, List.flatMap_cons, List.length_append, List.length_cons] at *; rw [ih]; simp [s4]; omega
theorem scells_append (a b : List Sst) : scells (a ++ b) = scells a ++ scells b := by simp [scells]
theorem scells_succ (ss : List Sst) (k : Nat) (h : k < ss.length) : scells (ss.take (k + 1)) = scells (ss.take k) ++ s4 (stAt ss k) := by
  rw [st_take ss k h, scells_append]
  simp [scells]
theorem scells_at : ∀ (ss : List Sst) (k i : Nat), k < ss.length → i < 4 → (scells ss)[k * 4 + i]? = (s4 (stAt ss k))[i]?
  | [], _, _, h, _ => by simp at h
  | p :: r, 0, i, _, hi => by
    show (s4 p ++ scells r)[0 * 4 + i]? = _
    rw [List.getElem?_append_left (by simp [s4]; omega)]
    simp
  | p :: r, k + 1, i, h, hi => by
    show (s4 p ++ scells r)[(k + 1) * 4 + i]? = _
    rw [List.getElem?_append_right (by simp [s4]; omega)]
    have := scells_at r k i (by simpa using h) hi
    have e : (k + 1) * 4 + i - (s4 p).length = k * 4 + i := by simp [s4]; omega
    rw [e, this]
    rfl

/-- an own row of steps reads as steps -/
theorem Steps.of_own {w : World} {base : Nat} {e : TypeId} {A : Option Addr} {c : Nat} {ss : List Sst} (h : w.ownsRow base e 4 (.slice A ss.length c) ss.length (scells ss)) : Steps w A c ss := by
  rcases h.2 with ⟨hv, h0⟩ | ⟨g, cap, cur, hv, hb, hg, hcap, hmx, hsz, htk⟩
  · exact ⟨by omega, fun h => by omega⟩
  · simp only [Value.slice.injEq] at hv
    obtain ⟨rfl, _, rfl⟩ := hv
    refine ⟨hcap, fun _ => ⟨g, 0, rfl, lt_of_heap hg, fun j hj => ?_⟩⟩
    rw [Nat.zero_add]
    have k0 := scells_at ss j 0 hj (by decide)
    have k1 := scells_at ss j 1 hj (by decide)
    have k2 := scells_at ss j 2 hj (by decide)
    have k3 := scells_at ss j 3 hj (by decide)
    rw [Nat.add_zero] at k0
    rw [h.cellAt _ (by omega), h.cellAt _ (by omega), h.cellAt _ (by omega), h.cellAt _ (by omega), k0, k1, k2, k3]
    exact ⟨rfl, rfl, rfl, rfl⟩

theorem info69 : (Tryd.prog.info? 69).map (fun i => (i.zero, i.size, i.bytes)) = some (some (.agg #[.int .u8 0, .int .i64 0, .int .i64 0, .int .i64 0]), 4, 32) := by kernel_rfl
theorem info3 : (Tryd.prog.info? 3).map (fun i => (i.zero, i.size, i.bytes)) = some (some (.int .i64 0), 1, 8) := by kernel_rfl

set_option maxRecDepth 100000 in
set_option maxHeartbeats 1600000 in
theorem setto_any (A : Option Addr) (c : Nat) (ss : List Sst) (w : World) (h : Steps w A c ss) (hl : ss.length ≤ 60) :
    Calls Tryd.prog 30 #[.slice A ss.length c] w fun e w' => (∃ B cb, e = .returned (.slice B ss.length cb) ∧ Steps w' B cb ss) ∧ Below w.heap.size w w' := by
  have HST := hid h
  have hcap := h.cap
  have HSU := hid (scells_succ ss)
  have HEND := hid (show scells (ss.take ss.length) = scells ss by rw [List.take_length])
  have HOF := hid (fun W (base : Nat) B cb (h : World.ownsRow W base 69 4 (.slice B ss.length cb) ss.length (scells ss)) => Steps.of_own h)
  obtain ⟨i0, hi0, hz0, hz1, hz2⟩ := info_parts info69
  clear h
  generalize hN : ss.length = N at *
  have HN := hid hN
  clear hN
  go_enter Tryd.func30, Tryd.ntmps30
  go_wp2_with fail
  go_loopg [3, 8] N (fun k s3 s8 wr => ∃ j : Nat, j + k = N ∧ s8 = .int .i64 j ∧ wr.ownsRow w.heap.size 69 4 s3 j (scells (ss.take j)) ∧ Below w.heap.size w wr)
  case atStart => exact ⟨0, by omega, rfl, World.ownsRow_nil _ _ _ _, Below.refl _ _⟩
  case round =>
    obtain ⟨j, hj, rfl, hown, hb⟩ := hrel
    by_cases hlt : j < N
    · obtain ⟨g, o, rfl, hg, hcs⟩ := HST.out.row (by rw [HN.out]; omega)
      obtain ⟨k0, k1, k2, k3⟩ := hcs j (by rw [HN.out]; exact hlt)
      have r0 := (hb.cell (p := ⟨g, o + j * 4, none⟩) hg).trans k0
      have r1 := (hb.cell (p := ⟨g, o + j * 4 + 1, none⟩) hg).trans k1
      have r2 := (hb.cell (p := ⟨g, o + j * 4 + 2, none⟩) hg).trans k2
      have r3 := (hb.cell (p := ⟨g, o + j * 4 + 3, none⟩) hg).trans k3
      have hs := HSU.out j hlt
      generalize stAt ss j = st at *
      obtain ⟨op, set, a, b⟩ := st
      simp only at r0 r1 r2 r3
      have HS := hid hs
      have HO := hid hown
      have HB := hid hb
      have hbs := hb.size
      clear hcs k0 k1 k2 k3 hs hown hb
      go_wp2_with (at_builtin; refine wpList_append_own_at _ rfl _ _ 65 rfl w.heap.size 69 i0 _ 4 32 Tryd.underlying65 hi0 hz0 hz1 hz2 rfl (by decide) _ _ _ rfl ((HO.out.alloc _).alloc _) ⟨wr.heap.size + 1, 0, none⟩ 1 1 (s4 ⟨op, set, a, b⟩) rfl rfl ?c1 ?c2 ?c3 ?c4 ?c5 ?_)
      case c1 =>
        have hh := heap_alloc_new (wr.alloc (.cells #[.int .u8 (op : Nat), .int .i64 set, .int .i64 a, .int .i64 b] 76)) #[.int .u8 (op : Nat), .int .i64 set, .int .i64 a, .int .i64 b] 69
        rw [show (wr.alloc (.cells #[.int .u8 (op : Nat), .int .i64 set, .int .i64 a, .int .i64 b] 76)).heap.size = wr.heap.size + 1 by simp] at hh
        exact World.news_of_block hh
      case c2 => intro u hu; simp only [s4, List.mem_cons, List.not_mem_nil, or_false] at hu; rcases hu with rfl | rfl | rfl | rfl <;> rfl
      case c3 => unfold maxLen; omega
      case c4 => omega
      case c5 => simp; omega
      intro v' w2 hown2 hgrow _ _
      have HB2 := hid ((bl (bl HB.out (bl1 wr _)) (bl1 _ _)).grown hgrow (by simp; omega) (fun k e => (HO.out.lt k e).1))
      have HO2 := hid hown2
      clear hown2 hgrow
      go_wp2_with fail
      go_roundg (gk - 1)
      case measure => omega
      case rel => exact ⟨j + 1, by omega, by go_num, by rw [HS.out]; exact HO2.out, HB2.out⟩
    · have hjN : j = N := by omega
      subst hjN
      obtain ⟨B, cb, rfl⟩ := slice_of hown
      rw [HEND.out] at hown
      have HS := hid (HOF.out _ _ _ _ hown)
      have HB := hid hb
      clear hown hb
      go_wp2_with fail
      go_ret
      exact ⟨⟨B, cb, rfl, HS.out⟩, HB.out⟩

/-- a slice of ints -/
structure Ints (w : World) (A : Option Addr) (c : Nat) (xs : List Int) : Prop where
  cap : xs.length ≤ c
  row : 0 < xs.length → ∃ g o, A = some ⟨g, o, none⟩ ∧ g < w.heap.size ∧ ∀ j, j < xs.length → w.cell? ⟨g, o + j, none⟩ = some (.int .i64 (xs.getD j 0))

theorem Ints.keep {w w' : World} {A : Option Addr} {c : Nat} {xs : List Int} (h : Ints w A c xs) (hb : Below w.heap.size w w') : Ints w' A c xs :=
  ⟨h.cap, fun h0 => by
    obtain ⟨g, o, e, hg, hc⟩ := h.row h0
    exact ⟨g, o, e, Nat.lt_of_lt_of_le hg hb.size, fun j hj => (hb.cell (p := ⟨g, o + j, none⟩) hg).trans (hc j hj)⟩⟩

/-- the numbers that are asked -/
def askL (k : Nat) : List Int := (List.range k).map fun (j : Nat) => (j : Int) - 22
theorem askL_succ (k : Nat) : askL (k + 1) = askL k ++ [(k : Int) - 22] := by simp [askL, List.range_succ]
theorem askL_len (k : Nat) : (askL k).length = k := by simp [askL]

theorem Ints.of_own {w : World} {base : Nat} {e : TypeId} {A : Option Addr} {n c : Nat} {xs : List Int} (h : w.ownsRow base e 1 (.slice A n c) n (xs.map fun z => .int .i64 z)) : Ints w A c xs := by
  have hl := h.1
  rw [List.length_map] at hl
  rcases h.2 with ⟨hv, h0⟩ | ⟨g, cap, cur, hv, hb, hg, hcap, hmx, hsz, htk⟩
  · exact ⟨by omega, fun h => by omega⟩
  · simp only [Value.slice.injEq] at hv
    obtain ⟨rfl, _, rfl⟩ := hv
    refine ⟨by omega, fun _ => ⟨g, 0, rfl, lt_of_heap hg, fun j hj => ?_⟩⟩
    rw [Nat.zero_add, h.cellAt _ (by omega)]
    simp [hj]

set_option maxRecDepth 100000 in
set_option maxHeartbeats 1600000 in
theorem setask_any (w : World) :
    Calls Tryd.prog 31 #[] w fun e w' => (∃ B cb, e = .returned (.slice B 145 cb) ∧ Ints w' B cb (askL 145)) ∧ Below w.heap.size w w' := by
  obtain ⟨i0, hi0, hz0, hz1, hz2⟩ := info_parts info3
  go_enter Tryd.func31, Tryd.ntmps31
  go_wp2_with fail
  go_loopg [1, 2] 145 (fun k s1 s2 wr => ∃ j : Nat, j + k = 145 ∧ (∃ z : Int, z = (j : Int) - 22 ∧ s2 = .int .i64 z) ∧ wr.ownsRow w.heap.size 3 1 s1 j ((askL j).map fun z => .int .i64 z) ∧ Below w.heap.size w wr)
  case atStart => exact ⟨0, by omega, ⟨-22, rfl, rfl⟩, World.ownsRow_nil _ _ _ _, Below.refl _ _⟩
  case round =>
    obtain ⟨j, hj, ⟨z, hz, rfl⟩, hown, hb⟩ := hrel
    have b1 : -22 ≤ z := by omega
    have b2 : z ≤ 123 := by omega
    by_cases hlt : j < 145
    · have b3 : z ≤ 122 := by omega
      have hs := askL_succ j
      rw [← hz] at hs
      have HS := hid hs
      have HZ := hid hz
      have HO := hid hown
      have HB := hid hb
      have hbs := hb.size
      clear hs hz hown hb
      go_wp2_with (at_builtin; refine wpList_append_own_at _ rfl _ _ 22 rfl w.heap.size 3 i0 _ 1 8 Tryd.underlying22 hi0 hz0 hz1 hz2 rfl (by decide) _ _ _ rfl (HO.out.alloc _) ⟨wr.heap.size, 0, none⟩ 1 1 [.int .i64 z] rfl rfl ?c1 ?c2 ?c3 ?c4 ?c5 ?_)
      case c1 => exact World.news_of_block (heap_alloc_new wr #[.int .i64 z] 3)
      case c2 => intro u hu; simp only [List.mem_cons, List.not_mem_nil, or_false] at hu; subst hu; rfl
      case c3 => unfold maxLen; omega
      case c4 => omega
      case c5 => simp; omega
      intro v' w2 hown2 hgrow _ _
      have HB2 := hid ((bl HB.out (bl1 wr _)).grown hgrow (by simp; omega) (fun k e => (HO.out.lt k e).1))
      have HO2 := hid hown2
      clear hown2 hgrow
      go_wp2_with fail
      go_roundg (gk - 1)
      case measure => omega
      case rel => exact ⟨j + 1, by omega, ⟨z + 1, by have := HZ.out; omega, rfl⟩, by rw [HS.out, List.map_append]; exact HO2.out, HB2.out⟩
    · have hjN : j = 145 := by omega
      subst hjN
      obtain rfl : z = 123 := by omega
      obtain ⟨B, cb, rfl⟩ := slice_of hown
      have HS := hid (Ints.of_own hown)
      have HB := hid hb
      clear hown hb hz
      go_wp2_with fail
      go_ret
      exact ⟨⟨B, cb, rfl, HS.out⟩, HB.out⟩

set_option maxRecDepth 100000 in
set_option maxHeartbeats 1600000 in
theorem only_any (A : Option Addr) (c go : Nat) (ss : List Sst) (w : World) (h : Steps w A c ss) (hl : ss.length ≤ 60) (hop : ∀ j, j < ss.length → (stAt ss j).op ≤ 2) (hgo : go < w.heap.size)
    (ho : ∀ j : Nat, j < 3 → w.cell? ⟨go, j, none⟩ = some (.int .u8 (j : Nat))) :
    Calls Tryd.prog 28 #[.slice A ss.length c, .slice (some ⟨go, 0, none⟩) 3 3] w fun e w' => e = .returned (.bool true) ∧ Below w.heap.size w w' := by
  have HST := hid h
  have hcap := h.cap
  have HOP := hid hop
  have HO := hid ho
  clear h hop ho
  generalize hN : ss.length = N at *
  have HN := hid hN
  clear hN
  go_enter Tryd.func28, Tryd.ntmps28
  go_wp2_with fail
  go_loopg [12] N (fun k s12 wr => ∃ j : Nat, j + k = N ∧ s12 = .int .i64 j ∧ Below w.heap.size w wr)
  case atStart => exact ⟨0, by omega, rfl, Below.refl _ _⟩
  case round =>
    obtain ⟨j, hj, rfl, hb⟩ := hrel
    by_cases hlt : j < N
    · obtain ⟨g, o, rfl, hg, hcs⟩ := HST.out.row (by rw [HN.out]; omega)
      obtain ⟨k0, k1, k2, k3⟩ := hcs j (by rw [HN.out]; exact hlt)
      have r0 := (hb.cell (p := ⟨g, o + j * 4, none⟩) hg).trans k0
      have r1 := (hb.cell (p := ⟨g, o + j * 4 + 1, none⟩) hg).trans k1
      have r2 := (hb.cell (p := ⟨g, o + j * 4 + 2, none⟩) hg).trans k2
      have r3 := (hb.cell (p := ⟨g, o + j * 4 + 3, none⟩) hg).trans k3
      have hop := HOP.out j hlt
      generalize stAt ss j = st at *
      obtain ⟨op, set, a, b⟩ := st
      simp only at r0 r1 r2 r3 hop
      have HB := hid (bl hb (bl1 wr (.cells #[.int .u8 (op : Nat), .int .i64 set, .int .i64 a, .int .i64 b] 76)))
      have hh := heap_alloc_new wr #[.int .u8 (op : Nat), .int .i64 set, .int .i64 a, .int .i64 b] 76
      have q0 := cell_of_row _ _ 0 _ _ _ hh
      clear hcs k0 k1 k2 k3 hb hh
      go_upto_region 4 with fail
      generalize wr.alloc (.cells #[.int .u8 (op : Nat), .int .i64 set, .int .i64 a, .int .i64 b] 76) = wa at *
      generalize wr.heap.size = qs at *
      simp only [List.getElem?_toArray, List.getElem?_cons_zero] at q0
      go_wp2_with fail
      go_loopg [7, 18] 3 (fun k s7 s18 wx => ∃ i : Nat, i + k = 3 ∧ s18 = .int .i64 i ∧ s7 = .bool (decide (op < i)) ∧ wx = wa)
      case atStart => exact ⟨0, by omega, rfl, by simp, rfl⟩
      case round =>
        obtain ⟨i, hi, rfl, rfl, rfl⟩ := hrel
        by_cases hi3 : i < 3
        · have p0 := (HB.out.cell (p := ⟨go, i, none⟩) hgo).trans (HO.out i hi3)
          by_cases c1 : op < i
          · have e1 : decide (op < i) = true := decide_eq_true c1
            have HE := hid (show decide (op < i + 1) = true from decide_eq_true (by omega))
            rw [e1]
            clear c1 e1
            go_wp2_with fail
            go_roundg (gk - 1)
            case measure => omega
            case rel => exact ⟨i + 1, by omega, by go_num, by rw [HE.out], rfl⟩
          · have e1 : decide (op < i) = false := decide_eq_false c1
            rw [e1]
            by_cases c2 : op = i
            · subst c2
              have HE := hid (show decide (op < op + 1) = true from decide_eq_true (by omega))
              clear c1 e1
              go_wp2_with fail
              go_roundg (gk - 1)
              case measure => omega
              case rel => exact ⟨op + 1, by omega, by go_num, by rw [HE.out], rfl⟩
            · have hn : ((op : Int) == (i : Int)) = false := beq_false_of_ne (by omega)
              have HE := hid (show decide (op < i + 1) = false from decide_eq_false (by omega))
              clear c1 e1 c2
              go_wp2_with fail
              go_roundg (gk - 1)
              case measure => omega
              case rel => exact ⟨i + 1, by omega, by go_num, by rw [HE.out], rfl⟩
        · have hi3' : i = 3 := by omega
          subst hi3'
          have e1 : decide (op < 3) = true := decide_eq_true (by omega)
          rw [e1]
          clear e1
          go_wp2_with fail
          go_roundg (N - j - 1)
          case measure => omega
          case rel => exact ⟨j + 1, by omega, by go_num, HB.out⟩
    · have hjN : j = N := by omega
      subst hjN
      have HB := hid hb
      clear hb
      go_wp2_with fail
      go_ret
      exact ⟨rfl, HB.out⟩

end Go.Proofs.YtifoeehfblddcaaDoor
