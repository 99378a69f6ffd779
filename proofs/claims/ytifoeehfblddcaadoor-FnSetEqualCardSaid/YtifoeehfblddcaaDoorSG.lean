/- impl.Sets -/
import Derived.Test.YtifoeehfblddcaaDoorSB
import Derived.Test.YtifoeehfblddcaaDoorSD
namespace Go.Proofs.YtifoeehfblddcaaDoor
open Go.RowKit

/-- which of some numbers are in -/
def hasCells (ivs : List Iv) (zs : List Int) : List Value := zs.map fun z => .bool (hasI ivs z)

/-- what Sets hands back -/
def SetsOut (F : FS) (zs : List Int) (w : World) (e : Ending) (w' : World) : Prop :=
  (∃ TV T H0, e = .returned (.tuple #[TV, .bool (decide (runsI (F 0) 141 = runsI (F 1) 141))]) ∧ w'.ownsRow w.heap.size 72 5 TV 4 T ∧ T[0]? = some H0 ∧ T[1]? = some (.int .i64 (lenI (runsI (F 0) 141))) ∧
    w'.ownsRow w.heap.size 4 1 H0 zs.length (hasCells (runsI (F 0) 141) zs)) ∧ Below w.heap.size w w'

abbrev zero5 : Array Value := #[.slice none 0 0, .int .i64 0, .int .i64 0, .slice none 0 0, .string ⟨#[]⟩]
theorem new5 {X W : World} (hb : Below (X.alloc (.cells zero5 72)).heap.size (X.alloc (.cells zero5 72)) W) : W.heap[X.heap.size]? = some (.cells zero5 72 (0, 0)) := by
  rw [hb.block _ (by simp)]
  exact Go.Proofs.YtifoeehfblddcaaDoor.heap_alloc_new X _ _
theorem old5 {X W : World} {g : Nat} {c : Array Value} (hb : Below X.heap.size X W) (h : X.heap[g]? = some (.cells c 72 (0, 0))) : W.heap[g]? = some (.cells c 72 (0, 0)) := by
  rw [hb.block _ (lt_of_heap h)]; exact h
theorem facts5 {w : World} {g : Nat} {c0 c1 c2 c3 c4 : Value} {t : TypeId} (h : w.heap[g]? = some (.cells #[c0, c1, c2, c3, c4] t (0, 0))) :
    w.cell? ⟨g, 0, none⟩ = some c0 ∧ w.cell? ⟨g, 1, none⟩ = some c1 ∧ w.cell? ⟨g, 2, none⟩ = some c2 ∧ w.cell? ⟨g, 3, none⟩ = some c3 ∧ w.cell? ⟨g, 4, none⟩ = some c4 ∧ ∀ j, w.frozen? ⟨g, j, none⟩ = false := by
  refine ⟨?_, ?_, ?_, ?_, ?_, fun j => frozen_of_row _ _ _ _ _ h⟩ <;> simp [World.cell?, h]

theorem set5 {w : World} {g : Nat} {z0 z1 z2 z3 z4 : Value} {t : TypeId} (h : w.heap[g]? = some (.cells #[z0, z1, z2, z3, z4] t (0, 0))) (a b c d e : Value) :
    (((((w.setCell ⟨g, 0, none⟩ a).setCell ⟨g, 1, none⟩ b).setCell ⟨g, 2, none⟩ c).setCell ⟨g, 3, none⟩ d).setCell ⟨g, 4, none⟩ e).heap[g]? = some (.cells #[a, b, c, d, e] t (0, 0)) := by
  rw [heap_set (heap_set (heap_set (heap_set (heap_set h 0 a) 1 b) 2 c) 3 d) 4 e]
  simp
theorem fin5 {w0 w : World} {g : Nat} (h : Below w0.heap.size w0 w) (hg : w0.heap.size ≤ g) (a b c d e : Value) :
    Below w0.heap.size w0 (((((w.setCell ⟨g, 0, none⟩ a).setCell ⟨g, 1, none⟩ b).setCell ⟨g, 2, none⟩ c).setCell ⟨g, 3, none⟩ d).setCell ⟨g, 4, none⟩ e) :=
  ((((h.setCell hg _).setCell hg _).setCell hg _).setCell hg _).setCell hg _
theorem own_cap {w : World} {base : Nat} {e : TypeId} {size n c g : Nat} {xs : List Value} (h : w.ownsRow base e size (.slice (some ⟨g, 0, none⟩) n c) n xs) : n ≤ c := by
  rcases h.2 with ⟨h', _⟩ | ⟨_, _, _, h', _, _, h2, _⟩
  · simp at h'
  · simp only [Value.slice.injEq] at h'
    have := h'.2.2
    omega
/-- rows of two types: one grows, the other one is as it was -/
theorem own_two {w w' : World} {b1 b2 : Nat} {e1 e2 : TypeId} {s1 s2 n1 n2 : Nat} {v1 v2 : Value} {x1 x2 : List Value} (h1 : w.ownsRow b1 e1 s1 v1 n1 x1) (h2 : w.ownsRow b2 e2 s2 v2 n2 x2) (hg : w.grownBy w' v2.ownBlock) (he : e1 ≠ e2) : w'.ownsRow b1 e1 s1 v1 n1 x1 := by
  refine h1.kept hg ?_
  rcases h1.2 with ⟨rfl, _⟩ | ⟨g, cap, cur, rfl, _, hgg, _⟩
  · exact .inl rfl
  · refine .inr (fun e => ?_)
    exact own_ne h2 ⟨cur, e1, hgg, he⟩ e.symm
theorem own_below2 {w w' : World} {base : Nat} {e : TypeId} {size : Nat} {v : Value} {n : Nat} {xs : List Value} (h : w.ownsRow base e size v n xs) (hb : Below w.heap.size w w') : w'.ownsRow base e size v n xs := own_below h hb
theorem info72 : (Tryd.prog.info? 72).map (fun i => (i.zero, i.size, i.bytes)) = some (some (.agg #[.slice none 0 0, .int .i64 0, .int .i64 0, .slice none 0 0, .string ⟨#[]⟩]), 5, 80) := by kernel_rfl
theorem info4 : (Tryd.prog.info? 4).map (fun i => (i.zero, i.size, i.bytes)) = some (some (.bool false), 1, 1) := by kernel_rfl
theorem hasCells_succ (ivs : List Iv) (zs : List Int) (i : Nat) (h : i < zs.length) : hasCells ivs (zs.take (i + 1)) = hasCells ivs (zs.take i) ++ [.bool (hasI ivs (zs.getD i 0))] := by
  unfold hasCells
  rw [List.take_add_one, List.map_append]
  simp [h]
theorem keep_alloc {W : World} {p : Addr} {v : Value} (h : W.cell? p = some v) (o : Obj) : (W.alloc o).cell? p = some v := by
  rw [World.cell?_alloc_lt _ _ _ (World.block_lt_of_cell? _ _ h)]; exact h

theorem and3 : bits BinOp.and IntKind.i64 0 3 = 0 ∧ bits BinOp.and IntKind.i64 1 3 = 1 ∧ bits BinOp.and IntKind.i64 2 3 = 2 ∧ bits BinOp.and IntKind.i64 3 3 = 3 := by
  refine ⟨?_, ?_, ?_, ?_⟩ <;> decide +kernel

theorem and3_of (i : Nat) (hi : i < 4) : bits BinOp.and IntKind.i64 (i : Int) 3 = (i : Int) := by
  obtain ⟨a, b, c, d⟩ := and3
  rcases (show i = 0 ∨ i = 1 ∨ i = 2 ∨ i = 3 by omega) with rfl | rfl | rfl | rfl
  · exact a
  · exact b
  · exact c
  · exact d

set_option maxRecDepth 100000 in
set_option maxHeartbeats 12800000 in
theorem sets_any (A Z : Option Addr) (c cz : Nat) (ss : List Sst) (zs : List Int) (F : FS) (w : World) (hS : Steps w A c ss) (hZ : Ints w Z cz zs) (hF : stepsF F0 ss = some F) (hl : ss.length ≤ 60) (hzl : zs.length ≤ 1000) (hT : PwTab w) :
    Calls Tryd.prog 29 #[.slice A ss.length c, .slice Z zs.length cz] w (SetsOut F zs w) := by
  have HST := hid hS
  have HZ := hid hZ
  have HT := hid hT
  have hcap := hS.cap
  have hzcap := hZ.cap
  have HSS := hid (fun (G : FS) (k : Nat) (h : stepsF F0 (ss.take k) = some G) (hk : k < ss.length) => stepsF_succ h hk)
  have HSE := hid (fun (G : FS) (k : Nat) (h : stepsF F0 (ss.take k) = some G) (hk : k < ss.length) => stepsF_step hF hk h)
  have HEND := hid (show stepsF F0 (ss.take ss.length) = some F by rw [List.take_length]; exact hF)
  clear hS hZ hF hT
  generalize hN : ss.length = N at *
  have HN := hid hN
  clear hN
  go_enter Tryd.func29, Tryd.ntmps29
  go_upto_region 2 with fail
  have hm0 : Making w.heap.size w.heap.size 0 (w.alloc (.cells #[.pointer none, .pointer none, .pointer none, .pointer none] 84)) (fun _ => 0) :=
    ⟨⟨_, heap_alloc_new w _ _, rfl, fun i hi => by rcases (show i = 0 ∨ i = 1 ∨ i = 2 ∨ i = 3 by omega) with rfl | rfl | rfl | rfl <;> rfl⟩, fun i hi => by omega, fun i k hi => by omega⟩
  have HM0 := hid hm0
  have HB0 := hid (bl1 w (.cells #[.pointer none, .pointer none, .pointer none, .pointer none] 84))
  clear hm0
  generalize w.alloc (.cells #[.pointer none, .pointer none, .pointer none, .pointer none] 84) = w0 at *
  generalize hqe : w.heap.size = q at *
  have HQ := hid hqe
  clear hqe
  go_wp2_with fail
  go_loopg [18] 4 (fun k s18 wr => ∃ j : Nat, j + k = 4 ∧ (∃ z : Int, z = (j : Int) ∧ s18 = .int .i64 z) ∧ ∃ B, Making q q j wr B ∧ Below q w wr)
  case atStart => exact ⟨0, by omega, ⟨0, rfl, rfl⟩, _, HM0.out, HB0.out⟩
  case round =>
    obtain ⟨j, hj, ⟨z, hz, rfl⟩, B, hm, hb⟩ := hrel
    by_cases hlt : j < 4
    · have z1 : 0 ≤ z := by omega
      have z2 : z < 4 := by omega
      have z3 : z.toNat = j := by omega
      have HZ1 := hid hz
      clear hz
      have hqw : q < wr.heap.size := World.rowIs.lt hm.row
      have hcell := World.rowIs.cell hm.row hlt
      rw [if_neg (by omega)] at hcell
      have hfr := World.rowIs.frozen hm.row j
      have K := hid (fun W (hb : Below wr.heap.size wr W) => (⟨(hb.cell (p := ⟨q, j, none⟩) hqw).trans hcell, (hb.frozen (p := ⟨q, j, none⟩) hqw).trans hfr⟩ : W.cell? ⟨q, j, none⟩ = some (.pointer none) ∧ W.frozen? ⟨q, j, none⟩ = false))
      have HM := hid hm
      have HB := hid hb
      have HZN := hid znew_any
      clear hm hb hcell hfr
      go_wp2_with (go_at_call 43; refine (HZN.out _).mono ?_; rintro e w5 ⟨⟨b, rfl, hs⟩, hb5⟩; have HS5 := hid hs; have HB5 := hid hb5; have kk := K.out _ hb5; have kk1 := kk.1; have kk2 := kk.2; clear hs hb5 kk)
      go_roundg (gk - 1)
      case measure => omega
      case rel => exact ⟨j + 1, by omega, ⟨z + 1, by have := HZ1.out; omega, rfl⟩, _, HM.out.step HB5.out HS5.out (Nat.le_of_lt hqw), (HB.out.trans (HB5.out.mono (Nat.le_of_lt hqw))).setCell (Nat.le_refl _) _⟩
    · have hj4 : j = 4 := by omega
      subst hj4
      obtain rfl : z = 4 := by omega
      clear hz
      obtain ⟨hfour, hptr⟩ := hm.done
      have HFOUR := hid hfour
      have HPTR := hid hptr
      have HB := hid hb
      clear hm hfour hptr hb
      go_wp2_with fail
      go_loopg [27] N (fun k s27 wr => ∃ j : Nat, j + k = N ∧ s27 = .int .i64 j ∧ ∃ V G, stepsF F0 (ss.take j) = some G ∧ Four q wr B V G ∧ Ptrs wr q B ∧ Below q w wr)
      case atStart => exact ⟨0, by omega, rfl, _, F0, rfl, HFOUR.out, HPTR.out, HB.out⟩
      case round =>
        obtain ⟨j, hj, rfl, V, G, hG, hfo, hpt, hb⟩ := hrel
        have hqw : q < wr.heap.size := World.rowIs.lt hpt
        by_cases hlt : j < N
        · obtain ⟨g, o, rfl, hg, hcs⟩ := HST.out.row (by rw [HN.out]; omega)
          rw [HQ.out] at hg
          obtain ⟨k0, k1, k2, k3⟩ := hcs j (by rw [HN.out]; exact hlt)
          have r0 := (hb.cell (p := ⟨g, o + j * 4, none⟩) hg).trans k0
          have r1 := (hb.cell (p := ⟨g, o + j * 4 + 1, none⟩) hg).trans k1
          have r2 := (hb.cell (p := ⟨g, o + j * 4 + 2, none⟩) hg).trans k2
          have r3 := (hb.cell (p := ⟨g, o + j * 4 + 3, none⟩) hg).trans k3
          have hss := HSS.out G j hG hlt
          obtain ⟨G', hG'⟩ := HSE.out G j hG hlt
          rw [hG'] at hss
          generalize stAt ss j = st at *
          obtain ⟨h0, h3, hcase⟩ := stepF_some hG'
          obtain ⟨op, set, a, b⟩ := st
          simp only at r0 r1 r2 r3 h0 h3 hcase
          obtain ⟨i, rfl⟩ : ∃ i : Nat, set = i := ⟨set.toNat, by omega⟩
          have hi4 : i < 4 := by omega
          rw [Int.toNat_natCast] at hcase
          have ba := bl1 wr (.cells #[.int .u8 (op : Nat), .int .i64 i, .int .i64 a, .int .i64 b] 69)
          obtain ⟨q0, q1, q2, q3⟩ := four_new wr (.int .u8 (op : Nat)) (.int .i64 i) (.int .i64 a) (.int .i64 b) 69
          have HFO := hid (hfo.keep ba)
          have HPT := hid (hpt.keep ba)
          have HB1 := hid (hb.trans (ba.mono (Nat.le_of_lt hqw)))
          have HSS1 := hid hss
          clear hcs k0 k1 k2 k3 hss hG hG' hfo hpt hb ba h0 h3
          go_upto_region 10 with fail
          generalize wr.alloc (.cells #[.int .u8 (op : Nat), .int .i64 i, .int .i64 a, .int .i64 b] 69) = wa at *
          have hqs : wr.heap.size < wa.heap.size := World.block_lt_of_cell? _ _ q0
          generalize wr.heap.size = qs at *
          clear r0 r1 r2 r3
          have c0 := HPT.out.cells i hi4
          have ha3 := and3_of i hi4
          have i0 : (0 : Int) ≤ (i : Int) := by omega
          have i1 : (i : Int) < 4 := by omega
          have ba := bl1 wa (.cells #[.pointer (some ⟨B i, 0, none⟩)] 83)
          have p0 := cell_of_row _ _ 0 _ _ _ (heap_alloc_new wa #[.pointer (some ⟨B i, 0, none⟩)] 83)
          have q0' := (ba.cell (p := ⟨qs, 0, none⟩) hqs).trans q0
          have q1' := (ba.cell (p := ⟨qs, 1, none⟩) hqs).trans q1
          have q2' := (ba.cell (p := ⟨qs, 2, none⟩) hqs).trans q2
          have q3' := (ba.cell (p := ⟨qs, 3, none⟩) hqs).trans q3
          have HFO2 := hid (HFO.out.keep ba)
          have HPT2 := hid (HPT.out.keep ba)
          have HB2 := hid (HB1.out.trans (ba.mono (Nat.le_trans (Nat.le_of_lt hqw) (Nat.le_of_lt hqs))))
          clear ba
          go_upto_region 11 with fail
          generalize wa.alloc (.cells #[.pointer (some ⟨B i, 0, none⟩)] 83) = wb at *
          have hqt : wa.heap.size < wb.heap.size := World.block_lt_of_cell? _ _ p0
          generalize wa.heap.size = qt at *
          clear q0 q1 q2 q3 c0
          simp only [List.getElem?_toArray, List.getElem?_cons_zero] at p0
          rcases hcase with ⟨rfl, hok, rfl⟩ | ⟨rfl, hok, rfl⟩ | ⟨rfl, ha0, ha4, hai, f, hf, rfl⟩
          · have q0'' : wb.cell? ⟨qs, 0, none⟩ = some (.int .u8 0) := q0'
            clear q0'
            have HOK := hid hok
            clear hok
            go_wp2_with (go_at_call 44; refine (zaddone_any (HFO2.out.set i hi4) a HOK.out).mono ?_; rintro e w5 ⟨rfl, v', hs, hc⟩; have HFO5 := hid (HFO2.out.step hi4 hs hc); have HPT5 := hid (HPT2.out.chg (HFO2.out.set i hi4) hc); have HB5 := hid (HB2.out.trans (chg_below (HFO2.out.set i hi4) hc)); clear hs hc)
            go_roundg (gk - 1)
            case measure => omega
            case rel => exact ⟨j + 1, by omega, by go_num, _, _, HSS1.out, HFO5.out, HPT5.out, HB5.out⟩
          · have q0'' : wb.cell? ⟨qs, 0, none⟩ = some (.int .u8 1) := q0'
            clear q0'
            have HOK := hid hok
            clear hok
            go_wp2_with (go_at_call 45; refine (zaddrange_any (HFO2.out.set i hi4) a b HOK.out).mono ?_; rintro e w5 ⟨rfl, v', hs, hc⟩; have HFO5 := hid (HFO2.out.step hi4 hs hc); have HPT5 := hid (HPT2.out.chg (HFO2.out.set i hi4) hc); have HB5 := hid (HB2.out.trans (chg_below (HFO2.out.set i hi4) hc)); clear hs hc)
            go_roundg (gk - 1)
            case measure => omega
            case rel => exact ⟨j + 1, by omega, by go_num, _, _, HSS1.out, HFO5.out, HPT5.out, HB5.out⟩
          · have q0'' : wb.cell? ⟨qs, 0, none⟩ = some (.int .u8 2) := q0'
            clear q0'
            obtain ⟨m, rfl⟩ : ∃ m : Nat, a = m := ⟨a.toNat, by omega⟩
            have hm4 : m < 4 := by omega
            have hmi : m ≠ i := by omega
            rw [Int.toNat_natCast] at hf
            have hfd := (HFO2.out.keep ((Below.refl _ wb).drew))
            have hpd : Ptrs wb.drew q B := HPT2.out.keep ((Below.refl _ wb).drew)
            have hbd : Below q w wb.drew := HB2.out.drew
            have HFO3 := hid hfd
            have HPT3 := hid hpd
            have HB3 := hid hbd
            have HADD := hid (zaddset_any (hfd.set i hi4) (hfd.set m hm4) (hfd.ne m i hm4 hi4 hmi) (hfd.own m i hm4 hi4 hmi) hf)
            clear hfd hpd hbd
            have c0 := HPT2.out.cells m hm4
            have hm3 := and3_of m hm4
            have m0 : (0 : Int) ≤ (m : Int) := by omega
            have m1 : (m : Int) < 4 := by omega
            clear hf hai
            go_upto_region 17 with fail
            go_still_tail 6, (by kernel_rfl)
            change wpList _ _ _ _ _ wb.drew
            generalize wb.drew = wd at *
            go_wp2_with (go_at_call 46; refine HADD.out.mono ?_; rintro e w5 ⟨rfl, v', hs, hc⟩; have HFO5 := hid (HFO3.out.step hi4 hs hc); have HPT5 := hid (HPT3.out.chg (HFO3.out.set i hi4) hc); have HB5 := hid (HB3.out.trans (chg_below (HFO3.out.set i hi4) hc)); clear hs hc)
            go_roundg (gk - 1)
            case measure => omega
            case rel => exact ⟨j + 1, by omega, by go_num, _, _, HSS1.out, HFO5.out, HPT5.out, HB5.out⟩
        · have hjN : j = N := by omega
          subst hjN
          obtain rfl : G = F := Option.some.inj (hG.symm.trans HEND.out)
          have c0 := hpt.cells 0 (by decide)
          have c1 := hpt.cells 1 (by decide)
          have c2 := hpt.cells 2 (by decide)
          have c3 := hpt.cells 3 (by decide)
          have HFO := hid hfo
          have HB3 := hid hb
          have hidx : ∀ j : Nat, j < 4 → ∀ W : World, (Instr.index 84 (.agg #[.pointer (some ⟨B 0, 0, none⟩), .pointer (some ⟨B 1, 0, none⟩), .pointer (some ⟨B 2, 0, none⟩), .pointer (some ⟨B 3, 0, none⟩)]) (.int .i64 (j : Int))).run Tryd.prog W = .ok (.agg #[.pointer (some ⟨B j, 0, none⟩)]) W := by
            intro j hj W
            rcases (show j = 0 ∨ j = 1 ∨ j = 2 ∨ j = 3 by omega) with rfl | rfl | rfl | rfl <;> kernel_rfl
          have HIDX := hid hidx
          clear hG hfo hpt hb hidx hlt
          generalize wr = w3 at *
          go_wp2_with fail
          go_loopg [4, 75] 4 (fun k s4 s75 wr => ∃ j : Nat, j + k = 4 ∧ (∃ z : Int, z = (j : Int) ∧ s75 = .int .i64 z) ∧ ∃ T, wr.ownsRow w3.heap.size 72 5 s4 j T ∧ (0 < j → ∃ H0, T[0]? = some H0 ∧ T[1]? = some (.int .i64 (lenI (runsI (G 0) 141))) ∧ wr.ownsRow w3.heap.size 4 1 H0 zs.length (hasCells (runsI (G 0) 141) zs)) ∧ Below w3.heap.size w3 wr)
          case atStart => exact ⟨0, by omega, ⟨0, rfl, rfl⟩, [], World.ownsRow_nil _ _ _ _, fun h => by omega, Below.refl _ _⟩
          case round =>
            obtain ⟨j, hj, ⟨z, hz, rfl⟩, T, hT, hT0, hb⟩ := hrel
            by_cases hlt : j < 4
            · have z1 : 0 ≤ z := by omega
              have z2 : z < 4 := by omega
              have hx := HIDX.out j hlt
              rw [← hz] at hx
              have hset := (HFO.out.set j hlt).keep hb
              have hinb := inb_runs (G j)
              have ba := bl1 wr (.cells #[.pointer (some ⟨B j, 0, none⟩)] 83)
              have p12 := cell_of_row _ _ 0 _ _ _ (heap_alloc_new wr #[.pointer (some ⟨B j, 0, none⟩)] 83)
              simp only [List.getElem?_toArray, List.getElem?_cons_zero] at p12
              have hb4 := hb.trans (ba.mono hb.size)
              have hall : Below w.heap.size w (wr.alloc (.cells #[.pointer (some ⟨B j, 0, none⟩)] 83)) := by
                rw [HQ.out]
                exact HB3.out.trans (hb4.mono (by have := HB3.out.size; rw [HQ.out] at this; exact this))
              have HZ4 := hid (HZ.out.keep hall)
              have HT4 := hid (HT.out.keep hall)
              have hs4 := hset.keep ba
              have HS4 := hid hs4
              have HTL := hid (own_below hT ba)
              have HTL0 := hid (show 0 < j → ∃ H0, T[0]? = some H0 ∧ T[1]? = some (.int .i64 (lenI (runsI (G 0) 141))) ∧ (wr.alloc (.cells #[.pointer (some ⟨B j, 0, none⟩)] 83)).ownsRow w3.heap.size 4 1 H0 zs.length (hasCells (runsI (G 0) 141) zs) from fun h => by
                obtain ⟨H0, e1, e2, e3⟩ := hT0 h
                exact ⟨H0, e1, e2, own_below e3 ba⟩)
              have HB4 := hid hb4
              have HZZ := hid hz
              have HINB := hid hinb
              clear hz hT hT0 hb hset ba hb4 hall hs4 hinb
              go_upto_region 24 with fail
              generalize wr.alloc (.cells #[.pointer (some ⟨B j, 0, none⟩)] 83) = wa at *
              have hqa : wr.heap.size < wa.heap.size := World.block_lt_of_cell? _ _ p12
              generalize wr.heap.size = qa at *
              generalize hivs : runsI (G j) 141 = ivs at *
              have HIV := hid hivs
              clear hivs hx
              have HLEN := hid (fun W (hb : Below wa.heap.size wa W) => zlength_any (HS4.out.keep hb) HINB.out)
              have HFST := hid (fun W (hb : Below wa.heap.size wa W) => zfirst_any (HS4.out.keep hb) HINB.out)
              have HTXT := hid (fun W (hb : Below wa.heap.size wa W) => ztext_any (HS4.out.keep hb) HINB.out (HT4.out.keep hb))
              have HCON := hid (fun n W (hb : Below wa.heap.size wa W) => zcontains_any (HS4.out.keep hb) HINB.out n)
              have HINT := hid (fun W (hb : Below wa.heap.size wa W) => zintervals_any (HS4.out.keep hb))
              go_cut [13] (fun a wx => ∃ g s zf, a = .pointer (some ⟨g, 0, none⟩) ∧ wx.heap[g]? = some (.cells #[.slice none 0 0, .int .i64 (lenI ivs), .int .i64 zf, .slice none 0 0, .string s] 72 (0, 0)) ∧ Below wa.heap.size wa wx ∧ wa.heap.size ≤ g)
              case first =>
                have D0 := hid ((Below.refl wa.heap.size wa).drew)
                have hna : wa.heap.size ≠ qa := Nat.ne_of_gt hqa
                have nna := World.new_ne wa ⟨qa, 0, none⟩ p12
                go_region_held3 (fun W => W.cell? ⟨qa, 0, none⟩ = some (.pointer (some ⟨B j, 0, none⟩)))
                  (go_keep)
                  (first
                  | (go_at_call 48; refine (HLEN.out _ (by first | exact D0.out | exact D0.out.alloc (Nat.le_refl _) _)).mono ?_; rintro e w1 ⟨rfl, hb1⟩;
                     have hx1 : Below wa.heap.size wa w1 := (by first | exact D0.out.trans hb1 | exact (D0.out.alloc (Nat.le_refl _) _).trans (hb1.mono (by simp)));
                     have cc1 := (hx1.cell (p := ⟨qa, 0, none⟩) hqa).trans p12; have hn1 : w1.heap.size ≠ qa := Nat.ne_of_gt (Nat.lt_of_lt_of_le hqa hx1.size); have nn1 := World.new_ne w1 ⟨qa, 0, none⟩ cc1;
                     (try (have e1 : w1.heap[wa.heap.size]? = _ := new5 (X := wa.drew) hb1)))
                  | (go_at_call 49; refine (HFST.out _ (by first | exact hx1 | exact hx1.alloc hx1.size _)).mono ?_; rintro e w2 ⟨⟨zf, rfl⟩, hb2⟩;
                     have hx2 : Below wa.heap.size wa w2 := (by first | exact hx1.trans (hb2.mono hx1.size) | exact (hx1.alloc hx1.size _).trans (hb2.mono (Nat.le_trans hx1.size (by simp))));
                     have cc2 := (hx2.cell (p := ⟨qa, 0, none⟩) hqa).trans p12; have hn2 : w2.heap.size ≠ qa := Nat.ne_of_gt (Nat.lt_of_lt_of_le hqa hx2.size); have nn2 := World.new_ne w2 ⟨qa, 0, none⟩ cc2;
                     (try (have e2 := old5 hb2 e1)); (try (have e2 := new5 (X := w1) hb2)))
                  | (go_at_call 50; refine (HTXT.out _ (by first | exact hx2 | exact hx2.alloc hx2.size _)).mono ?_; rintro e w4 ⟨⟨s, rfl⟩, hb5⟩;
                     have hx4 : Below wa.heap.size wa w4 := (by first | exact hx2.trans (hb5.mono hx2.size) | exact (hx2.alloc hx2.size _).trans (hb5.mono (Nat.le_trans hx2.size (by simp))));
                     have cc4 := (hx4.cell (p := ⟨qa, 0, none⟩) hqa).trans p12; have hn4 : w4.heap.size ≠ qa := Nat.ne_of_gt (Nat.lt_of_lt_of_le hqa hx4.size); have nn4 := World.new_ne w4 ⟨qa, 0, none⟩ cc4;
                     (try (have e4 := old5 hb5 e2)); (try (have e4 := new5 (X := w2) hb5)); (try (have hk := facts5 e4; obtain ⟨j0, j1, j2, j3, j4, j5⟩ := hk))))
                all_goals
                  go_wp2_with fail
                  go_meet
                  first
                    | (have hk := e4
                       exact ⟨_, s, zf, rfl, set5 hk _ _ _ _ _, fin5 hx4 (by first | exact Nat.le_refl _ | exact hx1.size | exact hx2.size) _ _ _ _ _, (by first | exact Nat.le_refl _ | exact hx1.size | exact hx2.size)⟩)
                    | exact ⟨w4.heap.size, s, zf, rfl, Go.Proofs.YtifoeehfblddcaaDoor.heap_alloc_new w4 _ _, hx4.alloc hx4.size _, hx4.size⟩
              case rest =>
                obtain ⟨g, s, zf, rfl, hblk, hbx, hgl⟩ := hcut
                have HBLK := hid hblk
                have HBX := hid hbx
                obtain ⟨i4, hi4, hy0, hy1, hy2⟩ := info_parts info4
                have HHS := hid (hasCells_succ ivs zs)
                have HHT := hid (show hasCells ivs (zs.take zs.length) = hasCells ivs zs by rw [List.take_length])
                generalize hNZ : zs.length = NZ at *
                have HNZ := hid hNZ
                clear hblk hbx hNZ
                go_wp2_with fail
                go_loopg [87] NZ (fun k s87 wr => ∃ i : Nat, i + k = NZ ∧ s87 = .int .i64 i ∧ ∃ H, wr.heap[g]? = some (.cells #[H, .int .i64 (lenI ivs), .int .i64 zf, .slice none 0 0, .string s] 72 (0, 0)) ∧ wr.ownsRow wa.heap.size 4 1 H i (hasCells ivs (zs.take i)) ∧ Below wa.heap.size wa wr)
                case atStart => exact ⟨0, by omega, rfl, _, HBLK.out, World.ownsRow_nil _ _ _ _, HBX.out⟩
                case round =>
                  obtain ⟨i, hi, rfl, H, hblk, hown, hb⟩ := hrel
                  by_cases hlt2 : i < NZ
                  · obtain ⟨gz, oz, rfl, hgz, hcz⟩ := HZ4.out.row (by rw [HNZ.out]; omega)
                    have r0 := (hb.cell (p := ⟨gz, oz + i, none⟩) hgz).trans (hcz i (by rw [HNZ.out]; exact hlt2))
                    have hs1 := HHS.out i hlt2
                    generalize zs.getD i 0 = n at *
                    have hkk := facts5 hblk
                    have c0 := hkk.1
                    have hfz := hkk.2.2.2.2.2 0
                    have x0 := (hb.cell (p := ⟨qa, 0, none⟩) hqa).trans p12
                    have hgw : g < wr.heap.size := lt_of_heap hblk
                    have hqw2 : qa < wr.heap.size := World.block_lt_of_cell? _ _ x0
                    have HNE := hid (own_ne hown ⟨_, 72, hblk, by decide⟩)
                    have HOWN := hid hown
                    have HB := hid hb
                    have HS1 := hid hs1
                    have HBL := hid hblk
                    have K := hid (fun W (hb : Below wr.heap.size wr W) => (⟨(hb.cell (p := ⟨g, 0, none⟩) hgw).trans c0, (hb.cell (p := ⟨qa, 0, none⟩) hqw2).trans x0, (hb.frozen (p := ⟨g, 0, none⟩) hgw).trans hfz⟩ : W.cell? ⟨g, 0, none⟩ = some H ∧ W.cell? ⟨qa, 0, none⟩ = some (.pointer (some ⟨B j, 0, none⟩)) ∧ W.frozen? ⟨g, 0, none⟩ = false))
                    have D := hid ((Below.refl wr.heap.size wr).drew)
                    have hj1 : i + 1 ≤ maxLen := by unfold maxLen; omega
                    have hj2 : (i + 1) * 1 ≤ 140737488355328 := by omega
                    have hbs := hb.size
                    clear hown hb hs1 hcz hkk hblk
                    go_wp2_with fail
                    go_region_law (first
                        | (refine step_append_lies _ (by rfl) _ _ _ (by rfl) wa.heap.size 4 i4 _ 1 1 Tryd.underlying28 hi4 hy0 hy1 hy2 rfl (by omega) H i (hasCells ivs (zs.take i)) (by rfl) ((own_below HOWN.out (bl D.out HB3.out)).alloc _)
                             ⟨w5.heap.size, 0, none⟩ 1 1 [.bool (hasI ivs n)] (by rfl) (by rfl) (World.news_of_block (heap_alloc_new w5 #[.bool (hasI ivs n)] 4)) (by simp [Value.oneCell']) (by omega) hj1 hj2 (by simp; omega) (w5.heap.size + 1) (by simp) ?_
                           intro gg cap w6 hown6 hgrow hat hlt6
                           have hc6 := (grown_cell (p := ⟨g, 0, none⟩) hgrow (by simp; omega) (Ne.symm HNE.out)).trans (K.out _ (bl (bl D.out HB3.out) (bl1 _ _))).1
                           have hf6 := (World.frozen?_of_block (a := ⟨g, 0, none⟩) (hgrow.block g (by simp; omega) (Ne.symm HNE.out))).trans (K.out _ (bl (bl D.out HB3.out) (bl1 _ _))).2.2)
                        | (go_simp
                           go_at_call 51
                           refine (HCON.out n _ (HB.out.trans (D.out.mono hbs))).mono ?_
                           rintro e w5 ⟨rfl, hb5⟩
                           have HB3 := hid hb5
                           have hs5 : wr.heap.size ≤ w5.heap.size := hb5.size
                           have hk3 := (K.out _ (bl D.out hb5)).1
                           have hk4 := (K.out _ (bl D.out hb5)).2.1
                           have hk5 := (K.out _ (bl (bl D.out hb5) (bl1 _ (.cells #[.bool (hasI ivs n)] 4)))).1
                           clear hb5))
                    all_goals
                      go_wp2_with fail
                      go_roundg (gk - 1)
                      case measure => omega
                      case rel =>
                        have hb6 := bl (bl D.out HB3.out) (bl1 w5 (.cells #[.bool (hasI ivs n)] 4))
                        have hblk6 := (hgrow.block g (Nat.lt_of_lt_of_le hgw hb6.size) (Ne.symm HNE.out)).trans ((hb6.block g hgw).trans HBL.out)
                        refine ⟨i + 1, by omega, by go_num, _, by simpa using heap_set hblk6 0 _, ?_, ((HB.out.trans (hb6.mono hbs)).grown hgrow (Nat.le_trans hbs hb6.size) (fun k hk => (HOWN.out.lt k hk).1)).setCell hgl _⟩
                        rw [HS1.out]
                        exact own_set hown6 _ _ (own_ne hown6 ⟨_, 72, hblk6, by decide⟩)
                  · have hiN : i = NZ := by omega
                    subst hiN
                    rw [HHT.out] at hown
                    have x0 := (hb.cell (p := ⟨qa, 0, none⟩) hqa).trans p12
                    have HOWN := hid hown
                    have HB := hid hb
                    have HBL := hid hblk
                    have hset := HS4.out.own
                    have hilen := HINB.out.len
                    have hicells := icells_at ivs
                    obtain ⟨A5, c5, hv5⟩ := slice_of hset
                    rw [hv5] at HINT hset
                    have hwl := hb.size
                    generalize hM : ivs.length = M at *
                    have HM := hid hM
                    have HIC := hid hicells
                    have HOW5 := hid hset
                    obtain ⟨i8, hi8, hy0', hy1', hy2'⟩ := info_parts info80
                    clear hown hb hblk hset hicells hM hv5
                    go_wp2_with (go_at_call 52; refine (HINT.out _ HB.out).mono ?_; rintro e w5 ⟨rfl, hb5⟩; have HB5 := hid hb5; clear hb5)
                    go_loopg [103] M (fun k s103 wr => ∃ i2 : Nat, i2 + k = M ∧ s103 = .int .i64 i2 ∧ ∃ R rc, wr.heap[g]? = some (.cells #[H, .int .i64 (lenI ivs), .int .i64 zf, R, .string s] 72 (0, 0)) ∧ wr.ownsRow wa.heap.size 80 2 R i2 rc ∧ wr.ownsRow wa.heap.size 4 1 H i (hasCells ivs zs) ∧ Below wa.heap.size wa wr)
                    case atStart => exact ⟨0, by omega, rfl, _, _, old5 HB5.out HBL.out, World.ownsRow_nil _ _ _ _, own_below HOWN.out HB5.out, HB.out.trans (HB5.out.mono hwl)⟩
                    case round =>
                      obtain ⟨i2, hi2, rfl, R, rc, hblk, hownR, hownH, hb⟩ := hrel
                      by_cases hlt3 : i2 < M
                      · obtain ⟨g5, cap5, hv, _, hg5⟩ := HOW5.out.form (by omega)
                        simp only [Value.slice.injEq] at hv
                        obtain ⟨rfl, _, rfl⟩ := hv
                        have hcc5 : M ≤ c5 := own_cap HOW5.out
                        have hic := HIC.out i2 hlt3
                        rw [← HOW5.out.cellAt _ (by omega), ← HOW5.out.cellAt _ (by omega)] at hic
                        have r0 := (hb.cell (p := ⟨g5, i2 * 2, none⟩) hg5).trans hic.1
                        have r1 := (hb.cell (p := ⟨g5, i2 * 2 + 1, none⟩) hg5).trans hic.2
                        obtain ⟨b1, b2, b3⟩ := HINB.out.at_ (k := i2) (by rw [HM.out]; exact hlt3)
                        generalize ivAt ivs i2 = p at *
                        obtain ⟨x, y⟩ := p
                        simp only at r0 r1 b1 b2 b3
                        have ba := bl1 wr (.cells #[.int .i64 x, .int .i64 y] 92)
                        obtain ⟨t0, t1⟩ := pair_new wr x y 92
                        have hblkb := old5 ba hblk
                        have hkk := facts5 hblkb
                        have f3 := hkk.2.2.2.1
                        have HBLb := hid hblkb
                        have HORb := hid (own_below hownR ba)
                        have HOHb := hid (own_below hownH ba)
                        have HBb := hid (hb.trans (ba.mono hb.size))
                        clear hblk hownR hownH hb hic ba hkk hblkb
                        go_upto_region 33 with fail
                        generalize wr.alloc (.cells #[.int .i64 x, .int .i64 y] 92) = wb at *
                        generalize wr.heap.size = qb at *
                        have hbs := HBb.out.size
                        have hgb := lt_of_heap HBLb.out
                        have HNR := hid (own_ne HORb.out ⟨_, 72, HBLb.out, by decide⟩)
                        go_wp2_with (at_builtin; refine wpList_append_own_at _ rfl _ _ 70 rfl wa.heap.size 80 i8 _ 2 16 Tryd.underlying70 hi8 hy0' hy1' hy2' rfl (by decide) _ _ _ rfl (HORb.out.alloc _) ⟨wb.heap.size, 0, none⟩ 1 1 (Go.Proofs.YtifoeehfblddcaaDoor.c2 x (y - 1)) rfl rfl ?c1 ?c2 ?c3 ?c4 ?c5 ?_)
                        case c1 => exact World.news_of_block (Go.Proofs.YtifoeehfblddcaaDoor.heap_alloc_new wb #[.int .i64 x, .int .i64 (y - 1)] 80)
                        case c2 => intro u hu; simp [Go.Proofs.YtifoeehfblddcaaDoor.c2] at hu; rcases hu with rfl | rfl <;> rfl
                        case c3 => unfold maxLen; omega
                        case c4 => omega
                        case c5 => simp; omega
                        intro R' w6 hown6 hgrow6 _ _
                        obtain ⟨AR, cR, rfl⟩ := slice_of hown6
                        have hblk6 := (hgrow6.block g (Nat.lt_of_lt_of_le hgb (by simp)) (Ne.symm HNR.out)).trans ((bl1 wb _).block g hgb |>.trans HBLb.out)
                        have hkk := facts5 hblk6
                        have f63 := hkk.2.2.2.1
                        have fz63 := hkk.2.2.2.2.2 3
                        have HBL6 := hid hblk6
                        have HOH6 := hid (own_two (HOHb.out.alloc _) (HORb.out.alloc _) hgrow6 (by decide))
                        have HB6 := hid ((HBb.out.trans ((bl1 wb _).mono hbs)).grown hgrow6 (Nat.le_trans hbs (by simp)) (fun k e => (HORb.out.lt k e).1))
                        have HOR6 := hid hown6
                        clear hown6 hgrow6 hblk6 hkk
                        go_wp2_with fail
                        go_roundg (gk - 1)
                        case measure => omega
                        case rel => exact ⟨i2 + 1, by omega, by go_num, _, _, by simpa using heap_set HBL6.out 3 _, own_set HOR6.out _ _ (own_ne HOR6.out ⟨_, 72, HBL6.out, by decide⟩), own_set HOH6.out _ _ (own_ne HOH6.out ⟨_, 72, HBL6.out, by decide⟩), HB6.out.setCell hgl _⟩
                      · have hi2M : i2 = M := by omega
                        subst hi2M
                        obtain ⟨AH, cH, rfl⟩ := slice_of hownH
                        obtain ⟨AR, cR, rfl⟩ := slice_of hownR
                        obtain ⟨i7, hi7, hu0, hu1, hu2⟩ := info_parts info72
                        have hkk := facts5 hblk
                        obtain ⟨f0, f1, f2, f3, f4, _⟩ := hkk
                        have HTr := hid (own_below2 HTL.out hb)
                        have HOH := hid hownH
                        have HBr := hid hb
                        have hbs := hb.size
                        have hb4s := HB4.out.size
                        clear hblk hownR hownH hb
                        go_wp2_with (at_builtin; refine wpList_append_own_at _ rfl _ _ 38 rfl w3.heap.size 72 i7 _ 5 80 Tryd.underlying38 hi7 hu0 hu1 hu2 rfl (by decide) _ _ _ rfl (HTr.out.alloc _) ⟨wr.heap.size, 0, none⟩ 1 1 [.slice AH i cH, .int .i64 (lenI ivs), .int .i64 zf, .slice AR i2 cR, .string s] rfl rfl ?c1 ?c2 ?c3 ?c4 ?c5 ?_)
                        case c1 => exact World.news_of_block (Go.Proofs.YtifoeehfblddcaaDoor.heap_alloc_new wr #[.slice AH i cH, .int .i64 (lenI ivs), .int .i64 zf, .slice AR i2 cR, .string s] 72)
                        case c2 => intro u hu; simp only [List.mem_cons, List.not_mem_nil, or_false] at hu; rcases hu with rfl | rfl | rfl | rfl | rfl <;> rfl
                        case c3 => unfold maxLen; omega
                        case c4 => omega
                        case c5 => simp; omega
                        intro T' w6 hown6 hgrow6 _ _
                        have HO6 := hid hown6
                        have HOH6 := hid (own_two (HOH.out.alloc (.cells #[.slice AH i cH, .int .i64 (lenI ivs), .int .i64 zf, .slice AR i2 cR, .string s] 72)) (HTr.out.alloc _) hgrow6 (by decide))
                        have HTL6 := hid (fun (h : 0 < j) => (show ∃ H0, T[0]? = some H0 ∧ T[1]? = some (.int .i64 (lenI (runsI (G 0) 141))) ∧ w6.ownsRow w3.heap.size 4 1 H0 i (hasCells (runsI (G 0) 141) zs) from by
                          obtain ⟨H0, e1, e2, e3⟩ := HTL0.out h
                          exact ⟨H0, e1, e2, own_two ((own_below2 e3 HBr.out).alloc _) (HTr.out.alloc _) hgrow6 (by decide)⟩))
                        have HB6 := hid (((HB4.out.trans (HBr.out.mono hb4s)).trans ((bl1 wr (.cells #[.slice AH i cH, .int .i64 (lenI ivs), .int .i64 zf, .slice AR i2 cR, .string s] 72)).mono (Nat.le_trans hb4s hbs))).grown hgrow6 (Nat.le_trans (Nat.le_trans hb4s hbs) (by simp)) (fun k e => (HTr.out.lt k e).1))
                        have HLT := hid HTr.out.1
                        clear hown6 hgrow6
                        go_wp2_with fail
                        go_roundg (4 - j - 1)
                        case measure => omega
                        case rel =>
                          refine ⟨j + 1, by omega, ⟨z + 1, by have := HZZ.out; omega, rfl⟩, _, HO6.out, fun _ => ?_, HB6.out⟩
                          by_cases hj0 : 0 < j
                          · obtain ⟨H0, e1, e2, e3⟩ := HTL6.out hj0
                            have hTl : T.length = j * 5 := HLT.out
                            exact ⟨H0, by rw [List.getElem?_append_left (by omega)]; exact e1, by rw [List.getElem?_append_left (by omega)]; exact e2, e3⟩
                          · have hj0' : j = 0 := by omega
                            subst hj0'
                            have hTl : T = [] := List.eq_nil_of_length_eq_zero (by have := HLT.out; omega)
                            subst hTl
                            have hiv := HIV.out
                            refine ⟨.slice AH i cH, rfl, by rw [hiv]; rfl, ?_⟩
                            rw [hiv]
                            exact own_low HOH6.out hb4s
            · have hj4 : j = 4 := by omega
              subst hj4
              obtain rfl : z = 4 := by omega
              obtain ⟨H0, e1, e2, e3⟩ := hT0 (by decide)
              have k0 := (hb.cell (p := ⟨q, 0, none⟩) hqw).trans c0
              have k1 := (hb.cell (p := ⟨q, 1, none⟩) hqw).trans c1
              have HEQ := hid (zequal_any ((HFO.out.set 0 (by decide)).keep hb) ((HFO.out.set 1 (by decide)).keep hb) (inb_runs (G 0)))
              have HT4 := hid hT
              have HE1 := hid e1
              have HE2 := hid e2
              have HE3 := hid e3
              have HB4 := hid hb
              have hq3 := Nat.le_of_lt hqw
              have HO := hid (show ∀ (w5 : World), Below wr.heap.size wr w5 → SetsOut G zs w (.returned (.tuple #[u4, .bool (decide (runsI (G 0) 141 = runsI (G 1) 141))])) w5 from fun w5 hb5 => by
                refine ⟨⟨_, T, H0, rfl, ?_, HE1.out, HE2.out, ?_⟩, ?_⟩
                · rw [HQ.out]; exact own_low (own_below HT4.out hb5) hq3
                · rw [HQ.out]; exact own_low (own_below HE3.out hb5) hq3
                · rw [HQ.out]; exact (HB3.out.trans (HB4.out.mono hq3)).trans (hb5.mono (Nat.le_trans hq3 HB4.out.size)))
              generalize decide (runsI (G 0) 141 = runsI (G 1) 141) = ans at *
              clear hT hT0 e1 e2 e3 hb hz c0 c1 c2 c3
              go_wp2_with (go_at_call 53; refine HEQ.out.mono ?_; rintro e w5 ⟨rfl, hb5⟩; have HB5 := hid hb5; clear hb5)
              go_ret2
              exact HO.out w5 HB5.out

end Go.Proofs.YtifoeehfblddcaaDoor
