/- walks: CharsDo -/
import Derived.Test.YtcakbheoibaiiaaDoorR
import Derived.Test.YtcakbheoibaiiaaDoorM
import Derived.Deep.DeepCutAuto
import Derived.Deep.CutBlock
namespace Go.Proofs.YtcakbheoibaiiaaDoor
open Go.RowKit

def RunO (rs : List Int) (i : Int) (ss : List Stp) (done : List Out) (R : Option (List Out)) : Prop := R = (runSteps rs i ss).map (done ++ ·)
theorem RunO.nil_ {rs : List Int} {i : Int} {done : List Out} {R : Option (List Out)} (h : RunO rs i [] done R) : R = some done := by
  unfold RunO at h; rw [h]; simp [runSteps]
theorem RunO.none_ {rs : List Int} {i : Int} {s : Stp} {r : List Stp} {done : List Out} {R : Option (List Out)} (h : RunO rs i (s :: r) done R) (hs : stepTo rs i s = none) : R = none := by
  unfold RunO at h; rw [h]; simp [runSteps, hs]
theorem RunO.pan_ {rs : List Int} {i i' : Int} {s : Stp} {o : Out} {r : List Stp} {done : List Out} {R : Option (List Out)} (h : RunO rs i (s :: r) done R) (hs : stepTo rs i s = some (o, i')) (hp : o.pan = true) : R = some (done ++ [o]) := by
  unfold RunO at h; rw [h]; simp [runSteps, hs, hp]
theorem RunO.go_ {rs : List Int} {i i' : Int} {s : Stp} {o : Out} {r : List Stp} {done : List Out} {R : Option (List Out)} (h : RunO rs i (s :: r) done R) (hs : stepTo rs i s = some (o, i')) (hp : o.pan = false) : RunO rs i' r (done ++ [o]) R := by
  unfold RunO at h ⊢; rw [h]; simp only [runSteps, hs, hp]
  cases runSteps rs i' r <;> simp

def ChPost (R : Option (List Out)) (w : World) (e : Ending) (w' : World) : Prop :=
  (match R with
  | some outs => ∃ v, e = .returned (.tuple #[v, .bool true]) ∧ w'.ownsRow w.heap.size 47 4 v outs.length (outCells outs)
  | none => e = .returned (.tuple #[.slice none 0 0, .bool false])) ∧ Below w.heap.size w w'

theorem chpost_none {R : Option (List Out)} {w w' : World} (h : R = none) (hb : Below w.heap.size w w') : ChPost R w (.returned (.tuple #[.slice none 0 0, .bool false])) w' := by
  subst h; exact ⟨rfl, hb⟩
theorem chpost_some {R : Option (List Out)} {w w' : World} {outs : List Out} {n : Nat} {v : Value} {base : Nat} (h : R = some outs) (hn : outs.length = n) (ho : w'.ownsRow base 47 4 v n (outCells outs)) (hbs : w.heap.size ≤ base) (hb : Below w.heap.size w w') : ChPost R w (.returned (.tuple #[v, .bool true])) w' := by
  subst h; subst hn; exact ⟨⟨v, rfl, row_mono ho hbs⟩, hb⟩

theorem cell_new_at (W : World) (M : Nat) (hM : W.heap.size = M) (C : Array Value) (t : TypeId) (q : Nat) : (W.alloc (.cells C t)).cell? ⟨M, q, none⟩ = C[q]? := by
  subst hM
  exact World.cell?_alloc_mark W C t (0, 0) q

theorem stepTo_i {rs : List Int} {i i' : Int} {s : Stp} {o : Out} (hs : stepTo rs i s = some (o, i')) (h0 : 0 ≤ i) (h1 : i ≤ rs.length) : 0 ≤ i' ∧ i' ≤ rs.length := by
  unfold stepTo at hs
  repeat' split at hs
  all_goals first | cases hs | skip
  all_goals omega

theorem stepTo_some {rs : List Int} {i i' a b : Int} {op : Int} {tA : Option Addr} {tl tc : Nat} {o : Out} (hs : stepTo rs i ⟨op, a, b, tA, tl, tc⟩ = some (o, i')) :
    (op = 0 ∧ i = rs.length ∧ o = ⟨0, ⟨#[]⟩, true⟩ ∧ i = i') ∨ (op = 0 ∧ i ≠ rs.length ∧ o = ⟨0, ⟨#[]⟩, false⟩ ∧ i + 1 = i') ∨
    (op = 1 ∧ a ≠ 0 ∧ a ≤ 1000 ∧ -1000 ≤ a ∧ o = ⟨laOf rs i a, ⟨#[]⟩, false⟩ ∧ i = i') ∨ (op = 2 ∧ 0 ≤ a ∧ a ≤ rs.length ∧ o = ⟨0, ⟨#[]⟩, false⟩ ∧ a = i') ∨
    (op = 3 ∧ o = ⟨0, ⟨#[]⟩, false⟩ ∧ i = i') ∨ (op = 4 ∧ o = ⟨i, ⟨#[]⟩, false⟩ ∧ i = i') ∨ (op = 5 ∧ o = ⟨rs.length, ⟨#[]⟩, false⟩ ∧ i = i') ∨
    ((op = 6 ∨ op = 7) ∧ 0 ≤ a ∧ a ≤ b ∧ b < rs.length ∧ o = ⟨0, runesBytes ((rs.drop a.toNat).take (b.toNat + 1 - a.toNat)), false⟩ ∧ i = i') ∨
    (op = 8 ∧ o = ⟨0, runesBytes rs, false⟩ ∧ i = i') := by
  unfold stepTo at hs
  simp only at hs
  repeat' split at hs
  all_goals first | (cases hs; done) | skip
  all_goals (simp only [Option.some.injEq, Prod.mk.injEq] at hs; obtain ⟨rfl, rfl⟩ := hs)
  · exact .inl ⟨‹_›, ‹_›, rfl, rfl⟩
  · exact .inr (.inl ⟨‹_›, ‹_›, rfl, rfl⟩)
  · exact .inr (.inr (.inl ⟨‹_›, by omega, by omega, by omega, rfl, rfl⟩))
  · exact .inr (.inr (.inr (.inl ⟨‹_›, by omega, by omega, rfl, rfl⟩)))
  · exact .inr (.inr (.inr (.inr (.inl ⟨‹_›, rfl, rfl⟩))))
  · exact .inr (.inr (.inr (.inr (.inr (.inl ⟨‹_›, rfl, rfl⟩)))))
  · exact .inr (.inr (.inr (.inr (.inr (.inr (.inl ⟨‹_›, rfl, rfl⟩))))))
  · exact .inr (.inr (.inr (.inr (.inr (.inr (.inr (.inl ⟨‹_›, by omega, by omega, by omega, rfl, rfl⟩)))))))
  · exact .inr (.inr (.inr (.inr (.inr (.inr (.inr (.inr ⟨‹_›, rfl, rfl⟩)))))))

theorem stepTo_none {rs : List Int} {i a b : Int} {op : Int} {tA : Option Addr} {tl tc : Nat} (hs : stepTo rs i ⟨op, a, b, tA, tl, tc⟩ = none) :
    (op = 1 ∧ (a = 0 ∨ 1000 < a ∨ a < -1000)) ∨ (op = 2 ∧ (a < 0 ∨ (rs.length : Int) < a)) ∨ ((op = 6 ∨ op = 7) ∧ (a < 0 ∨ b < a ∨ (rs.length : Int) ≤ b)) ∨
    (op ≠ 0 ∧ op ≠ 1 ∧ op ≠ 2 ∧ op ≠ 3 ∧ op ≠ 4 ∧ op ≠ 5 ∧ op ≠ 6 ∧ op ≠ 7 ∧ op ≠ 8) := by
  unfold stepTo at hs
  simp only at hs
  repeat' split at hs
  all_goals first | (cases hs; done) | skip
  · exact .inl ⟨‹_›, ‹_›⟩
  · exact .inr (.inl ⟨‹_›, ‹_›⟩)
  · exact .inr (.inr (.inl ⟨‹_›, ‹_›⟩))
  · exact .inr (.inr (.inr (by omega)))

theorem info47 : (Tryd.prog.info? 47).map (fun i => (i.zero, i.size, i.bytes)) = some (some (.agg #[.int .i64 0, .string ⟨#[]⟩, .slice none 0 0, .bool false]), 4, 56) := by kernel_rfl

set_option maxRecDepth 100000 in
set_option maxHeartbeats 4000000 in
theorem charsdo_any (text : ByteArray) (g o c : Nat) (ss : List Stp) (R : Option (List Out)) (w : World) (ht : text.size ≤ 200) (hpl : plain text = true) (hg : g < w.heap.size) (hss : StepRow w g o ss) (hn : ss.length ≤ 1000)
    (hrun : RunO (runes text) 0 ss [] R) :
    Calls Tryd.prog 10 #[.string text, .slice (some ⟨g, o, none⟩) ss.length c] w (ChPost R w) := by
  generalize hN : ss.length = N at hn ⊢
  obtain ⟨i0, hi, hz0, hz1, hz2⟩ := info_parts info47
  obtain ⟨cc, C, hcc, hconv, hC⟩ := conv_runes text w (by omega)
  have hbC : Below w.heap.size w (w.drew.alloc (.cells C 21)) := (Below.refl _ _).drew.alloc (Nat.le_refl _) _
  have hrl := runes_length text
  obtain ⟨n, hnn⟩ : ∃ n, (runes text).length = n := ⟨_, rfl⟩
  have hn200 : n ≤ 200 := by omega
  have htx := plain_text text hpl
  -- the characters at any later world
  have hcell : ∀ W, Below (w.heap.size + 1) (w.drew.alloc (.cells C 21)) W → ∀ j, j < (runes text).length → W.cell? ⟨w.heap.size, j, none⟩ = some (.int .i32 ((runes text).getD j 0)) := by
    intro W hb j hj
    rw [hb.cell (p := ⟨w.heap.size, j, none⟩) (by simp)]
    exact (World.cell?_alloc_mark w.drew C 21 (0, 0) j).trans (hC j hj)
  have hText : ∀ W, Below (w.heap.size + 1) (w.drew.alloc (.cells C 21)) W → ∀ x y : Nat, x ≤ y → y < n → (convert 22 9 (.slice (some ⟨w.heap.size, x, none⟩) (y + 1 - x) (cc - x))).run Tryd.prog W = .ok (.string (runesBytes (((runes text).drop x).take (y + 1 - x)))) W := by
    intro W hb x y hxy hy
    refine run_convert_runes W 22 9 21 ⟨w.heap.size, x, none⟩ (y + 1 - x) (cc - x) ((runes text).drop x) (by simp; omega) Tryd.underlying22 Tryd.underlying21 Tryd.underlying9 ?_
    intro j hj
    have hj' : x + j < (runes text).length := by simp at hj; omega
    have ea : (⟨w.heap.size, x, none⟩ : Addr).add j = ⟨w.heap.size, x + j, none⟩ := by
      unfold Addr.add; split
      · subst_vars; rfl
      · rfl
    rw [ea, hcell W hb (x + j) hj']
    simp [List.getD]
  rw [hnn] at hcc hconv
  have HCELL := hid hcell
  have HTEXT := hid hText
  have HSS := hid hss
  have HN := hid hN
  have HNN := hid hnn
  have HRUN := hid hrun
  have HBC := hid hbC
  have HTX := hid htx
  clear hcell hText hss hN hnn hrun hbC hC hrl ht hpl htx
  go_enter Tryd.func10, Tryd.ntmps10
  go_wp2_with fail
  go_loopg [4, 7, 16] N (fun k p a x wr => ∃ (j : Nat) (i : Int) (done : List Out), j + k = N ∧ x = .int .i64 j ∧ a = .int .i64 i ∧ 0 ≤ i ∧ i ≤ n ∧ done.length = j ∧ wr.ownsRow (w.heap.size + 1) 47 4 p j (outCells done) ∧ RunO (runes text) i (ss.drop j) done R ∧ Below (w.heap.size + 1) (w.drew.alloc (.cells C 21)) wr)
  case atStart => exact ⟨0, 0, [], by omega, rfl, rfl, by omega, by omega, rfl, World.ownsRow_nil _ _ _ _, HRUN.out, Below.refl _ _⟩
  case round =>
    obtain ⟨j, i, done, hj, rfl, rfl, hi0, hi1, hdl, hown, hrun, hb⟩ := hrel
    have hszr : w.heap.size + 1 ≤ wr.heap.size := by have := hb.size; simpa using this
    have HB := hid hb
    have HOWN := hid hown
    have HDL := hid hdl
    have HR := hid hrun
    clear HRUN hb hown hdl hrun
    by_cases hlt : j < N
    · obtain ⟨s, hs⟩ : ∃ s, ss[j]? = some s := ⟨ss[j]'(by have := HN.out; omega), List.getElem?_eq_getElem _⟩
      have HS := hid hs
      obtain ⟨q0, q1, q2, q3⟩ := HSS.out j s hs
      have hbg : Below w.heap.size w wr := HBC.out.trans (HB.out.mono (by omega))
      have r0 := (hbg.cell (p := ⟨g, o + j * 4, none⟩) hg).trans q0
      have r1 := (hbg.cell (p := ⟨g, o + j * 4 + 1, none⟩) hg).trans q1
      have r2 := (hbg.cell (p := ⟨g, o + j * 4 + 2, none⟩) hg).trans q2
      have r3 := (hbg.cell (p := ⟨g, o + j * 4 + 3, none⟩) hg).trans q3
      clear q0 q1 q2 q3 hs hbg
      cases hst : stepTo (runes text) i s with
      | none =>
        have hnn := HNN.out
        have hR := hid (show R = none from by have h := HR.out; rw [drop_cons HS.out] at h; exact h.none_ hst)
        have hbW : ∀ (A B : Obj), Below w.heap.size w ((wr.alloc A).alloc B) := fun A B => (((HBC.out.trans (HB.out.mono (by omega))).alloc (by omega) _).alloc (by simp; omega) _)
        have HBW := hid hbW
        obtain ⟨op, sa, sb, tA, tl, tc⟩ := s
        simp only at r0 r1 r2 r3
        have hsn := stepTo_none hst
        clear hst hbW
        rcases hsn with ⟨rfl, hbad⟩ | ⟨rfl, hbad⟩ | ⟨hop, hbad⟩ | ⟨o0, o1, o2, o3, o4, o5, o6, o7, o8⟩
        · by_cases b0 : sa = 0
          · subst b0
            clear hbad hnn
            go_wp2_with fail
            go_ret2
            exact chpost_none hR.out (HBW.out _ _)
          · have c0 : (sa == 0) = false := by simpa using b0
            by_cases b1 : 1000 < sa
            · have c1 : decide (1000 < sa) = true := by simpa using b1
              clear hbad hnn b0
              go_wp2_with fail
              go_ret2
              exact chpost_none hR.out (HBW.out _ _)
            · have c1 : decide (1000 < sa) = false := by simpa using b1
              have c2 : decide (sa < -1000) = true := by simp; omega
              clear hbad hnn b0
              go_wp2_with fail
              go_ret2
              exact chpost_none hR.out (HBW.out _ _)
        · by_cases b0 : sa < 0
          · have c0 : decide (sa < 0) = true := by simpa using b0
            clear hbad hnn
            go_wp2_with fail
            go_ret2
            exact chpost_none hR.out (HBW.out _ _)
          · have c0 : decide (sa < 0) = false := by simpa using b0
            have c1 : decide ((n : Int) < sa) = true := by simp; omega
            clear hbad hnn
            go_wp2_with fail
            go_ret2
            exact chpost_none hR.out (HBW.out _ _)
        · rw [hnn] at hbad
          by_cases b0 : sa < 0
          · have c0 : decide (sa < 0) = true := by simpa using b0
            clear hbad hnn
            rcases hop with rfl | rfl
            all_goals
              go_wp2_with fail
              go_ret2
              exact chpost_none hR.out (HBW.out _ _)
          · have c0 : decide (sa < 0) = false := by simpa using b0
            by_cases b1 : sb < sa
            · have c1 : decide (sb < sa) = true := by simpa using b1
              clear hbad hnn
              rcases hop with rfl | rfl
              all_goals
                go_wp2_with fail
                go_ret2
                exact chpost_none hR.out (HBW.out _ _)
            · have c1 : decide (sb < sa) = false := by simpa using b1
              have c2 : decide ((n : Int) ≤ sb) = true := by simp; omega
              clear hbad hnn
              rcases hop with rfl | rfl
              all_goals
                go_wp2_with fail
                go_ret2
                exact chpost_none hR.out (HBW.out _ _)
        · have e0 : (op == 0) = false := by simpa using o0
          have e1 : (op == 1) = false := by simpa using o1
          have e2 : (op == 2) = false := by simpa using o2
          have e3 : (op == 3) = false := by simpa using o3
          have e4 : (op == 4) = false := by simpa using o4
          have e5 : (op == 5) = false := by simpa using o5
          have e6 : (op == 6) = false := by simpa using o6
          have e7 : (op == 7) = false := by simpa using o7
          have e8 : (op == 8) = false := by simpa using o8
          clear o0 o1 o2 o3 o4 o5 o6 o7 o8 hnn
          go_wp2_with fail
          go_ret2
          exact chpost_none hR.out (HBW.out _ _)
      | some oi =>
        obtain ⟨out, i'⟩ := oi
        have HST := hid hst
        clear hst
        go_upto_block 2 with fail
        go_cut [4, 7] (fun p a wx => p = u4 ∧ a = .int .i64 i' ∧ wx = (wr.alloc (.cells #[.int .u8 s.op, .int .i64 s.a, .int .i64 s.b, .slice s.tA s.tl s.tc] 31)).alloc (.cells #[.int .i64 out.num, .string out.text, .slice none 0 0, .bool out.pan] 47))
        case first =>
          obtain ⟨op, sa, sb, tA, tl, tc⟩ := s
          simp only at r0 r1 r2 r3 HST
          rcases stepTo_some HST.out with ⟨rfl, he, rfl, rfl⟩ | ⟨rfl, he, rfl, rfl⟩ | ⟨rfl, ha0, ha1, ha2, rfl, rfl⟩ | ⟨rfl, ha0, ha1, rfl, rfl⟩ | ⟨rfl, rfl, rfl⟩ | ⟨rfl, rfl, rfl⟩ | ⟨rfl, rfl, rfl⟩ | ⟨hop, ha0, hab, hbl, rfl, rfl⟩ | ⟨rfl, rfl, rfl⟩
          · have hnn := HNN.out
            have hb0 : (i == (n : Int)) = true := by simp; omega
            clear he hnn r0 r1 r2 r3 HST
            go_wp2_with fail
            go_meet
            exact ⟨rfl, rfl, rfl⟩
          · have hnn := HNN.out
            have hb0 : (i == (n : Int)) = false := by simp; omega
            clear he hnn r0 r1 r2 r3 HST
            go_wp2_with fail
            go_meet
            exact ⟨rfl, rfl, rfl⟩
          · have hnn := HNN.out
            have hb0 : (sa == 0) = false := by simp; omega
            have hb1 : decide (1000 < sa) = false := by simp; omega
            have hb2 : decide (sa < -1000) = false := by simp; omega
            have hcellW : ∀ (A B : Obj) (q : Nat), q < n → ((wr.alloc A).alloc B).cell? ⟨w.heap.size, q, none⟩ = some (.int .i32 ((runes text).getD q 0)) := fun A B q hq => HCELL.out _ ((HB.out.alloc hszr _).alloc (by simp; omega) _) q (by omega)
            clear r0 r1 r2 r3 HST
            by_cases hneg : sa < 0
            · have hb3 : decide (sa < 0) = true := by simp; omega
              by_cases hin : 0 ≤ i + sa
              · obtain ⟨q, hq⟩ : ∃ q : Nat, i + sa = q := ⟨(i + sa).toNat, by omega⟩
                have hqn : q < n := by omega
                have hv : laOf (runes text) i sa = (runes text).getD q 0 := by
                  unfold laOf
                  simp only [hneg, if_true]
                  rw [if_pos ⟨hin, by omega⟩, hq, Int.toNat_natCast]
                have HV := hid hv
                have hrr := runes_range text q
                have hcl := fun A B => hcellW A B q hqn
                generalize (runes text).getD q 0 = r at hcl HV hrr
                obtain ⟨hr0, hr1⟩ := hrr
                have hqn' : decide ((q : Int) < (n : Int)) = true := by simp; omega
                clear hcellW hv hin hnn
                go_wp2_with fail
                go_meet
                refine ⟨rfl, rfl, ?_⟩
                rw [HV.out]
              · have hb4 : decide (0 ≤ i + sa) = false := by simp; omega
                have hv : laOf (runes text) i sa = -1 := by
                  unfold laOf
                  simp only [hneg, if_true]
                  rw [if_neg (by omega)]
                have HV := hid hv
                clear hcellW hv hnn
                go_wp2_with fail
                go_meet
                refine ⟨rfl, rfl, ?_⟩
                rw [HV.out]
            · have hb3 : decide (sa < 0) = false := by simp; omega
              by_cases hin : i + sa - 1 < n
              · obtain ⟨q, hq⟩ : ∃ q : Nat, i + sa - 1 = q := ⟨(i + sa - 1).toNat, by omega⟩
                have hqn : q < n := by omega
                have hv : laOf (runes text) i sa = (runes text).getD q 0 := by
                  unfold laOf
                  simp only [hneg, if_false]
                  rw [if_pos ⟨by omega, by omega⟩, hq, Int.toNat_natCast]
                have HV := hid hv
                have hrr := runes_range text q
                have hcl := fun A B => hcellW A B q hqn
                generalize (runes text).getD q 0 = r at hcl HV hrr
                obtain ⟨hr0, hr1⟩ := hrr
                have hqn' : decide ((q : Int) < (n : Int)) = true := by simp; omega
                clear hcellW hv hin hnn
                go_wp2_with fail
                go_meet
                refine ⟨rfl, rfl, ?_⟩
                rw [HV.out]
              · have hb4 : decide (0 ≤ i + sa - 1) = true := by simp; omega
                have hb5 : decide (i + sa - 1 < (n : Int)) = false := by simp; omega
                have hb6 : decide (1 ≤ i + sa) = true := by simp; omega
                have hv : laOf (runes text) i sa = -1 := by
                  unfold laOf
                  simp only [hneg, if_false]
                  rw [if_neg (by omega)]
                have HV := hid hv
                clear hcellW hv hnn
                go_wp2_with fail
                go_meet
                refine ⟨rfl, rfl, ?_⟩
                rw [HV.out]
          · have hnn := HNN.out
            have hb0 : decide (sa < 0) = false := by simp; omega
            have hb1 : decide ((n : Int) < sa) = false := by simp; omega
            clear ha0 ha1 hnn r0 r1 r2 r3 HST
            go_wp2_with fail
            go_meet
            exact ⟨rfl, rfl, rfl⟩
          · clear r0 r1 r2 r3 HST
            go_wp2_with fail
            go_meet
            exact ⟨rfl, rfl, rfl⟩
          · clear r0 r1 r2 r3 HST
            go_wp2_with fail
            go_meet
            exact ⟨rfl, rfl, rfl⟩
          · clear r0 r1 r2 r3 HST
            go_wp2_with fail
            go_meet
            refine ⟨rfl, rfl, ?_⟩
            rw [HNN.out]
          · have hnn := HNN.out
            obtain ⟨x, rfl⟩ : ∃ x : Nat, sa = x := ⟨sa.toNat, by omega⟩
            obtain ⟨y, rfl⟩ : ∃ y : Nat, sb = y := ⟨sb.toNat, by omega⟩
            have hxy : x ≤ y := by omega
            have hyn : y < n := by omega
            have hb1 : decide ((y : Int) < (x : Int)) = false := by simp; omega
            have hb2 : decide ((n : Int) ≤ (y : Int)) = false := by simp; omega
            have htW : ∀ (A B : Obj), (convert 22 9 (.slice (some ⟨w.heap.size, x, none⟩) (y + 1 - x) (cc - x))).run Tryd.prog ((wr.alloc A).alloc B) = .ok (.string (runesBytes (((runes text).drop x).take (y + 1 - x)))) ((wr.alloc A).alloc B) := fun A B => HTEXT.out _ ((HB.out.alloc hszr _).alloc (by simp; omega) _) x y hxy hyn
            generalize hTT : runesBytes (((runes text).drop x).take (y + 1 - x)) = T at htW
            have HTT := hid hTT
            clear hTT
            have hxc : x < cc := by omega
            have hyc : y + 1 ≤ cc := by omega
            have hxy1 : x ≤ y + 1 := by omega
            have HTW := hid htW
            clear ha0 hab hbl hnn r0 r1 r2 r3 HST
            rcases hop with rfl | rfl
            all_goals
              go_wp2_with fail
              go_meet
              refine ⟨rfl, rfl, ?_⟩
              simp only [Int.toNat_natCast]
              rw [HTT.out]
          · clear r0 r1 r2 r3 HST
            go_wp2_with fail
            go_meet
            refine ⟨rfl, rfl, ?_⟩
            rw [HTX.out]
        case rest =>
          obtain ⟨h4, h7, hwc⟩ := hcut
          subst h4 h7 hwc
          go_wp2_with (at_builtin; refine wpList_append_own_at _ rfl _ _ 37 rfl (w.heap.size + 1) 47 i0 _ 4 56 Tryd.underlying37 hi hz0 hz1 hz2 rfl (by decide) _ _ _ rfl (((HOWN.out.alloc _).alloc _).alloc _) ⟨wr.heap.size + 1 + 1, 0, none⟩ 1 1 out.cells rfl rfl ?c1 ?c2 ?c3 ?c4 ?c5 ?_)
          case c1 => exact cells_new ((wr.alloc _).alloc _) _ (by simp) out.cells 47
          case c2 => simp [Out.cells, Value.oneCell']
          case c3 => unfold maxLen; omega
          case c4 => omega
          case c5 => simp; omega
          intro v' w3 hown3 hgrow _ _
          have hbW : Below (w.heap.size + 1) (w.drew.alloc (.cells C 21)) w3 := (((HB.out.alloc hszr _).alloc (by simp; omega) _).alloc (by simp; omega) _).grown hgrow (by simp; omega) (fun k e => (HOWN.out.lt k e).1)
          have hpan : w3.cell? ⟨wr.heap.size + 1, 3, none⟩ = some (.bool out.pan) := by
            rw [gb_cell hgrow (by simp) (fun e => by have h9 : wr.heap.size + 1 < wr.heap.size := (HOWN.out.lt _ e.symm).2; omega)]
            refine (World.cell?_alloc_lt _ _ _ (by simp)).trans ?_
            exact (cell_new_at _ _ (by simp) _ 47 3).trans rfl
          have HBW := hid hbW
          have HO3 := hid hown3
          have hii := stepTo_i HST.out hi0 (by have := HNN.out; omega)
          have hnn := HNN.out
          rw [hnn] at hii
          obtain ⟨hii0, hii1⟩ := hii
          clear hown3 hgrow hbW hnn r0 r1 r2 r3
          go_wp2_with fail
          · have hp : out.pan = true := by assumption
            go_ret2
            have h1 := HR.out
            rw [drop_cons HS.out] at h1
            refine chpost_some (h1.pan_ HST.out hp) (n := j + 1) ?_ ?_ (Nat.le_succ _) (HBC.out.trans (HBW.out.mono (by omega)))
            · have := HDL.out; simp [this]
            · rw [outCells_snoc]; exact HO3.out
          · have hp : out.pan = false := by assumption
            have h1 := HR.out
            rw [drop_cons HS.out] at h1
            have h2 := h1.go_ HST.out hp
            go_roundg (gk - 1)
            case measure => omega
            case rel => exact ⟨j + 1, i', done ++ [out], by omega, by go_num, rfl, hii0, hii1, by have := HDL.out; simp [this], by rw [outCells_snoc]; exact HO3.out, h2, HBW.out⟩
    · have hR := hid (show R = some done from by have h := HR.out; rw [List.drop_eq_nil_of_le (by have := HN.out; omega)] at h; exact h.nil_)
      have hbw : Below w.heap.size w wr := HBC.out.trans (HB.out.mono (by omega))
      have HBW := hid hbw
      clear hbw
      go_wp2_with fail
      go_ret2
      refine ⟨?_, HBW.out⟩
      rw [hR.out]
      refine ⟨_, rfl, ?_⟩
      have h2 := HDL.out
      rw [h2]
      exact row_mono HOWN.out (by omega)
end Go.Proofs.YtcakbheoibaiiaaDoor
