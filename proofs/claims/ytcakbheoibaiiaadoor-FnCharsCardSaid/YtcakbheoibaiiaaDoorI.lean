/- walks: Chars, the loop -/
import Derived.Test.YtcakbheoibaiiaaDoorH
namespace Go.Proofs.YtcakbheoibaiiaaDoor
open Go.RowKit

def Rest (rs : List Int) (i : Int) (ss : List Stp) (done : List Out) (outs : List Out) : Prop := ∃ rest, runSteps rs i ss = some rest ∧ outs = done ++ rest

theorem Rest.nil_ {rs : List Int} {i : Int} {done outs : List Out} (h : Rest rs i [] done outs) : outs = done := by
  obtain ⟨r, h1, h2⟩ := h
  simp only [runSteps, Option.some.injEq] at h1
  rw [h2, ← h1, List.append_nil]
theorem Rest.step_ {rs : List Int} {i : Int} {s : Stp} {r : List Stp} {done outs : List Out} (h : Rest rs i (s :: r) done outs) :
    ∃ o i', stepTo rs i s = some (o, i') ∧ ((o.pan = true ∧ outs = done ++ [o]) ∨ (o.pan = false ∧ Rest rs i' r (done ++ [o]) outs)) := by
  obtain ⟨t, h1, h2⟩ := h
  simp only [runSteps] at h1
  split at h1
  · cases h1
  · rename_i o i' hs
    refine ⟨o, i', hs, ?_⟩
    cases hp : o.pan
    · rw [hp] at h1
      simp only [Bool.false_eq_true, if_false] at h1
      obtain ⟨t', h3, h4⟩ := Option.map_eq_some_iff.1 h1
      exact .inr ⟨rfl, t', h3, by rw [h2, ← h4]; simp⟩
    · rw [hp] at h1
      simp only [if_true, Option.some.injEq] at h1
      exact .inl ⟨rfl, by rw [h2, ← h1]⟩

theorem out_pan (done : List Out) (o : Out) (n : Nat) (hn : done.length = n) : (outCells done ++ o.cells)[n * 4 + 3]? = some (.bool o.pan) := by
  rw [List.getElem?_append_right (by rw [outCells_length, hn]; omega), outCells_length, hn]
  have : n * 4 + 3 - n * 4 = 3 := by omega
  rw [this]
  rfl

theorem drop_cons {α : Type} {l : List α} {j : Nat} {s : α} (h : l[j]? = some s) : l.drop j = s :: l.drop (j + 1) := by
  obtain ⟨hj, rfl⟩ := List.getElem?_eq_some_iff.1 h
  exact List.drop_eq_getElem_cons hj

theorem own_ne {w : World} {base b : Nat} {e : TypeId} {size : Nat} {v : Value} {n : Nat} {xs : List Value} (h : w.ownsRow base e size v n xs) (hb : b < base) : v.ownBlock = none ∨ v.ownBlock ≠ some b :=
  .inr fun e => by have := (h.lt b e).1; omega
theorem own_ne' {w : World} {base b : Nat} {e : TypeId} {size : Nat} {v : Value} {n : Nat} {xs : List Value} (h : w.ownsRow base e size v n xs) (hb : b < base) : some b ≠ v.ownBlock :=
  fun e => by have := (h.lt b e.symm).1; omega

set_option maxHeartbeats 2000000 in
theorem chars_any (text : ByteArray) (g o c : Nat) (ss : List Stp) (outs : List Out) (w : World) (ht : text.size ≤ 1000000) (hg : g < w.heap.size) (hss : StepRow w g o ss) (hn : ss.length ≤ 1000000)
    (hrun : runSteps (runes text) 0 ss = some outs) :
    Calls Tryd.prog 7 #[.string text, .slice (some ⟨g, o, none⟩) ss.length c] w fun e w' => ∃ v, e = .returned v ∧ w'.ownsRow w.heap.size 34 4 v outs.length (outCells outs) ∧ Below w.heap.size w w' := by
  generalize hN : ss.length = N at hn ⊢
  obtain ⟨i0, hi, hz0, hz1, hz2⟩ := info_parts info34
  have hRest : Hid (Rest (runes text) 0 ss [] outs) := ⟨outs, hrun, rfl⟩
  have hSS := hid hss
  have hNN := hid hN
  have hSt := hid (newstream_any text w ht)
  clear hrun hss hN ht
  go_enter Tryd.func7, Tryd.ntmps7
  go_wp2_with (go_at_call 14; refine hSt.out.mono ?_; rintro e w1 ⟨rfl, hb1, hz1', hstrm⟩)
  have hWS : w.heap.size + 2 ≤ w1.heap.size := by omega
  clear hz1'
  have hStrm := hid hstrm
  clear hstrm
  go_loopg [6, 13] N (fun k p x wr => ∃ (j : Nat) (i : Int) (done : List Out), j + k = N ∧ x = .int .i64 j ∧ done.length = j ∧ wr.ownsRow (w.heap.size + 2) 34 4 p j (outCells done) ∧ Rest (runes text) i (ss.drop j) done outs ∧ Strm wr (w.heap.size + 1) w.heap.size (runes text) i ∧ Below w.heap.size w wr ∧ w.heap.size + 2 ≤ wr.heap.size)
  case atStart => exact ⟨0, 0, [], by omega, rfl, rfl, World.ownsRow_nil _ _ _ _, hRest.out, hStrm.out, hb1, hWS⟩
  case round =>
    obtain ⟨j, i, done, hj, rfl, hdl, hown, hrest, hst, hb, hsz⟩ := hrel
    clear hStrm hRest hSt hb1 hWS
    by_cases hlt : j < N
    · obtain ⟨s, hs⟩ : ∃ s, ss[j]? = some s := ⟨ss[j]'(by have := hNN.out; omega), List.getElem?_eq_getElem _⟩
      obtain ⟨q0, q1, q2, q3⟩ := hSS.out j s hs
      have r0 := (hb.cell (p := ⟨g, o + j * 4, none⟩) hg).trans q0
      have r1 := (hb.cell (p := ⟨g, o + j * 4 + 1, none⟩) hg).trans q1
      have r2 := (hb.cell (p := ⟨g, o + j * 4 + 2, none⟩) hg).trans q2
      have r3 := (hb.cell (p := ⟨g, o + j * 4 + 3, none⟩) hg).trans q3
      rw [drop_cons hs] at hrest
      obtain ⟨out, i', hstep, hres⟩ := hrest.step_
      have hcall := hid (step_any (w.heap.size + 1) w.heap.size (runes text) i i' s out (.slice s.tA s.tl s.tc) (wr.alloc (.cells #[.int .u8 s.op, .int .i64 s.a, .int .i64 s.b, .slice s.tA s.tl s.tc] 42)) (hst.keep (gb_alloc (gb_refl _) _)) hstep)
      have HRES := hid hres
      have HDL := hid hdl
      have HB := hid hb
      have HOWN := hid hown
      clear q0 q1 q2 q3 hs hrest hstep hres hdl hst hb hown
      go_wp2_with (first | (go_at_call 15; refine hcall.out.mono ?_; rintro e w2 ⟨rfl, hg2, hst2⟩; have hown2 := (HOWN.out.alloc _).kept hg2 (own_ne HOWN.out (by omega)); have hsz2 := hg2.size; clear r0 r1 r2 r3) | (at_builtin; refine wpList_append_own_at _ rfl _ _ 25 rfl (w.heap.size + 2) 34 i0 _ 4 56 Tryd.underlying25 hi hz0 hz1 hz2 rfl (by decide) _ _ _ rfl (hown2.alloc _) ⟨w2.heap.size, 0, none⟩ 1 1 out.cells rfl rfl ?c1 ?c2 ?c3 ?c4 ?c5 ?_))
      case c1 => exact cells_new w2 _ rfl out.cells 34
      case c2 => simp [Out.cells, Value.oneCell']
      case c3 => unfold maxLen; omega
      case c4 => omega
      case c5 => simp at hsz2 ⊢; omega
      intro v' w3 hown3 hgrow _ _
      have hne1 : some (w.heap.size + 1) ≠ u6.ownBlock := own_ne' hown2 (by omega)
      have hne0 : some w.heap.size ≠ u6.ownBlock := own_ne' hown2 (by omega)
      have hst3 := hid ((hst2.keep (gb_alloc (gb_refl _) (.cells out.cells.toArray 34))).keepRow hgrow hne1 hne0)
      have hb2 : Below w.heap.size w w2 := (HB.out.alloc (by omega) _).grown hg2 (by simp; omega) (fun k e => by cases e; omega)
      have hb3 := hid ((hb2.alloc (by simp at hsz2; omega) (.cells out.cells.toArray 34)).grown hgrow (by simp at hsz2 ⊢; omega) (fun k e => by have := (hown2.lt k e).1; omega))
      have hsz3 : w.heap.size + 2 ≤ w3.heap.size := by have := hgrow.size; simp at this hsz2; omega
      obtain ⟨g3, cap3, hv3, hge3, hlt3⟩ := hown3.form (by omega)
      subst hv3
      have hpan : w3.cell? ⟨g3, j * 4 + 3, none⟩ = some (.bool out.pan) := by rw [hown3.cellAt (j * 4 + 3) (by omega)]; exact out_pan done out j HDL.out
      have HOWN3 := hid hown3
      clear hown2 hgrow hg2 hst2 HOWN HB hcall hne1 hne0 hb2 hown3 hsz2 hsz
      go_wp2_with fail
      · have hp : out.pan = true := by assumption
        have hr3 : outs = done ++ [out] := by
          rcases HRES.out with ⟨_, h2⟩ | ⟨h1, _⟩
          · exact h2
          · rw [hp] at h1; cases h1
        go_ret
        refine ⟨_, rfl, ?_, hb3.out⟩
        have hol : outs.length = j + 1 := by rw [hr3]; have := HDL.out; simp [this]
        rw [hol, hr3, outCells_snoc]
        exact row_mono HOWN3.out (by omega)
      · have hp : out.pan = false := by assumption
        have hr3 : Rest (runes text) i' (ss.drop (j + 1)) (done ++ [out]) outs := by
          rcases HRES.out with ⟨h1, _⟩ | ⟨_, h2⟩
          · rw [hp] at h1; cases h1
          · exact h2
        go_roundg (gk - 1)
        case measure => omega
        case rel => exact ⟨j + 1, i', done ++ [out], by omega, by go_num, by have := HDL.out; simp [this], by rw [outCells_snoc]; exact HOWN3.out, hr3, hst3.out, hb3.out, hsz3⟩
    · have hjN : j = N := by omega
      have HN := hNN.out
      rw [List.drop_eq_nil_of_le (by omega)] at hrest
      have hfin := hid hrest.nil_
      have HDL := hid hdl
      clear hrest hdl hst
      go_wp2
      go_ret
      refine ⟨_, rfl, ?_, hb⟩
      have h1 := hfin.out
      have h2 := HDL.out
      rw [h1, h2]
      exact row_mono hown (by omega)
end Go.Proofs.YtcakbheoibaiiaaDoor
