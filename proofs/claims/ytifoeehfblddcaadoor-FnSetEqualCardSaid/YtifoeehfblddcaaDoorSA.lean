/- interval sets: addOne, addRange, addSet, and the doors -/
import Derived.Test.YtifoeehfblddcaaDoorS6
import Derived.Test.YtifoeehfblddcaaDoorS9
namespace Go.Proofs.YtifoeehfblddcaaDoor
open Go.RowKit

theorem Chg.after {b : Nat} {v v' : Value} {w w0 w' : World} (h : Chg b v v' w0 w') (hb : Below w.heap.size w w0) : Chg b v v' w w' :=
  ⟨h.os.trans hb.os, h.tape.trans hb.tape, h.output.trans hb.output, Nat.le_trans hb.size h.size,
   fun k hk h1 h2 => (h.block k (Nat.lt_of_lt_of_le hk hb.size) h1 h2).trans (hb.block k hk), fun g hg => (h.own g hg).imp id (fun x => Nat.le_trans hb.size x)⟩
theorem Chg.then_ {b : Nat} {v v' : Value} {w w0 w' : World} (h : Chg b v v' w w0) (hb : Below w0.heap.size w0 w') : Chg b v v' w w' :=
  ⟨hb.os.trans h.os, hb.tape.trans h.tape, hb.output.trans h.output, Nat.le_trans h.size hb.size,
   fun k hk h1 h2 => (hb.block k (Nat.lt_of_lt_of_le hk h.size)).trans (h.block k hk h1 h2), h.own⟩
theorem Chg.trans {b : Nat} {v v1 v2 : Value} {w w1 w2 : World} (h : Chg b v v1 w w1) (k : Chg b v1 v2 w1 w2) : Chg b v v2 w w2 :=
  ⟨k.os.trans h.os, k.tape.trans h.tape, k.output.trans h.output, Nat.le_trans h.size k.size,
   fun i hi h1 h2 => (k.block i (Nat.lt_of_lt_of_le hi h.size) h1 (fun e => by
     rcases h.own i e.symm with h3 | h3
     · exact h2 h3.symm
     · omega)).trans (h.block i hi h1 h2),
   fun g hg => by
     rcases k.own g hg with h3 | h3
     · exact h.own g h3
     · exact .inr (Nat.le_trans h.size h3)⟩
theorem Chg.refl {b : Nat} {v : Value} (w : World) : Chg b v v w w := ⟨rfl, rfl, rfl, Nat.le_refl _, fun _ _ _ _ => rfl, fun _ h => .inl h⟩

/-- another set is as it was -/
theorem Iset.other {lo lo2 : Nat} {w w' : World} {b b2 : Nat} {v v2 v2' : Value} {ivs ivs2 : List Iv} (h : Iset lo w b v ivs) (h2 : Iset lo2 w b2 v2 ivs2) (hc : Chg b2 v2 v2' w w') (hb : b ≠ b2) (hv : v.ownBlock = none ∨ v.ownBlock ≠ v2.ownBlock) : Iset lo w' b v ivs := by
  have hbv : some b ≠ v2.ownBlock := by
    intro e
    rcases h2.own.2 with ⟨rfl, _⟩ | ⟨g, cap, cur, rfl, _, hg, _⟩
    · simp [Value.ownBlock] at e
    · simp [Value.ownBlock] at e
      subst e
      have := h.blk
      rw [hg] at this
      simp at this
  refine ⟨(hc.block b h.lt hb hbv).trans h.blk, h.ble, ⟨h.own.1, ?_⟩, h.nil⟩
  rcases h.own.2 with hn | ⟨g, cap, cur, rfl, hlo, hg, r⟩
  · exact .inl hn
  · refine .inr ⟨g, cap, cur, rfl, hlo, ?_, r⟩
    rw [hc.block g (lt_of_heap hg) ?_ ?_]
    · exact hg
    · rintro rfl
      have := h2.blk
      rw [hg] at this
      simp at this
    · intro e
      rcases hv with hv | hv
      · simp [Value.ownBlock] at hv
      · exact hv (by rw [← e]; rfl)

/-- some block of another type is as it was -/
theorem Chg.far {lo : Nat} {w w' : World} {b : Nat} {v v' : Value} {ivs : List Iv} (hc : Chg b v v' w w') (h : Iset lo w b v ivs) {k : Nat} {c : Array Value} {t : TypeId} (hk : w.heap[k]? = some (.cells c t (0, 0))) (h1 : t ≠ 120) (h2 : t ≠ 92) : w'.heap[k]? = some (.cells c t (0, 0)) := by
  rw [hc.block k (lt_of_heap hk) ?_ ?_]
  · exact hk
  · rintro rfl
    have := h.blk
    rw [hk] at this
    simp only [Option.some.injEq, Obj.cells.injEq] at this
    exact h1 this.2.1
  · intro e
    rcases h.own.2 with ⟨rfl, _⟩ | ⟨g, cap, cur, rfl, _, hg, _⟩
    · simp [Value.ownBlock] at e
    · simp [Value.ownBlock] at e
      subst e
      rw [hk] at hg
      simp only [Option.some.injEq, Obj.cells.injEq] at hg
      exact h2 hg.2.1

theorem chg_below {lo : Nat} {w w' : World} {b : Nat} {v v' : Value} {ivs : List Iv} (h : Iset lo w b v ivs) (hc : Chg b v v' w w') : Below lo w w' :=
  ⟨hc.os, hc.tape, hc.output, hc.size, fun k hk => by
    have h1 := h.lt
    have h2 := h.ble
    refine hc.block k (by omega) (by omega) (fun e => ?_)
    have := (h.own.lt k e.symm).1
    omega⟩

theorem addiv_any {lo : Nat} {w : World} {b : Nat} {v : Value} {ivs : List Iv} (h : Iset lo w b v ivs) (hi : Inb ivs) (L H : Int) (h1 : -20 ≤ L) (h2 : L < H) (h3 : H ≤ 121) (ht : touch ivs L H ≤ 1) :
    Calls Tryd.prog 81 #[.pointer (some ⟨b, 0, none⟩), .agg #[.int .i64 L, .int .i64 H]] w fun e w' => e = .returned (.tuple #[]) ∧ ∃ v', Iset lo w' b v' (addI ivs L H) ∧ Chg b v v' w w' := by
  have hlw : lo ≤ w.heap.size := by have := h.ble; have := h.lt; omega
  by_cases h0 : ivs = []
  · subst h0
    have e := h.nil rfl
    subst e
    exact addiv_nil h L H
  · exact addiv_row h hi L H h1 h2 h3 ht h0 hlw

/-- addInterval on the runs of a set of numbers -/
theorem addiv_runs {lo : Nat} {w : World} {b : Nat} {v : Value} {f : Nat → Bool} (h : Iset lo w b v (runsI f 141)) (L H : Int) (hok : fAddOk f L (H - 1) = true) :
    Calls Tryd.prog 81 #[.pointer (some ⟨b, 0, none⟩), .agg #[.int .i64 L, .int .i64 H]] w fun e w' => e = .returned (.tuple #[]) ∧ ∃ v', Iset lo w' b v' (runsI (fAdd f L H) 141) ∧ Chg b v v' w w' := by
  have e := fAddOk_runs hok
  rw [show H - 1 + 1 = H by omega] at e
  obtain ⟨h1, h2, h3, h4⟩ := fAddOk_at hok
  rw [show H - 1 + 1 = H by omega] at h4
  rw [← e]
  exact addiv_any h (inb_runs f) L H h1 (by omega) (by omega) h4

set_option maxHeartbeats 400000 in
theorem addone_any {lo : Nat} {w : World} {b : Nat} {v : Value} {f : Nat → Bool} (h : Iset lo w b v (runsI f 141)) (z : Int) (hok : fAddOk f z z = true) :
    Calls Tryd.prog 67 #[.pointer (some ⟨b, 0, none⟩), .int .i64 z] w fun e w' => e = .returned (.tuple #[]) ∧ ∃ v', Iset lo w' b v' (runsI (fAdd f z (z + 1)) 141) ∧ Chg b v v' w w' := by
  obtain ⟨h1, _, h3, _⟩ := fAddOk_at hok
  have HA := hid (fun W (hb : Below w.heap.size w W) => addiv_runs (h.keep hb) z (z + 1) (by rw [show z + 1 - 1 = z by omega]; exact hok))
  clear h hok
  go_enter Tryd.func67, Tryd.ntmps67
  go_wp2_with (first
    | (go_at_call 82; refine (newiv_any z (z + 1) _).mono ?_; rintro e w1 ⟨rfl, hb⟩; have HB := hid hb; clear hb)
    | (go_at_call 81; refine (HA.out _ HB.out).mono ?_; rintro e w2 ⟨rfl, v', hs, hc⟩; have HS := hid hs; have HC := hid hc; clear hs hc))
  go_end0
  exact ⟨rfl, v', HS.out, HC.out.after HB.out⟩

set_option maxHeartbeats 400000 in
theorem addrange_any {lo : Nat} {w : World} {b : Nat} {v : Value} {f : Nat → Bool} (h : Iset lo w b v (runsI f 141)) (x z : Int) (hok : fAddOk f x z = true) :
    Calls Tryd.prog 68 #[.pointer (some ⟨b, 0, none⟩), .int .i64 x, .int .i64 z] w fun e w' => e = .returned (.tuple #[]) ∧ ∃ v', Iset lo w' b v' (runsI (fAdd f x (z + 1)) 141) ∧ Chg b v v' w w' := by
  obtain ⟨h1, h2, h3, _⟩ := fAddOk_at hok
  have HA := hid (fun W (hb : Below w.heap.size w W) => addiv_runs (h.keep hb) x (z + 1) (by rw [show z + 1 - 1 = z by omega]; exact hok))
  clear h hok
  go_enter Tryd.func68, Tryd.ntmps68
  go_wp2_with (first
    | (go_at_call 82; refine (newiv_any x (z + 1) _).mono ?_; rintro e w1 ⟨rfl, hb⟩; have HB := hid hb; clear hb)
    | (go_at_call 81; refine (HA.out _ HB.out).mono ?_; rintro e w2 ⟨rfl, v', hs, hc⟩; have HS := hid hs; have HC := hid hc; clear hs hc))
  go_end0
  exact ⟨rfl, v', HS.out, HC.out.after HB.out⟩

set_option maxRecDepth 100000 in
set_option maxHeartbeats 1600000 in
theorem addset_any {lo : Nat} {w : World} {b b2 : Nat} {v v2 : Value} {f f2 f' : Nat → Bool} (h : Iset lo w b v (runsI f 141)) (h2 : Iset lo w b2 v2 (runsI f2 141)) (hb : b2 ≠ b) (hv : v2.ownBlock = none ∨ v2.ownBlock ≠ v.ownBlock) (hr : addRuns f (runsI f2 141) = some f') :
    Calls Tryd.prog 69 #[.pointer (some ⟨b, 0, none⟩), .pointer (some ⟨b2, 0, none⟩)] w fun e w' => e = .returned (.pointer (some ⟨b, 0, none⟩)) ∧ ∃ v', Iset lo w' b v' (runsI f' 141) ∧ Chg b v v' w w' := by
  have hin := inb_runs f2
  have hlen := hin.len
  have hc2 := h2.cell.1
  rcases h2.form with ⟨h0, rfl⟩ | ⟨hp, g, c, rfl, _, hgl, _, hcap, hmx, hcs⟩
  · rw [h0] at hr
    obtain rfl : f = f' := Option.some.inj hr
    have HS := hid h
    have q := nenil_yes
    clear h h2 hr hin hlen h0 hv
    go_enter Tryd.func69, Tryd.ntmps69
    go_wp2_with fail
    go_ret
    exact ⟨rfl, v, HS.out, Chg.refl w⟩
  · have HS := hid h
    have HS2 := hid h2
    have HV := hid hv
    have HCS := hid hcs
    have HIN := hid hin
    have HST := hid (fun (fg : Nat → Bool) (k : Nat) (hk : k < (runsI f2 141).length) (hg : addRuns f ((runsI f2 141).take k) = some fg) => addRuns_step hr hk hg)
    have HSU := hid (fun (fg : Nat → Bool) (k : Nat) (hk : k < (runsI f2 141).length) (hg : addRuns f ((runsI f2 141).take k) = some fg) => addRuns_succ hg hk)
    have HEND : Hid (addRuns f ((runsI f2 141).take (runsI f2 141).length) = some f') := by
      have := hr
      rw [← List.take_length (l := runsI f2 141)] at this
      exact this
    have q := fun W => nenil_no W ⟨g, 0, none⟩ (runsI f2 141).length c
    clear h h2 hr hin hv hcs
    generalize runsI f2 141 = rs at *
    generalize hN : rs.length = N at *
    have HN := hid hN
    clear hN
    unfold maxLen at hmx
    go_enter Tryd.func69, Tryd.ntmps69
    go_wp2_with fail
    go_loopg [5] N (fun k s5 wr => ∃ j : Nat, j + k = N ∧ s5 = .int .i64 j ∧ ∃ fj vj, addRuns f (rs.take j) = some fj ∧ Iset lo wr b vj (runsI fj 141) ∧ Chg b v vj w wr)
    case atStart => exact ⟨0, by omega, rfl, f, v, rfl, HS.out, Chg.refl w⟩
    case round =>
      obtain ⟨j, hj, rfl, fj, vj, hfj, hs, hch⟩ := hrel
      have h2r := HS2.out.other HS.out hch hb HV.out
      have hcr := h2r.cell.1
      have HCH := hid hch
      by_cases hlt : j < N
      · have hin := HIN.out.at_ (k := j) (by rw [HN.out]; exact hlt)
        have hrow := icells_at rs j (by rw [HN.out]; exact hlt)
        have ho2 := h2r.own
        rw [HN.out] at ho2
        rw [← ho2.cellAt _ (by omega), ← ho2.cellAt _ (by omega)] at hrow
        obtain ⟨r0, r1⟩ := hrow
        have hok := HST.out fj j hlt hfj
        have hsu := HSU.out fj j hlt hfj
        rw [if_pos hok] at hsu
        generalize ivAt rs j = p at *
        obtain ⟨x, y⟩ := p
        simp only at r0 r1 hok hsu hin
        obtain ⟨b1, b2', b3⟩ := hin
        rw [show y - 1 + 1 = y by omega] at hsu
        have HSU1 := hid hsu
        have HA := hid (fun W (hb : Below wr.heap.size wr W) => addiv_runs (hs.keep hb) x y hok)
        clear hfj hs h2r hok hsu hch ho2
        go_wp2_with (first
          | (go_at_call 82; refine (newiv_any x y _).mono ?_; rintro e w1 ⟨rfl, hb⟩; have HB := hid hb; clear hb)
          | (go_at_call 81; refine (HA.out _ (bl (bl1 wr _) HB.out)).mono ?_; rintro e w2 ⟨rfl, v', hs, hc⟩; have HS3 := hid hs; have HC := hid hc; clear hs hc))
        go_roundg (gk - 1)
        case measure => omega
        case rel => exact ⟨j + 1, by omega, by go_num, _, v', HSU1.out, HS3.out, HCH.out.trans (HC.out.after (bl (bl1 wr _) HB.out))⟩
      · have hjN : j = N := by omega
        subst hjN
        have hff : fj = f' := Option.some.inj (hfj.symm.trans HEND.out)
        subst hff
        have HS3 := hid hs
        clear hfj hs h2r hch
        go_wp2_with fail
        go_ret
        exact ⟨rfl, vj, HS3.out, HCH.out⟩

/-! ### the doors -/
set_option maxHeartbeats 400000 in
theorem newis_eq (w : World) :
    Calls Tryd.prog 66 #[] w fun e w' => e = .returned (.pointer (some ⟨w.heap.size, 0, none⟩)) ∧ w' = w.alloc (.cells #[.slice none 0 0, .bool false] 120) := by
  go_enter Tryd.func66, Tryd.ntmps66
  go_wp2_with fail
  go_ret
  exact ⟨rfl, rfl⟩

set_option maxHeartbeats 400000 in
theorem znew_any (w : World) :
    Calls Tryd.prog 43 #[] w fun e w' => (∃ b, e = .returned (.agg #[.pointer (some ⟨b, 0, none⟩)]) ∧ Iset w.heap.size w' b (.slice none 0 0) []) ∧ Below w.heap.size w w' := by
  have H := hid newis_eq
  go_enter Tryd.func43, Tryd.ntmps43
  go_wp2_with (go_at_call 66; refine (H.out _).mono ?_; rintro e w' ⟨rfl, rfl⟩)
  refine bodyPost_ret (v := .agg #[.pointer (some ⟨w.heap.size + 1, 0, none⟩)]) (by simp [results, Tryd.results43, go_sem]) rfl ⟨⟨w.heap.size + 1, rfl, ⟨?_, Nat.le_succ _, World.ownsRow_nil _ _ _ _, fun _ => rfl⟩⟩, bl (bl1 w _) (bl1 _ _)⟩
  have hh := heap_alloc_new (w.alloc (.cells #[.pointer (some ⟨w.heap.size + 1, 0, none⟩)] 83)) #[.slice none 0 0, .bool false] 120
  rw [show (w.alloc (.cells #[.pointer (some ⟨w.heap.size + 1, 0, none⟩)] 83)).heap.size = w.heap.size + 1 by simp] at hh
  exact hh

set_option maxHeartbeats 400000 in
theorem zaddone_any {lo : Nat} {w : World} {b : Nat} {v : Value} {f : Nat → Bool} (h : Iset lo w b v (runsI f 141)) (z : Int) (hok : fAddOk f z z = true) :
    Calls Tryd.prog 44 #[.agg #[.pointer (some ⟨b, 0, none⟩)], .int .i64 z] w fun e w' => e = .returned (.tuple #[]) ∧ ∃ v', Iset lo w' b v' (runsI (fAdd f z (z + 1)) 141) ∧ Chg b v v' w w' := by
  have H := hid (fun W (hb : Below w.heap.size w W) => addone_any (h.keep hb) z hok)
  have hB := fun o => hid (bl1 w o)
  clear h hok
  go_enter Tryd.func44, Tryd.ntmps44
  go_wp2_with (go_at_call 67; refine (H.out _ (bl1 w _)).mono ?_; rintro e w2 ⟨rfl, v', hs, hc⟩; have HS := hid hs; have HC := hid hc; clear hs hc)
  go_end0
  exact ⟨rfl, v', HS.out, HC.out.after (hB _).out⟩

set_option maxHeartbeats 400000 in
theorem zaddrange_any {lo : Nat} {w : World} {b : Nat} {v : Value} {f : Nat → Bool} (h : Iset lo w b v (runsI f 141)) (x z : Int) (hok : fAddOk f x z = true) :
    Calls Tryd.prog 45 #[.agg #[.pointer (some ⟨b, 0, none⟩)], .int .i64 x, .int .i64 z] w fun e w' => e = .returned (.tuple #[]) ∧ ∃ v', Iset lo w' b v' (runsI (fAdd f x (z + 1)) 141) ∧ Chg b v v' w w' := by
  have H := hid (fun W (hb : Below w.heap.size w W) => addrange_any (h.keep hb) x z hok)
  have hB := fun o => hid (bl1 w o)
  clear h hok
  go_enter Tryd.func45, Tryd.ntmps45
  go_wp2_with (go_at_call 68; refine (H.out _ (bl1 w _)).mono ?_; rintro e w2 ⟨rfl, v', hs, hc⟩; have HS := hid hs; have HC := hid hc; clear hs hc)
  go_end0
  exact ⟨rfl, v', HS.out, HC.out.after (hB _).out⟩

set_option maxHeartbeats 400000 in
theorem zaddset_any {lo : Nat} {w : World} {b b2 : Nat} {v v2 : Value} {f f2 f' : Nat → Bool} (h : Iset lo w b v (runsI f 141)) (h2 : Iset lo w b2 v2 (runsI f2 141)) (hb : b2 ≠ b) (hv : v2.ownBlock = none ∨ v2.ownBlock ≠ v.ownBlock) (hr : addRuns f (runsI f2 141) = some f') :
    Calls Tryd.prog 46 #[.agg #[.pointer (some ⟨b, 0, none⟩)], .agg #[.pointer (some ⟨b2, 0, none⟩)]] w fun e w' => e = .returned (.tuple #[]) ∧ ∃ v', Iset lo w' b v' (runsI f' 141) ∧ Chg b v v' w w' := by
  have H := hid (fun W (hb1 : Below w.heap.size w W) => addset_any (h.keep hb1) (h2.keep hb1) hb hv hr)
  have hB := fun o o' => hid (bl (bl1 w o) (bl1 _ o'))
  clear h h2 hb hv hr
  go_enter Tryd.func46, Tryd.ntmps46
  go_wp2_with (go_at_call 69; refine (H.out _ (bl (bl1 w _) (bl1 _ _))).mono ?_; rintro e w2 ⟨rfl, v', hs, hc⟩; have HS := hid hs; have HC := hid hc; clear hs hc)
  go_end0
  exact ⟨rfl, v', HS.out, HC.out.after (hB _ _).out⟩

set_option maxHeartbeats 400000 in
theorem zlength_any {lo : Nat} {w : World} {b : Nat} {v : Value} {ivs : List Iv} (h : Iset lo w b v ivs) (hi : Inb ivs) :
    Calls Tryd.prog 48 #[.agg #[.pointer (some ⟨b, 0, none⟩)]] w fun e w' => e = .returned (.int .i64 (lenI ivs)) ∧ Below w.heap.size w w' := by
  have H := hid (fun W (hb : Below w.heap.size w W) => length_any (h.keep hb) hi)
  have hB := fun o => hid (bl1 w o)
  clear h hi
  go_enter Tryd.func48, Tryd.ntmps48
  go_wp2_with (go_at_call 71; refine (H.out _ (bl1 w _)).mono ?_; rintro e w2 ⟨rfl, hb⟩)
  go_ret
  exact ⟨rfl, bl (hB _).out hb⟩

set_option maxHeartbeats 400000 in
theorem zfirst_any {lo : Nat} {w : World} {b : Nat} {v : Value} {ivs : List Iv} (h : Iset lo w b v ivs) (hi : Inb ivs) :
    Calls Tryd.prog 49 #[.agg #[.pointer (some ⟨b, 0, none⟩)]] w fun e w' => (∃ z, e = .returned (.int .i64 z)) ∧ Below w.heap.size w w' := by
  have H := hid (fun W (hb : Below w.heap.size w W) => first_any (h.keep hb) hi)
  have hB := fun o => hid (bl1 w o)
  clear h hi
  go_enter Tryd.func49, Tryd.ntmps49
  go_wp2_with (go_at_call 72; refine (H.out _ (bl1 w _)).mono ?_; rintro e w2 ⟨⟨z, rfl⟩, rfl⟩)
  go_ret
  exact ⟨⟨z, rfl⟩, (hB _).out⟩

set_option maxHeartbeats 400000 in
theorem zcontains_any {lo : Nat} {w : World} {b : Nat} {v : Value} {ivs : List Iv} (h : Iset lo w b v ivs) (hi : Inb ivs) (n : Int) :
    Calls Tryd.prog 51 #[.agg #[.pointer (some ⟨b, 0, none⟩)], .int .i64 n] w fun e w' => e = .returned (.bool (hasI ivs n)) ∧ Below w.heap.size w w' := by
  have H := hid (fun W (hb : Below w.heap.size w W) => contains_any (h.keep hb) hi n)
  have hB := fun o => hid (bl1 w o)
  clear h hi
  go_enter Tryd.func51, Tryd.ntmps51
  go_wp2_with (go_at_call 74; refine (H.out _ (bl1 w _)).mono ?_; rintro e w2 ⟨rfl, hb⟩)
  go_ret
  exact ⟨rfl, bl (hB _).out hb⟩

set_option maxHeartbeats 400000 in
theorem zintervals_any {lo : Nat} {w : World} {b : Nat} {v : Value} {ivs : List Iv} (h : Iset lo w b v ivs) :
    Calls Tryd.prog 52 #[.agg #[.pointer (some ⟨b, 0, none⟩)]] w fun e w' => e = .returned v ∧ Below w.heap.size w w' := by
  have H := hid (fun W (hb : Below w.heap.size w W) => getiv_any (h.keep hb))
  have hB := fun o => hid (bl1 w o)
  clear h
  go_enter Tryd.func52, Tryd.ntmps52
  go_wp2_with (go_at_call 75; refine (H.out _ (bl1 w _)).mono ?_; rintro e w2 ⟨rfl, rfl⟩)
  go_ret
  exact ⟨rfl, (hB _).out⟩

theorem equals_any {lo1 lo2 : Nat} {w : World} {b1 b2 : Nat} {v1 v2 : Value} {xs ys : List Iv} (h1 : Iset lo1 w b1 v1 xs) (h2 : Iset lo2 w b2 v2 ys) (hi : Inb xs) :
    Calls Tryd.prog 76 #[.pointer (some ⟨b1, 0, none⟩), .pointer (some ⟨b2, 0, none⟩)] w fun e w' => e = .returned (.bool (decide (xs = ys))) ∧ Below w.heap.size w w' := by
  by_cases hl : xs.length = ys.length
  · exact equals_same h1 h2 hi hl
  · obtain ⟨A1, c1, e1⟩ := slice_of h1.own
    obtain ⟨A2, c2, e2⟩ := slice_of h2.own
    have k1 := h1.cell.1
    have k2 := h2.cell.1
    rw [e1] at k1
    rw [e2] at k2
    rw [decide_eq_false (fun e => hl (by rw [e]))]
    exact equals_len k1 k2 hl

set_option maxHeartbeats 400000 in
theorem zequal_any {lo1 lo2 : Nat} {w : World} {b1 b2 : Nat} {v1 v2 : Value} {xs ys : List Iv} (h1 : Iset lo1 w b1 v1 xs) (h2 : Iset lo2 w b2 v2 ys) (hi : Inb xs) :
    Calls Tryd.prog 53 #[.agg #[.pointer (some ⟨b1, 0, none⟩)], .agg #[.pointer (some ⟨b2, 0, none⟩)]] w fun e w' => e = .returned (.bool (decide (xs = ys))) ∧ Below w.heap.size w w' := by
  have H := hid (fun W (hb : Below w.heap.size w W) => equals_any (h1.keep hb) (h2.keep hb) hi)
  have hB := fun o o' => hid (bl (bl1 w o) (bl1 _ o'))
  clear h1 h2 hi
  generalize decide (xs = ys) = ans at *
  go_enter Tryd.func53, Tryd.ntmps53
  go_wp2_with (go_at_call 76; refine (H.out _ (bl (bl1 w _) (bl1 _ _))).mono ?_; rintro e w2 ⟨rfl, hb⟩)
  go_ret
  exact ⟨rfl, bl (hB _ _).out hb⟩

end Go.Proofs.YtifoeehfblddcaaDoor
