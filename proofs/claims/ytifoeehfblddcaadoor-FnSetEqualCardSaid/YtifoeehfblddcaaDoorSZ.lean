/- For every list of steps the law FnSetEqual returns true and leaves its argument as it was; conditions: the library's tables read as the program's text lays them (the card ties them), no argument takes more than the form's reach. -/
import Derived.Test.YtifoeehfblddcaaDoorSF
import Derived.Test.YtifoeehfblddcaaDoorRows
import Derived.Test.YtifoeehfblddcaaDoorCards
import Derived.Test.YtifoeehfblddcaaDoorTie
import Derived.ProofKit
import Derived.OpenShut
import Derived.LaidMore
import Derived.Lay
import Derived.SevenTiedAt
import Derived.Stop.Joined
import Derived.Lib.LaidU8
import Derived.PinnedBridge
import Derived.Deep.Slices
import Derived.Deep.Fields
import Derived.ChangeSame
namespace Go.Proofs.YtifoeehfblddcaaDoor
open Go.ChangeShapes Go.WideShapes Go.ChangeAt Go.RowKit Go.Deep

theorem own : ownKnob Tryd.prog.godebug = none := by kernel_rfl
theorem laidOut : laidOutB Tryd.prog = true := by kernel_rfl

abbrev laidList : List (String × DataW Unit) := [("math/bits.deBruijn32tab", Rows.laid_math_bits_deBruijn32tab), ("math/bits.deBruijn64tab", Rows.laid_math_bits_deBruijn64tab), ("internal/strconv.uint64pow10", Rows.laid_internal_strconv_uint64pow10)]

theorem tabIs_of_reads {P : Program} {W : World} {name : String} {k : IntKind} {zs : List Int} {g : Nat} {t e : TypeId} {n : Nat}
    (hg : P.globalNamed name = some g) (hty : (P.globals[g]?).map (·.type) = some t) (ht : P.underlying t = some (.array n e)) (he : P.underlying e = some (.int k)) (hce : P.cellsOf e = 1) (hct : P.cellsOf t = n)
    (h : Lib.VarReads P W name (Lib.tabData k zs)) : Lib.TabIs P W name k zs := by
  obtain ⟨g', t', cs, fuel, p, hg', ht', hvar, hd⟩ := h
  obtain rfl := Option.some.inj (hg.symm.trans hg')
  obtain rfl := Option.some.inj (hty.symm.trans ht')
  unfold Lib.TabIs
  rw [hvar, ← Lib.cells_of_tab ht he hce hct hd]

theorem pow10_eq : (Rows.laid_internal_strconv_uint64pow10 : DataW Unit) = Lib.tabData .u64 Lib.pow10Tab := by kernel_rfl

theorem tab_of_laid {W : World} (h : laidMetH Tryd.prog laidList W) : PwTab W := by
  rw [MakeChecks.laidMetH_plain _ _ _ (by kernel_rfl)] at h
  have h10 := Lib.laidMet.reads h (.tail _ (.tail _ (.head _)))
  rw [pow10_eq] at h10
  exact tabIs_of_reads (g := 1) (t := 138) (by kernel_rfl) (by kernel_rfl) Tryd.underlying138 Tryd.underlying98 (by kernel_rfl) (by kernel_rfl) h10

section
variable {H : Type} {enc : TypeId × Value → H} {P : Program} {w : World} {base : Nat} {spare : Nat → Bool} {held : Bool}
theorem open_slice_fields {t e : TypeId} {fs : Array Field} {fuel : Nat} {cs : List Value} {x : DataW H × List MemPlace} (ht : P.underlying t = some (.slice e)) (he : P.underlying e = some (.struct fs))
    (hone : oneCellFields P fs = true) (hC : P.cellsOf e = fs.size) (h : DataW.trod enc P w base spare held fuel t cs = some x) :
    (cs = [.slice none 0 0] ∧ x = (.nil, [])) ∨
    ∃ (a : Addr) (len cap m : Nat) (D : Nat → DataW H) (Pl : Nat → List MemPlace), cs = [.slice (some a) len cap] ∧ base ≤ a.block ∧ len ≤ cap ∧ cap ≤ maxLen ∧ m = (if spare a.block then cap else len) ∧
      x = (.slice ((List.range len).map D) ((List.range (m - len)).map fun j => D (len + j)), MemPlace.row a (m * fs.size) ++ (List.range m).flatMap Pl) ∧
      ∀ i, i < m → ∃ (ys : List (DataW H × List MemPlace)) (n : Nat), D i = .agg (ys.map (·.1)) ∧ Pl i = ys.flatMap (·.2) ∧ ys.length = fs.size ∧
        ∀ (j : Nat) (f : Field), fs[j]? = some f → ∃ (v : Value) (y : DataW H × List MemPlace), w.cell? (a.add (i * fs.size + j)) = some v ∧ ys[j]? = some y ∧ DataW.trod enc P w base spare held n f.type [v] = some y := by
  rcases open_slice ht h with h0 | ⟨a, len, cap, m, n, D, Pl, hcs, hb, hl, hm, hmm, hx, hi⟩
  · exact .inl h0
  · refine .inr ⟨a, len, cap, m, D, Pl, hcs, hb, hl, hm, hmm, by rw [hC] at hx; exact hx, fun i him => ?_⟩
    obtain ⟨cs', hc, ht'⟩ := hi i him
    rw [hC] at hc
    obtain ⟨ys, n', hn', hy, hlen, hyl, hf⟩ := DataW.trod_struct he ht'
    obtain ⟨_, hcl, hat⟩ := World.cells?_some hc
    simp only [Prod.mk.injEq] at hy
    refine ⟨ys, n', hy.1, hy.2, hyl, fun j f hj => ?_⟩
    obtain ⟨ho, hk⟩ := hone_of hone j f hj
    have hjl : j < fs.size := (Array.getElem?_eq_some_iff.1 hj).1
    have hcell := hat j hjl
    have hv : cs'[j]? = some (cs'[j]'(by omega)) := List.getElem?_eq_getElem (by omega)
    have h1 := hf j f hj
    rw [ho, hk] at h1
    have hone' : (cs'.drop j).take 1 = [cs'[j]'(by omega)] := by
      rw [List.drop_eq_getElem_cons (by omega)]
      rfl
    rw [hone'] at h1
    have hys : ys[j]? = some (ys[j]'(by omega)) := List.getElem?_eq_getElem (by omega)
    refine ⟨_, _, ?_, hys, h1.trans hys⟩
    rw [← Go.Deep.add_add, hcell, hv]
end

theorem cell_spot {w : World} {a : Addr} {v : Value} (h : w.cell? a = some v) : a.spot = none ∧ a.block < w.heap.size := by
  unfold World.cell? at h
  split at h
  · rename_i c t fr hb
    split at h
    · cases h
    · rename_i hs
      refine ⟨by simpa using hs, ?_⟩
      exact (Array.getElem?_eq_some_iff.1 hb).1
  · cases h

theorem fields76 : ∃ fs : Array Field, Tryd.prog.underlying 76 = some (.struct fs) ∧ oneCellFields Tryd.prog fs = true ∧ fs.size = 4 ∧ Tryd.prog.cellsOf 76 = fs.size ∧ fs.toList.map (·.type) = [5, 3, 3, 3] :=
  ⟨_, Tryd.underlying76, by kernel_rfl, rfl, by kernel_rfl, rfl⟩

section
variable {H : Type} {enc : TypeId × Value → H} {w : World} {base : Nat} {sp : Nat → Bool} {held : Bool}

/-- a list of steps, opened -/
theorem open_steps {v : Value} {fuel : Nat} {x : DataW H × List MemPlace} (h : DataW.trod enc Tryd.prog w base sp held fuel 37 [v] = some x) :
    ∃ A c ss, v = .slice A ss.length c ∧ Steps w A c ss := by
  obtain ⟨fs, hu, hone, h4, hC, hty⟩ := fields76
  rcases open_slice_fields Tryd.underlying37 hu hone hC h with ⟨hc, _⟩ | ⟨a, len, cap, m, D, Pl, hc, _, hl, _, hm, _, hi⟩
  · simp only [List.cons.injEq, and_true] at hc
    exact ⟨none, 0, [], hc, ⟨Nat.le_refl _, by simp⟩⟩
  · simp only [List.cons.injEq, and_true] at hc
    by_cases h0 : len = 0
    · subst h0
      exact ⟨some a, cap, [], hc, ⟨by simp, by simp⟩⟩
    · have hlm : len ≤ m := by rw [hm]; split <;> omega
      rw [h4] at hi
      have ft : ∀ (j : Nat) (t : TypeId), ([5, 3, 3, 3] : List TypeId)[j]? = some t → ∃ f, fs[j]? = some f ∧ f.type = t := by
        intro j t hj
        rw [← hty, List.getElem?_map] at hj
        cases hf : fs.toList[j]? with
        | none => rw [hf] at hj; cases hj
        | some f =>
          rw [hf] at hj
          exact ⟨f, by rw [← Array.getElem?_toList]; exact hf, Option.some.inj hj⟩
      have hel : ∀ i, i < len → ∃ s : Sst, w.cell? (a.add (i * 4)) = some (.int .u8 (s.op : Nat)) ∧ w.cell? (a.add (i * 4 + 1)) = some (.int .i64 s.set) ∧ w.cell? (a.add (i * 4 + 2)) = some (.int .i64 s.a) ∧ w.cell? (a.add (i * 4 + 3)) = some (.int .i64 s.b) := by
        intro i hil
        obtain ⟨ys, n, _, _, _, hf⟩ := hi i (by omega)
        obtain ⟨f0, e0, t0⟩ := ft 0 5 rfl
        obtain ⟨f1, e1, t1⟩ := ft 1 3 rfl
        obtain ⟨f2, e2, t2⟩ := ft 2 3 rfl
        obtain ⟨f3, e3, t3⟩ := ft 3 3 rfl
        obtain ⟨v0, y0, c0, _, k0⟩ := hf 0 f0 e0
        obtain ⟨v1, y1, c1, _, k1⟩ := hf 1 f1 e1
        obtain ⟨v2, y2, c2, _, k2⟩ := hf 2 f2 e2
        obtain ⟨v3, y3, c3, _, k3⟩ := hf 3 f3 e3
        rw [t0] at k0
        rw [t1] at k1
        rw [t2] at k2
        rw [t3] at k3
        obtain ⟨z0, q0, _, wf⟩ := DataW.trod_int Tryd.underlying5 k0
        obtain ⟨z1, q1, _, _⟩ := DataW.trod_int Tryd.underlying3 k1
        obtain ⟨z2, q2, _, _⟩ := DataW.trod_int Tryd.underlying3 k2
        obtain ⟨z3, q3, _, _⟩ := DataW.trod_int Tryd.underlying3 k3
        simp only [List.cons.injEq, and_true] at q0 q1 q2 q3
        subst q0 q1 q2 q3
        have hz : 0 ≤ z0 := by
          have h : decide (IntKind.u8.min ≤ z0) = true := by
            unfold Lit.wf at wf
            simp only [Bool.and_eq_true] at wf
            exact wf.1
          exact of_decide_eq_true h
        refine ⟨⟨z0.toNat, z1, z2, z3⟩, ?_, c1, c2, c3⟩
        rw [Nat.add_zero] at c0
        rw [c0, Int.toNat_of_nonneg hz]
      have hch : ∃ f : Nat → Sst, ∀ i, i < len → w.cell? (a.add (i * 4)) = some (.int .u8 ((f i).op : Nat)) ∧ w.cell? (a.add (i * 4 + 1)) = some (.int .i64 (f i).set) ∧ w.cell? (a.add (i * 4 + 2)) = some (.int .i64 (f i).a) ∧ w.cell? (a.add (i * 4 + 3)) = some (.int .i64 (f i).b) := by
        refine ⟨fun i => if hil : i < len then Classical.choose (hel i hil) else sst0, fun i hil => ?_⟩
        dsimp only
        rw [dif_pos hil]
        exact Classical.choose_spec (hel i hil)
      obtain ⟨f, hf⟩ := hch
      have c0 := (hf 0 (by omega)).1
      have c0' : w.cell? a = some (.int .u8 ((f 0).op : Nat)) := by simpa [Addr.add] using c0
      obtain ⟨hsp, hlt⟩ := cell_spot c0'
      obtain ⟨g, o, spot⟩ := a
      simp only at hsp hlt
      subst hsp
      refine ⟨some ⟨g, o, none⟩, cap, (List.range len).map f, by simpa using hc, ⟨by simp; omega, fun _ => ⟨g, o, rfl, hlt, ?_⟩⟩⟩
      intro j hj
      have hj' : j < len := by simpa using hj
      have hs : stAt ((List.range len).map f) j = f j := by simp [stAt, hj']
      have := hf j hj'
      rw [Addr.add_mid, Addr.add_mid, Addr.add_mid, Addr.add_mid] at this
      rw [hs]
      simpa [Nat.add_assoc] using this
end

set_option maxRecDepth 100000 in
theorem setequal_lifted (os : Os) (started : os.Started) (H : Type) (enc : TypeId × Value → H) :
    ReturnsInHanded {} Tryd.checked os 5 .any (fun w args => (Rows.fnSetEqualSpec.pre enc Tryd.prog Tryd.f5 [] false w args ∧ laidMetH Tryd.prog laidList w) ∧ sizedMet enc Tryd.prog Tryd.f5 (OpenSpec.ofChange Rows.fnSetEqualSpec) false w args)
      (Rows.fnSetEqualSpec.post enc Tryd.prog Tryd.f5 false true false false) := by
  refine returnsInHanded_of_change_and (C := Tryd.checked) (X := fun w _ => laidMetH Tryd.prog laidList w) (fun _ _ _ hh h => h.of_heap hh) own started (by kernel_rfl) Tryd.func5
    (ChangeSpec.witness_shaped (enc := enc) (C := Tryd.checked) (os := os) (X := fun w _ => laidMetH Tryd.prog laidList w) false (World.laidAll Tryd.prog os laidList) #[.slice none 0 0] 8 (World.laidAll_os _ _ _)
      (World.shaped_of_ZipB (by kernel_rfl) (by kernel_rfl)) (by kernel_rfl) (by kernel_rfl) (by kernel_rfl)
      (by rw [MakeChecks.laidMetH_plain _ _ _ (by kernel_rfl)]; exact laidMet_laidAll _ (by kernel_rfl) (by kernel_rfl))) ?_
  intro W base args ds gs before hval0 hW hc _ hL _
  have hval : ∀ (j : Nat) t v, Tryd.f5.params[j]? = some t → args[j]? = some v → Value.okWide Tryd.prog W .any base t v := hval0
  have hW' := hW
  obtain ⟨p, q, hA0, hV, rfl, _, _⟩ := hW
  have hA : DataW.TrodAll enc Tryd.prog W 0 (fun _ => true) true Tryd.f5.params.toList args.toList ds p := hA0
  rw [Tryd.params5] at hA hval
  obtain ⟨v0, d0, rfl, rfl, h0⟩ := trodAll_one hA
  obtain ⟨rfl, rfl⟩ := trodVars_none hV
  have htab := tab_of_laid hL
  have hlt0 : ∀ x ∈ p, x.block < W.heap.size := fun x hx => by simpa using hW'.lt x (by simp [hx])
  obtain ⟨a0, l0, c0, rfl⟩ := okWide_slice Tryd.underlying37 (hval 0 37 v0 rfl rfl)
  have h0k := h0
  obtain ⟨fuel0, hf0⟩ := h0
  obtain ⟨A0, k0, ss, e0, i0⟩ := open_steps (by simpa [Value.cells] using hf0)
  rw [e0]
  rw [e0] at hW'
  rw [e0] at h0k
  refine (setequal_law A0 k0 ss W i0 htab).mono ?_
  rintro e W' ⟨rfl, bel⟩
  refine ⟨_, rfl, _, _, _, [], p, [], by simpa using hW', ?_, ?_, ?_, bel.frame _, fun h => by cases h⟩
  · exact trodAll_mk1 (shut_bool Tryd.underlying4 _)
  · exact trodAll_mk1 (Below.trod laidOut (by kernel_rfl) (of_decide_eq_true (by kernel_rfl)) h0k bel hlt0)
  · rfl

theorem setequal_holds : Rows.FnSetEqualSaid :=
  OpenClaim.holds_of_wide 5 Tryd.f5 rfl rfl rfl rfl rfl rfl rfl ⟨rfl, rfl, rfl, rfl, rfl⟩ rfl rfl rfl rfl rfl (by kernel_rfl) Tryd.func5 (by kernel_rfl)
    (of_decide_eq_true (by kernel_rfl)) (by unfold Func.isWrapper; first | (rw [if_pos (by decide +kernel)]; kernel_rfl) | (rw [if_neg (by decide +kernel)]; exact ⟨rfl, rfl⟩))
    (fun os started H enc _ => setequal_lifted os started H enc)

theorem setequal_card : Rows.FnSetEqualCardSaid :=
  Claim7.holds_tied_plain_at .later [] [.data, .data, .data] true (true, "7f4a9b0531de1f32187cd4a45074467f481815f1f8c51f9482e9f6dd6b076dc6") true setequal_holds (fun _ h => by cases h) (by kernel_rfl) (fun _ h => by cases h) fnSetEqual_row_tie rfl ⟨rfl, rfl⟩ (by kernel_rfl) rfl
    (fun f fn hf hfn => by
      obtain rfl : f = 5 := Option.some.inj ((show Tryd.prog.funcNamed "pub-hermeneut/laws.FnSetEqual" = some 5 by kernel_rfl).symm.trans hf) |>.symm
      obtain rfl : fn = Tryd.f5 := (Option.some.inj (Tryd.func5.symm.trans hfn)).symm
      exact ⟨by kernel_rfl, fun j t ht => by
        rw [Tryd.params5] at ht
        have hm : t ∈ [37] := by simpa using Array.mem_of_getElem? ht
        have hall : ([37].all fun u => !Tryd.prog.wantsStandIn u) = true := by kernel_rfl
        exact (show Tryd.prog.wantsStandIn t = false by simpa using List.all_eq_true.1 hall t hm)⟩)
    (by kernel_rfl)
#print axioms setequal_holds
#print axioms setequal_card
end Go.Proofs.YtifoeehfblddcaaDoor
