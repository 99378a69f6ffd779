/- For every three lists the law FnBits returns true and leaves its arguments as they were; conditions: the library's tables read as the program's text lays them (the card ties them), no argument takes more than the form's reach. -/
import Derived.Test.YtifoeehfblddcaaDoorY
import Derived.Test.YtifoeehfblddcaaDoorRows
import Derived.Test.YtifoeehfblddcaaDoorCards
import Derived.Test.YtifoeehfblddcaaDoorTie
import Derived.ProofKit
import Derived.OpenShut
import Derived.LaidMore
import Derived.Lay
import Derived.SevenTiedAt
import Derived.Stop.Joined
import Derived.Lib.LaidU8
import Derived.PinnedBridge
import Derived.Deep.Slices
namespace Go.Proofs.YtifoeehfblddcaaDoor
open Go.ChangeShapes Go.WideShapes Go.ChangeAt Go.RowKit

theorem own : ownKnob Tryd.prog.godebug = none := by kernel_rfl
theorem laidOut : laidOutB Tryd.prog = true := by kernel_rfl

abbrev laidList : List (String × DataW Unit) := [("math/bits.deBruijn32tab", Rows.laid_math_bits_deBruijn32tab), ("math/bits.deBruijn64tab", Rows.laid_math_bits_deBruijn64tab), ("internal/strconv.uint64pow10", Rows.laid_internal_strconv_uint64pow10)]

theorem tabIs_of_reads {P : Program} {W : World} {name : String} {k : IntKind} {zs : List Int} {g : Nat} {t e : TypeId} {n : Nat}
    (hg : P.globalNamed name = some g) (hty : (P.globals[g]?).map (·.type) = some t) (ht : P.underlying t = some (.array n e)) (he : P.underlying e = some (.int k)) (hce : P.cellsOf e = 1) (hct : P.cellsOf t = n)
    (h : Lib.VarReads P W name (Lib.tabData k zs)) : Lib.TabIs P W name k zs := by
  obtain ⟨g', t', cs, fuel, p, hg', ht', hvar, hd⟩ := h
  obtain rfl := Option.some.inj (hg.symm.trans hg')
  obtain rfl := Option.some.inj (hty.symm.trans ht')
  unfold Lib.TabIs
  rw [hvar, ← Lib.cells_of_tab ht he hce hct hd]

def tab64 : List Int := Lib.deBruijn64tab.map fun (x : Nat) => (x : Int)
theorem tab64_eq : (Rows.laid_math_bits_deBruijn64tab : DataW Unit) = Lib.tabData .u8 tab64 := by kernel_rfl
theorem pow10_eq : (Rows.laid_internal_strconv_uint64pow10 : DataW Unit) = Lib.tabData .u64 Lib.pow10Tab := by kernel_rfl

theorem tabs_of_laid {W : World} (h : laidMetH Tryd.prog laidList W) : Tabs W ∧ 0 < W.heap.size := by
  rw [MakeChecks.laidMetH_plain _ _ _ (by kernel_rfl)] at h
  have h64 := Lib.laidMet.reads h (.tail _ (.head _))
  have h10 := Lib.laidMet.reads h (.tail _ (.tail _ (.head _)))
  rw [tab64_eq] at h64
  rw [pow10_eq] at h10
  have t64 := tabIs_of_reads (g := 0) (t := 111) (by kernel_rfl) (by kernel_rfl) Tryd.underlying111 Tryd.underlying5 (by kernel_rfl) (by kernel_rfl) h64
  have t10 := tabIs_of_reads (g := 1) (t := 138) (by kernel_rfl) (by kernel_rfl) Tryd.underlying138 Tryd.underlying98 (by kernel_rfl) (by kernel_rfl) h10
  have hz : TzTab W := by
    intro j hj
    have := t64.cell (g := 0) (by kernel_rfl) j (by unfold tab64; rw [List.length_map]; exact hj)
    rw [this]
    unfold tab64
    simp [hj]
  refine ⟨⟨hz, t10⟩, ?_⟩
  exact World.block_lt_of_cell? _ _ (hz 0 (by decide))

section
variable {H : Type} {enc : TypeId × Value → H} {w : World} {base : Nat} {sp : Nat → Bool} {held : Bool}

theorem cells3 : Tryd.prog.cellsOf 3 = 1 := by kernel_rfl

theorem cell_spot {w : World} {a : Addr} {v : Value} (h : w.cell? a = some v) : a.spot = none ∧ a.block < w.heap.size := by
  unfold World.cell? at h
  split at h
  · rename_i c t fr hb
    split at h
    · cases h
    · rename_i hs
      refine ⟨by simpa using hs, ?_⟩
      exact (Array.getElem?_eq_some_iff.1 hb).1
  · cases h

/-- a list of ints, opened -/
theorem open_ints {v : Value} {fuel : Nat} {x : DataW H × List MemPlace} (h : DataW.trod enc Tryd.prog w base sp held fuel 22 [v] = some x) :
    ∃ A c xs, v = .slice A xs.length c ∧ Ints w A c xs := by
  rcases Go.Deep.open_slice Tryd.underlying22 h with ⟨hc, _⟩ | ⟨a, len, cap, m, n, D, Pl, hc, _, hl, _, hm, _, hi⟩
  · simp only [List.cons.injEq, and_true] at hc
    exact ⟨none, 0, [], hc, Ints.nil w⟩
  · simp only [List.cons.injEq, and_true] at hc
    by_cases h0 : len = 0
    · subst h0
      exact ⟨some a, cap, [], hc, ⟨by simp, by simp⟩⟩
    · have hlm : len ≤ m := by rw [hm]; split <;> omega
      have hel : ∀ i, i < len → ∃ z : Int, w.cell? (a.add i) = some (.int .i64 z) := by
        intro i hil
        obtain ⟨cs', hcs, ht⟩ := hi i (by omega)
        rw [cells3] at hcs
        obtain ⟨_, _, hat⟩ := World.cells?_some hcs
        obtain ⟨z, hz, _, _⟩ := DataW.trod_int Tryd.underlying3 ht
        refine ⟨z, ?_⟩
        have := hat 0 (by omega)
        rw [hz] at this
        simpa [Go.Deep.add_add] using this
      have hch : ∃ f : Nat → Int, ∀ i, i < len → w.cell? (a.add i) = some (.int .i64 (f i)) := by
        refine ⟨fun i => if hil : i < len then Classical.choose (hel i hil) else 0, fun i hil => ?_⟩
        dsimp only
        rw [dif_pos hil]
        exact Classical.choose_spec (hel i hil)
      obtain ⟨f, hf⟩ := hch
      have c0 := hf 0 (by omega)
      have c0' : w.cell? a = some (.int .i64 (f 0)) := by simpa [Addr.add] using c0
      obtain ⟨hsp, hlt⟩ := cell_spot c0'
      obtain ⟨g, o, spot⟩ := a
      simp only at hsp hlt
      subst hsp
      refine ⟨some ⟨g, o, none⟩, cap, (List.range len).map f, by simpa using hc, ⟨by simp; omega, fun _ => ⟨g, o, rfl, hlt, ?_⟩⟩⟩
      intro j hj
      have hj' : j < len := by simpa using hj
      have ea : (⟨g, o, none⟩ : Addr).add j = ⟨g, o + j, none⟩ := by
        unfold Addr.add; split
        · subst_vars; rfl
        · rfl
      have := hf j hj'
      rw [ea] at this
      rw [this]
      simp [hj']
end

set_option maxRecDepth 100000 in
theorem bits_lifted (os : Os) (started : os.Started) (H : Type) (enc : TypeId × Value → H) :
    ReturnsInHanded {} Tryd.checked os 3 .any (fun w args => (Rows.fnBitsSpec.pre enc Tryd.prog Tryd.f3 [] false w args ∧ laidMetH Tryd.prog laidList w) ∧ sizedMet enc Tryd.prog Tryd.f3 (OpenSpec.ofChange Rows.fnBitsSpec) false w args)
      (Rows.fnBitsSpec.post enc Tryd.prog Tryd.f3 false true false false) := by
  refine returnsInHanded_of_change_and (C := Tryd.checked) (X := fun w _ => laidMetH Tryd.prog laidList w) (fun _ _ _ hh h => h.of_heap hh) own started (by kernel_rfl) Tryd.func3
    (ChangeSpec.witness_shaped (enc := enc) (C := Tryd.checked) (os := os) (X := fun w _ => laidMetH Tryd.prog laidList w) false (World.laidAll Tryd.prog os laidList) #[.slice none 0 0, .slice none 0 0, .slice none 0 0] 8 (World.laidAll_os _ _ _)
      (World.shaped_of_ZipB (by kernel_rfl) (by kernel_rfl)) (by kernel_rfl) (by kernel_rfl) (by kernel_rfl)
      (by rw [MakeChecks.laidMetH_plain _ _ _ (by kernel_rfl)]; exact laidMet_laidAll _ (by kernel_rfl) (by kernel_rfl))) ?_
  intro W base args ds gs before hval0 hW hc _ hL _
  have hval : ∀ (j : Nat) t v, Tryd.f3.params[j]? = some t → args[j]? = some v → Value.okWide Tryd.prog W .any base t v := hval0
  have hW' := hW
  obtain ⟨p, q, hA0, hV, rfl, _, _⟩ := hW
  have hA : DataW.TrodAll enc Tryd.prog W 0 (fun _ => true) true Tryd.f3.params.toList args.toList ds p := hA0
  rw [Tryd.params3] at hA hval
  obtain ⟨v0, v1, v2, d0, d1, d2, p0, p1, p2, rfl, rfl, rfl, h0, h1, h2⟩ := trodAll_three hA
  obtain ⟨rfl, rfl⟩ := trodVars_none hV
  obtain ⟨htab, hw0⟩ := tabs_of_laid hL
  have hlt0 : ∀ x ∈ p0, x.block < W.heap.size := fun x hx => by simpa using hW'.lt x (by simp [hx])
  have hlt1 : ∀ x ∈ p1, x.block < W.heap.size := fun x hx => by simpa using hW'.lt x (by simp [hx])
  have hlt2 : ∀ x ∈ p2, x.block < W.heap.size := fun x hx => by simpa using hW'.lt x (by simp [hx])
  obtain ⟨a0, l0, c0, rfl⟩ := okWide_slice Tryd.underlying22 (hval 0 22 v0 rfl rfl)
  obtain ⟨a1, l1, c1, rfl⟩ := okWide_slice Tryd.underlying22 (hval 1 22 v1 rfl rfl)
  obtain ⟨a2, l2, c2, rfl⟩ := okWide_slice Tryd.underlying22 (hval 2 22 v2 rfl rfl)
  have h0k := h0
  have h1k := h1
  have h2k := h2
  obtain ⟨fuel0, hf0⟩ := h0
  obtain ⟨fuel1, hf1⟩ := h1
  obtain ⟨fuel2, hf2⟩ := h2
  obtain ⟨A0, k0, xs, e0, i0⟩ := open_ints (by simpa [Value.cells] using hf0)
  obtain ⟨A1, k1, ys, e1, i1⟩ := open_ints (by simpa [Value.cells] using hf1)
  obtain ⟨A2, k2, zs, e2, i2⟩ := open_ints (by simpa [Value.cells] using hf2)
  rw [e0, e1, e2]
  rw [e0, e1, e2] at hW'
  rw [e0] at h0k
  rw [e1] at h1k
  rw [e2] at h2k
  refine (bits_law A0 A1 A2 k0 k1 k2 xs ys zs W i0 i1 i2 htab hw0).mono ?_
  rintro e W' ⟨rfl, bel⟩
  refine ⟨_, rfl, _, _, _, [], p0 ++ (p1 ++ p2), [], by simpa using hW', ?_, ?_, ?_, bel.frame _, fun h => by cases h⟩
  · exact trodAll_mk1 (shut_bool Tryd.underlying4 _)
  · exact trodAll_mk3 (Below.trod laidOut (by kernel_rfl) (of_decide_eq_true (by kernel_rfl)) h0k bel hlt0) (Below.trod laidOut (by kernel_rfl) (of_decide_eq_true (by kernel_rfl)) h1k bel hlt1) (Below.trod laidOut (by kernel_rfl) (of_decide_eq_true (by kernel_rfl)) h2k bel hlt2)
  · rfl

theorem bits_holds : Rows.FnBitsSaid :=
  OpenClaim.holds_of_wide 3 Tryd.f3 rfl rfl rfl rfl rfl rfl rfl ⟨rfl, rfl, rfl, rfl, rfl⟩ rfl rfl rfl rfl rfl (by kernel_rfl) Tryd.func3 (by kernel_rfl)
    (of_decide_eq_true (by kernel_rfl)) (by unfold Func.isWrapper; first | (rw [if_pos (by decide +kernel)]; kernel_rfl) | (rw [if_neg (by decide +kernel)]; exact ⟨rfl, rfl⟩))
    (fun os started H enc _ => bits_lifted os started H enc)

theorem bits_card : Rows.FnBitsCardSaid :=
  Claim7.holds_tied_plain_at .later [] [.data, .data, .data] true (true, "7f4a9b0531de1f32187cd4a45074467f481815f1f8c51f9482e9f6dd6b076dc6") true bits_holds (fun _ h => by cases h) (by kernel_rfl) (fun _ h => by cases h) fnBits_row_tie rfl ⟨rfl, rfl⟩ (by kernel_rfl) rfl
    (fun f fn hf hfn => by
      obtain rfl : f = 3 := Option.some.inj ((show Tryd.prog.funcNamed "pub-hermeneut/laws.FnBits" = some 3 by kernel_rfl).symm.trans hf) |>.symm
      obtain rfl : fn = Tryd.f3 := (Option.some.inj (Tryd.func3.symm.trans hfn)).symm
      exact ⟨by kernel_rfl, fun j t ht => by
        rw [Tryd.params3] at ht
        have hm : t ∈ [22, 22, 22] := by simpa using Array.mem_of_getElem? ht
        have hall : ([22, 22, 22].all fun u => !Tryd.prog.wantsStandIn u) = true := by kernel_rfl
        exact (show Tryd.prog.wantsStandIn t = false by simpa using List.all_eq_true.1 hall t hm)⟩)
    (by kernel_rfl)
#print axioms bits_holds
#print axioms bits_card
end Go.Proofs.YtifoeehfblddcaaDoor
