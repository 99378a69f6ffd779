/- For every text and every list of steps the law FnChars returns true and leaves its arguments as they were; conditions: the two tables of the library's utf8 package read as the program's text lays them (the card ties them), no argument takes more than the form's reach. -/
import Derived.Test.YtcakbheoibaiiaaDoorT
import Derived.Test.YtcakbheoibaiiaaDoorO
import Derived.Deep.Slices
import Derived.Deep.Fields
namespace Go.Proofs.YtcakbheoibaiiaaDoor
open Go.ChangeShapes Go.WideShapes Go.ChangeAt Go.RowKit
open Go.ChangeMaps (open_string shut_string)

theorem cells31 : Tryd.prog.cellsOf 31 = 4 := by kernel_rfl
theorem laidOut : laidOutB Tryd.prog = true := by kernel_rfl

section
variable {H : Type} {enc : TypeId × Value → H} {w : World} {base : Nat} {sp : Nat → Bool} {held : Bool}

/-- a step's four cells, out of its reading -/
theorem open_step {fuel : Nat} {cs : List Value} {x : DataW H × List MemPlace} (h : DataW.trod enc Tryd.prog w base sp held fuel 31 cs = some x) :
    ∃ s : Stp, cs = s.cells ∧ s.tl ≤ maxLen := by
  obtain ⟨ys, n, _, _, hlen, _, hf⟩ := DataW.trod_struct Tryd.underlying31 h
  rw [cells31] at hlen
  match cs, hlen with
  | [c0, c1, c2, c3], _ =>
    have k5 : Tryd.prog.cellsOf 5 = 1 := by kernel_rfl
    have k3 : Tryd.prog.cellsOf 3 = 1 := by kernel_rfl
    have k29 : Tryd.prog.cellsOf 29 = 1 := by kernel_rfl
    have f0 : DataW.trod enc Tryd.prog w base sp held n 5 (([c0, c1, c2, c3].drop 0).take (Tryd.prog.cellsOf 5)) = ys[0]? := hf 0 _ rfl
    have f1 : DataW.trod enc Tryd.prog w base sp held n 3 (([c0, c1, c2, c3].drop 1).take (Tryd.prog.cellsOf 3)) = ys[1]? := hf 1 _ rfl
    have f2 : DataW.trod enc Tryd.prog w base sp held n 3 (([c0, c1, c2, c3].drop 2).take (Tryd.prog.cellsOf 3)) = ys[2]? := hf 2 _ rfl
    have f3 : DataW.trod enc Tryd.prog w base sp held n 29 (([c0, c1, c2, c3].drop 3).take (Tryd.prog.cellsOf 29)) = ys[3]? := hf 3 _ rfl
    rw [k5] at f0
    rw [k3] at f1 f2
    rw [k29] at f3
    simp only [List.drop_zero, List.drop_succ_cons, List.take_succ_cons, List.take_zero] at f0 f1 f2 f3
    have g : ∀ (j : Nat), j < ys.length → ∃ y, ys[j]? = some y := fun j hj => ⟨_, List.getElem?_eq_getElem hj⟩
    have hyl : ys.length = 4 := by assumption
    obtain ⟨y0, e0⟩ := g 0 (by omega)
    obtain ⟨y1, e1⟩ := g 1 (by omega)
    obtain ⟨y2, e2⟩ := g 2 (by omega)
    obtain ⟨y3, e3⟩ := g 3 (by omega)
    obtain ⟨z0, h0, _, _⟩ := DataW.trod_int Tryd.underlying5 (f0.trans e0)
    obtain ⟨z1, h1, _, _⟩ := DataW.trod_int Tryd.underlying3 (f1.trans e1)
    obtain ⟨z2, h2, _, _⟩ := DataW.trod_int Tryd.underlying3 (f2.trans e2)
    simp only [List.cons.injEq, and_true] at h0 h1 h2
    subst h0 h1 h2
    rcases Go.Deep.open_slice Tryd.underlying29 (f3.trans e3) with ⟨hc, _⟩ | ⟨a, len, cap, m, _, _, _, hc, _, hl, hm, _⟩
    · simp only [List.cons.injEq, and_true] at hc
      subst hc
      exact ⟨⟨z0, z1, z2, none, 0, 0⟩, rfl, Nat.zero_le _⟩
    · simp only [List.cons.injEq, and_true] at hc
      subst hc
      exact ⟨⟨z0, z1, z2, some a, len, cap⟩, rfl, Nat.le_trans hl hm⟩

theorem cell_spot {w : World} {a : Addr} {v : Value} (h : w.cell? a = some v) : a.spot = none ∧ a.block < w.heap.size := by
  unfold World.cell? at h
  split at h
  · rename_i c t fr hb
    split at h
    · cases h
    · rename_i hs
      refine ⟨by simpa using hs, ?_⟩
      exact (Array.getElem?_eq_some_iff.1 hb).1
  · cases h

/-- the argument of steps, opened -/
theorem open_steps {cs : List Value} {fuel : Nat} {x : DataW H × List MemPlace} (h : DataW.trod enc Tryd.prog w base sp held fuel 32 cs = some x) :
    (∃ A c, cs = [.slice A 0 c]) ∨ ∃ (g o c : Nat) (ss : List Stp), cs = [.slice (some ⟨g, o, none⟩) ss.length c] ∧ 0 < ss.length ∧ ss.length ≤ c ∧ g < w.heap.size ∧ StepRow w g o ss ∧ ∀ s ∈ ss, s.tl ≤ maxLen := by
  rcases Go.Deep.open_slice Tryd.underlying32 h with ⟨hc, _⟩ | ⟨a, len, cap, m, n, D, Pl, hc, _, hl, _, hm, _, hi⟩
  · exact .inl ⟨_, _, hc⟩
  · by_cases h0 : len = 0
    · subst h0; exact .inl ⟨_, _, hc⟩
    · right
      have hlm : len ≤ m := by rw [hm]; split <;> omega
      have hel : ∀ i, i < len → ∃ s : Stp, s.tl ≤ maxLen ∧ ∀ j, j < 4 → w.cell? (a.add (i * 4 + j)) = s.cells[j]? := by
        intro i hil
        obtain ⟨cs', hcs, ht⟩ := hi i (by omega)
        rw [cells31] at hcs
        obtain ⟨_, _, hat⟩ := World.cells?_some hcs
        obtain ⟨s, hs, htl⟩ := open_step ht
        refine ⟨s, htl, fun j hj => ?_⟩
        rw [← hs, ← Go.Deep.add_add]
        exact hat j hj
      have hch : ∃ f : Nat → Stp, ∀ i, i < len → (f i).tl ≤ maxLen ∧ ∀ j, j < 4 → w.cell? (a.add (i * 4 + j)) = (f i).cells[j]? := by
        refine ⟨fun i => if hil : i < len then Classical.choose (hel i hil) else ⟨0, 0, 0, none, 0, 0⟩, fun i hil => ?_⟩
        dsimp only
        rw [dif_pos hil]
        exact Classical.choose_spec (hel i hil)
      obtain ⟨f, hf⟩ := hch
      have c0 : w.cell? a = some (.int .u8 (f 0).op) := by
        have := (hf 0 (by omega)).2 0 (by omega)
        simpa [Addr.add, Stp.cells] using this
      obtain ⟨hsp, hlt⟩ := cell_spot c0
      obtain ⟨g, o, spot⟩ := a
      simp only at hsp hlt
      subst hsp
      refine ⟨g, o, cap, (List.range len).map f, by simpa using hc, by simp; omega, by simp; omega, hlt, ?_, ?_⟩
      · intro k s hk
        have hkl : k < len := by have := (List.getElem?_eq_some_iff.1 hk).1; simpa using this
        have hsk : s = f k := by
          simp [List.getElem?_range hkl] at hk
          exact hk.symm
        subst hsk
        have ea : ∀ q, (⟨g, o, none⟩ : Addr).add q = ⟨g, o + q, none⟩ := by
          intro q; unfold Addr.add; split
          · subst_vars; rfl
          · rfl
        have hq := (hf k hkl).2
        have q0 := hq 0 (by omega); have q1 := hq 1 (by omega); have q2 := hq 2 (by omega); have q3 := hq 3 (by omega)
        rw [ea] at q0 q1 q2 q3
        exact ⟨q0, q1, q2, q3⟩
      · intro s hs
        obtain ⟨i, hi', rfl⟩ := List.mem_map.1 hs
        exact (hf i (List.mem_range.1 hi')).1
end

theorem law_any (s : ByteArray) (v : Value) {H : Type} {enc : TypeId × Value → H} {w : World} {base : Nat} {sp : Nat → Bool} {held : Bool} {fuel : Nat} {x : DataW H × List MemPlace} (hT : Tabs w)
    (h : DataW.trod enc Tryd.prog w base sp held fuel 32 [v] = some x) :
    Calls Tryd.prog 4 #[.string s, v] w fun e w' => e = .returned (.bool true) ∧ Below w.heap.size w w' := by
  rcases open_steps h with ⟨A, c, hc⟩ | ⟨g, o, c, ss, hc, h0, hlc, hg, hss, htl⟩
  · simp only [List.cons.injEq, and_true] at hc
    subst hc
    exact law_empty s A c w hT
  · simp only [List.cons.injEq, and_true] at hc
    subst hc
    exact law_steps s g o c ss w hT hg hss hlc (fun y hy => by have := htl y hy; unfold maxLen at this; omega) h0

set_option maxRecDepth 100000 in
theorem chars_lifted (os : Os) (started : os.Started) (H : Type) (enc : TypeId × Value → H) :
    ReturnsInHanded {} Tryd.checked os 4 .any (fun w args => (Rows.fnCharsSpec.pre enc Tryd.prog Tryd.f4 [] false w args ∧ laidMetH Tryd.prog laidList w) ∧ sizedMet enc Tryd.prog Tryd.f4 (OpenSpec.ofChange Rows.fnCharsSpec) false w args)
      (Rows.fnCharsSpec.post enc Tryd.prog Tryd.f4 false true false false) := by
  refine returnsInHanded_of_change_and (C := Tryd.checked) (X := fun w _ => laidMetH Tryd.prog laidList w) (fun _ _ _ hh h => h.of_heap hh) own started (by kernel_rfl) Tryd.func4
    (ChangeSpec.witness_shaped (enc := enc) (C := Tryd.checked) (os := os) (X := fun w _ => laidMetH Tryd.prog laidList w) false (World.laidAll Tryd.prog os laidList) #[.string ⟨#[]⟩, .slice none 0 0] 8 (World.laidAll_os _ _ _)
      (World.shaped_of_ZipB (by kernel_rfl) (by kernel_rfl)) (by kernel_rfl) (by kernel_rfl) (by kernel_rfl)
      (by rw [MakeChecks.laidMetH_plain _ _ _ (by kernel_rfl)]; exact laidMet_laidAll _ (by kernel_rfl) (by kernel_rfl))) ?_
  intro W base args ds gs before hval0 hW hc _ hL _
  have hval : ∀ (j : Nat) t v, Tryd.f4.params[j]? = some t → args[j]? = some v → Value.okWide Tryd.prog W .any base t v := hval0
  have hW' := hW
  obtain ⟨p, q, hA0, hV, rfl, _, _⟩ := hW
  have hA : DataW.TrodAll enc Tryd.prog W 0 (fun _ => true) true Tryd.f4.params.toList args.toList ds p := hA0
  rw [Tryd.params4] at hA hval
  obtain ⟨v0, v1, d0, d1, p0, p1, rfl, rfl, rfl, h0, h1⟩ := trodAll_two hA
  obtain ⟨rfl, rfl⟩ := trodVars_none hV
  obtain ⟨s, rfl, rfl, rfl, ws⟩ := open_string Tryd.underlying9 (hval 0 9 v0 rfl rfl) h0
  have htab := tabs_of_laid hL
  have hlt : ∀ x ∈ p1, x.block < W.heap.size := fun x hx => by simpa using hW'.lt x (by simp [hx])
  obtain ⟨a1, l1, c1, rfl⟩ := okWide_slice Tryd.underlying32 (hval 1 32 v1 rfl rfl)
  have h1k := h1
  obtain ⟨fuel, hf⟩ := h1
  refine (law_any s _ htab (by simpa [Value.cells] using hf)).mono ?_
  rintro e W' ⟨rfl, bel⟩
  refine ⟨_, rfl, _, _, _, [], [] ++ p1, [], by simpa using hW', ?_, ?_, ?_, bel.frame _, fun h => by cases h⟩
  · exact trodAll_mk1 (shut_bool Tryd.underlying4 _)
  · exact trodAll_mk2 (shut_string Tryd.underlying9 ws) (Below.trod laidOut (by kernel_rfl) (of_decide_eq_true (by kernel_rfl)) h1k bel hlt)
  · rfl

theorem chars_holds : Rows.FnCharsSaid :=
  OpenClaim.holds_of_wide 4 Tryd.f4 rfl rfl rfl rfl rfl rfl rfl ⟨rfl, rfl, rfl, rfl, rfl⟩ rfl rfl rfl rfl rfl (by kernel_rfl) Tryd.func4 (by kernel_rfl)
    (of_decide_eq_true (by kernel_rfl)) (by unfold Func.isWrapper; first | (rw [if_pos (by decide +kernel)]; kernel_rfl) | (rw [if_neg (by decide +kernel)]; exact ⟨rfl, rfl⟩))
    (fun os started H enc _ => chars_lifted os started H enc)

theorem chars_card : Rows.FnCharsCardSaid :=
  Claim7.holds_tied_plain_at .later [] [.data, .pinned] true (true, "ded9e896efdc60d08a9e6a3b60537bfe80e9181a354870aaec85b3e326f96179") false chars_holds (fun _ h => by cases h) (by kernel_rfl) (fun _ h => by cases h) fnChars_row_tie rfl ⟨rfl, rfl⟩ (by kernel_rfl) rfl
    (fun f fn hf hfn => by
      obtain rfl : f = 4 := Option.some.inj ((show Tryd.prog.funcNamed "pub-hermeneut/laws.FnChars" = some 4 by kernel_rfl).symm.trans hf) |>.symm
      obtain rfl : fn = Tryd.f4 := (Option.some.inj (Tryd.func4.symm.trans hfn)).symm
      exact ⟨by kernel_rfl, fun j t ht => by
        rw [Tryd.params4] at ht
        have hm : t ∈ [9, 32] := by simpa using Array.mem_of_getElem? ht
        have hall : ([9, 32].all fun u => !Tryd.prog.wantsStandIn u) = true := by kernel_rfl
        exact (show Tryd.prog.wantsStandIn t = false by simpa using List.all_eq_true.1 hall t hm)⟩)
    (by kernel_rfl)
#print axioms chars_holds
#print axioms chars_card
end Go.Proofs.YtcakbheoibaiiaaDoor
