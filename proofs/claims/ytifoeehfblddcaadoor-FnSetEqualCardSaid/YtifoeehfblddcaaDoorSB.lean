/- interval sets: the text: some text -/
import Derived.Test.YtifoeehfblddcaaDoorS4
import Derived.Test.YtifoeehfblddcaaDoorVS
import Derived.Lib.ItoaLen
import Derived.Laws.IdiomStrings
namespace Go.Proofs.YtifoeehfblddcaaDoor
open Go.RowKit Go.Sort

/-- the library's table of powers -/
def PwTab (w : World) : Prop := Lib.TabIs Tryd.prog w "internal/strconv.uint64pow10" .u64 Lib.pow10Tab

theorem below_grow (w : World) (q : Nat) (os : Array Obj) : Below w.heap.size w (grow (w.drewN q) os) :=
  ⟨rfl, rfl, rfl, by simp [grow], fun i hi => by
    show (w.heap ++ os)[i]? = w.heap[i]?
    rw [Array.getElem?_append_left hi]⟩

theorem PwTab.keep {w w' : World} (h : PwTab w) (hb : Below w.heap.size w w') : PwTab w' := by
  have hg : Tryd.prog.globalNamed "internal/strconv.uint64pow10" = some 1 := by kernel_rfl
  unfold PwTab Lib.TabIs World.var? at h ⊢
  rw [hg] at h ⊢
  simp only [Option.bind_some] at h ⊢
  have hlt : 1 < w.heap.size := by
    rcases Nat.lt_or_ge 1 w.heap.size with h' | h'
    · exact h'
    · rw [Array.getElem?_eq_none h'] at h; simp at h
  rw [hb.block 1 hlt]
  exact h

theorem itoa_int (z : Int) (w : World) (h1 : -1000 ≤ z) (h2 : z ≤ 1000) (hT : PwTab w) :
    Calls Tryd.prog 60 #[.int .i64 z] w fun e w' => (∃ s, e = .returned (.string s) ∧ s.size ≤ 30) ∧ Below w.heap.size w w' := by
  refine (Any.strconv_Itoa Tryd.laysM171 z (by omega) (by omega) w hT).mono ?_
  rintro e w' ⟨rfl, k, os, rfl⟩
  refine ⟨⟨_, rfl, ?_⟩, below_grow _ _ _⟩
  have := Lib.itoa_length_le z (by omega) (by omega)
  show (Lib.itoa z).toArray.size ≤ 30
  simp; omega

def strs (xs : List ByteArray) : List Value := xs.map fun s => .string s

theorem join_some (A : Value) (base : Nat) (xs : List ByteArray) (w : World) (hown : w.ownsRow base 9 1 A xs.length (strs xs)) (hn : xs.length ≤ 1000) (hs : ∀ x ∈ xs, x.size ≤ 100) :
    Calls Tryd.prog 61 #[A, .string ⟨#[44, 32]⟩] w fun e w' => (∃ s, e = .returned (.string s) ∧ s.size ≤ 1000000) ∧ Below w.heap.size w w' := by
  have hl : (strs xs).length = xs.length := by simp [strs]
  rcases hown.2 with ⟨rfl, h0⟩ | ⟨g, cap, cur, rfl, hb, hg, hcap, hmx, hsz, htk⟩
  · rw [h0] at *
    refine (Any.strings_Join_none Tryd.lays156 Tryd.Builder_Extra_156 none 0 _ w).mono ?_
    rintro e w' ⟨rfl, rfl⟩
    exact ⟨⟨_, rfl, by decide⟩, Below.refl _ _⟩
  · by_cases h0 : xs.length = 0
    · rw [h0] at *
      refine (Any.strings_Join_none Tryd.lays156 Tryd.Builder_Extra_156 (some ⟨g, 0, none⟩) cap _ w).mono ?_
      rintro e w' ⟨rfl, rfl⟩
      exact ⟨⟨_, rfl, by decide⟩, Below.refl _ _⟩
    · have hlens : ∀ ys : List ByteArray, (∀ x ∈ ys, x.size ≤ 100) → Lib.lens (ys.map (·.data.toList)) ≤ 100 * ys.length := by
        intro ys
        induction ys with
        | nil => intro _; simp [Lib.lens]
        | cons y r ih =>
          intro h
          have h1 := h y (by simp)
          have h2 := ih (fun x hx => h x (by simp [hx]))
          have h3 : y.data.toList.length = y.size := by simp
          simp only [Lib.lens, List.map_cons, List.sum_cons, List.length_cons] at *
          omega
      have hjl : (Lib.join (xs.map (·.data.toList)) (⟨#[44, 32]⟩ : ByteArray).data.toList).length ≤ 200000 := by
        cases xs with
        | nil => simp at h0
        | cons x r =>
          rw [List.map_cons, Lib.join_length]
          have := hlens (x :: r) hs
          rw [List.map_cons] at this
          simp at *
          omega
      refine (Any.strings_Join Tryd.lays156 Tryd.Builder_Extra_156 g 0 cap xs ⟨#[44, 32]⟩ w ?_ (Array.getElem?_eq_some_iff.1 hg).1 (by omega) hcap (by omega)).mono ?_
      · intro j x hx
        have hj := (List.getElem?_eq_some_iff.1 hx).1
        have := hown.cellAt j (by simp; exact hj)
        rw [Nat.zero_add]
        refine this.trans ?_
        simp [strs, hx]
      · rintro e w' ⟨rfl, hb⟩
        refine ⟨⟨_, rfl, ?_⟩, hb⟩
        refine Nat.le_trans (Nat.le_of_eq ?_) (Nat.le_trans hjl (by decide))
        exact List.size_toArray

theorem info9 : (Tryd.prog.info? 9).map (fun i => (i.zero, i.size, i.bytes)) = some (some (.string ⟨#[]⟩), 1, 16) := by kernel_rfl

theorem cat_ok (W : World) (x y : ByteArray) (h : x.size + y.size ≤ 2000000) : (Op.stringOp .add x y).run Tryd.prog W = .ok (.string (x ++ y)) W := run_string_add_sum W x y (by omega)

theorem str_new (w : World) (s : ByteArray) : ∀ j u, [Value.string s][j]? = some u → (w.alloc (.cells #[.string s] 9)).cell? ((⟨w.heap.size, 0, none⟩ : Addr).add j) = some u := World.news_of_block (heap_alloc_new w #[.string s] 9)

theorem own_ne {w : World} {base : Nat} {e : TypeId} {size : Nat} {v : Value} {n : Nat} {xs : List Value} {k : Nat} (h : w.ownsRow base e size v n xs) (hk : ∃ c t, w.heap[k]? = some (.cells c t (0, 0)) ∧ t ≠ e) : v.ownBlock ≠ some k := by
  intro he
  obtain ⟨c, t, hc, ht⟩ := hk
  rcases h.2 with ⟨rfl, _⟩ | ⟨g, cap, cur, rfl, _, hg, _⟩
  · simp [Value.ownBlock] at he
  · simp [Value.ownBlock] at he
    subst he
    rw [hc] at hg
    simp only [Option.some.injEq, Obj.cells.injEq] at hg
    exact ht hg.2.1
theorem pair_blk {w : World} {k : Nat} {c : Array Value} (h : w.heap[k]? = some (.cells c 92 (0, 0))) : ∃ c t, w.heap[k]? = some (.cells c t (0, 0)) ∧ t ≠ 9 := ⟨c, 92, h, by decide⟩
theorem size_le0 (w : World) (o : Obj) : w.heap.size ≤ (w.alloc o).heap.size := by simp
theorem size_le (w : World) (o : Obj) : w.heap.size ≤ (w.alloc o).heap.size := by simp
theorem size_eq (w : World) (o : Obj) : (w.alloc o).heap.size = w.heap.size + 1 := by simp
theorem oneCell_str (s : ByteArray) : ∀ u ∈ [Value.string s], u.oneCell' = true := by
  intro u hu
  simp only [List.mem_cons, List.not_mem_nil, or_false] at hu
  subst hu; rfl
theorem str_bound {xs : List ByteArray} (h : ∀ x ∈ xs, x.size ≤ 100) {s : ByteArray} (hs : s.size ≤ 100) : ∀ x ∈ xs ++ [s], x.size ≤ 100 := by
  intro x hx
  rcases List.mem_append.1 hx with h1 | h1
  · exact h x h1
  · simp only [List.mem_cons, List.not_mem_nil, or_false] at h1
    subst h1; exact hs

set_option maxRecDepth 100000 in
set_option maxHeartbeats 1600000 in
theorem index_string {lo : Nat} {w : World} {b : Nat} {v : Value} {ivs : List Iv} (h : Iset lo w b v ivs) (hi : Inb ivs) (hne : ivs ≠ []) (hT : PwTab w) :
    Calls Tryd.prog 94 #[.pointer (some ⟨b, 0, none⟩)] w fun e w' => (∃ s, e = .returned (.string s)) ∧ Below w.heap.size w w' := by
  have hc := h.cell.1
  have hl := hi.len
  have hbl := h.lt
  rcases h.form with ⟨h0, _⟩ | ⟨hp, g, c, rfl, _, hgl, _, hcap, hmx, hcs⟩
  · exact absurd h0 hne
  · have HCS := hid hcs
    have HIN := hid hi
    have HT := hid hT
    clear h hcs hi hne hT
    generalize hN : ivs.length = N at *
    have HN := hid hN
    clear hN
    unfold maxLen at hmx
    obtain ⟨i0, hi0, hz0, hz1, hz2⟩ := info_parts info9
    obtain ⟨w2, hmk, hown, hgr⟩ := run_make_own (P := Tryd.prog) w w.heap.size 101 9 i0 _ 1 Tryd.underlying101 hi0 hz0 hz1 .i64 .i64 0 (by rw [hz2]; omega) (by unfold maxLen; omega) (Nat.le_refl _)
    have HB2 := hid (show Below w.heap.size w w2 from ⟨hgr.os, hgr.tape, hgr.output, hgr.size, fun i hi => hgr.block i hi (by simp)⟩)
    have HOWN := hid hown
    clear hown hgr
    have hmk2 : (Instr.makeSlice 101 (.int .i64 0) (.int .i64 0)).run Tryd.prog w = _ := hmk
    have hc2 := (HB2.out.cell (p := ⟨b, 0, none⟩) hbl).trans hc
    clear hmk
    go_enter Tryd.func94, Tryd.ntmps94
    go_wp2_with fail
    go_loopg [3, 4] N (fun k s3 s4 wr => ∃ j : Nat, j + k = N ∧ s4 = .int .i64 j ∧ ∃ xs, xs.length = j ∧ wr.ownsRow w.heap.size 9 1 s3 xs.length (strs xs) ∧ Below w.heap.size w wr ∧ ∀ x ∈ xs, x.size ≤ 100)
    case atStart => exact ⟨0, by omega, rfl, [], rfl, HOWN.out, HB2.out, by simp⟩
    case round =>
      obtain ⟨j, hj, rfl, xs, hxl, hown, hb, hxs⟩ := hrel
      have hcr := (hb.cell (p := ⟨b, 0, none⟩) hbl).trans hc
      by_cases hlt : j < N
      · obtain ⟨k0, k1⟩ := HCS.out j hlt
        have r0 := (hb.cell (p := ⟨g, j * 2, none⟩) hgl).trans k0
        have r1 := (hb.cell (p := ⟨g, j * 2 + 1, none⟩) hgl).trans k1
        obtain ⟨b1, b2, b3⟩ := HIN.out.at_ (k := j) (by rw [HN.out]; exact hlt)
        generalize ivAt ivs j = p at *
        obtain ⟨x, y⟩ := p
        simp only at r0 r1 b1 b2 b3
        have ba := bl1 wr (.cells #[.int .i64 x, .int .i64 y] 92)
        obtain ⟨q0, q1⟩ := pair_new wr x y 92
        have HQ0 := hid (heap_alloc_new wr #[.int .i64 x, .int .i64 y] 92)
        have HB := hid (hb.trans (ba.mono hb.size))
        have HO := hid (own_below hown ba)
        have HX := hid hxs
        have HXL := hid hxl
        have hqs : wr.heap.size < (wr.alloc (.cells #[.int .i64 x, .int .i64 y] 92)).heap.size := by simp
        clear k0 k1 hb hown hxs hxl ba
        go_upto_region 6 with fail
        generalize wr.alloc (.cells #[.int .i64 x, .int .i64 y] 92) = wa at *
        generalize wr.heap.size = qs at *
        clear r0 r1 hcr
        have HIT := hid (fun z (h1 : -1000 ≤ z) (h2 : z ≤ 1000) W (hb : Below wa.heap.size wa W) => itoa_int z W h1 h2 ((HT.out.keep HB.out).keep hb))
        by_cases c1 : y = x + 1
        · subst c1
          by_cases c2 : x = -1
          · subst c2
            have HSZ := hid (show (⟨#[60, 69, 79, 70, 62]⟩ : ByteArray).size ≤ 100 by decide)
            go_wp2_with (at_builtin; refine wpList_append_own_at _ rfl _ _ 101 rfl w.heap.size 9 i0 _ 1 16 Tryd.underlying101 hi0 hz0 hz1 hz2 rfl (by decide) _ _ _ rfl (HO.out.alloc _) ⟨wa.heap.size, 0, none⟩ 1 1 [.string ⟨#[60, 69, 79, 70, 62]⟩] rfl rfl ?c1 ?c2 ?c3 ?c4 ?c5 ?_)
            case c1 => exact str_new wa ⟨#[60, 69, 79, 70, 62]⟩
            case c2 => intro u hu; simp only [List.mem_cons, List.not_mem_nil, or_false] at hu; subst hu; rfl
            case c3 => have := HXL.out; unfold maxLen; omega
            case c4 => have := HXL.out; omega
            case c5 => have := HB.out.size; simp; omega
            intro v' w5 hown5 hgrow5 _ _
            have HB5 := hid ((HB.out.trans ((bl1 wa _).mono HB.out.size)).grown hgrow5 (by have := HB.out.size; simp; omega) (fun k e => (HO.out.lt k e).1))
            have HO5 := hid hown5
            clear hown5 hgrow5
            go_wp2_with fail
            go_roundg (gk - 1)
            case measure => omega
            case rel => exact ⟨j + 1, by omega, by go_num, xs ++ [⟨#[60, 69, 79, 70, 62]⟩], by rw [List.length_append, HXL.out]; rfl, by simpa [strs] using HO5.out, HB5.out, str_bound HX.out (HSZ.out)⟩
          · have hn1 : (x == -1) = false := beq_false_of_ne c2
            go_wp2_with (first
              | (go_at_call 60; refine (HIT.out x (by omega) (by omega) _ (Below.refl _ _)).mono ?_; rintro e w3 ⟨⟨st, rfl, hst⟩, hb3⟩; have HB3 := hid hb3; clear hb3)
              | (at_builtin; refine wpList_append_own_at _ rfl _ _ 101 rfl w.heap.size 9 i0 _ 1 16 Tryd.underlying101 hi0 hz0 hz1 hz2 rfl (by decide) _ _ _ rfl ((own_below HO.out HB3.out).alloc _) ⟨w3.heap.size, 0, none⟩ 1 1 [.string st] rfl rfl ?c1 ?c2 ?c3 ?c4 ?c5 ?_))
            case c1 => exact str_new w3 st
            case c2 => intro u hu; simp only [List.mem_cons, List.not_mem_nil, or_false] at hu; subst hu; rfl
            case c3 => have := HXL.out; unfold maxLen; omega
            case c4 => have := HXL.out; omega
            case c5 => have := HB.out.size; have := HB3.out.size; simp; omega
            intro v' w5 hown5 hgrow5 _ _
            have HB5 := hid (((HB.out.trans (HB3.out.mono HB.out.size)).trans ((bl1 w3 _).mono (Nat.le_trans HB.out.size HB3.out.size))).grown hgrow5 (by have := HB.out.size; have := HB3.out.size; simp; omega) (fun k e => (HO.out.lt k e).1))
            have HO5 := hid hown5
            clear hown5 hgrow5
            go_wp2_with fail
            go_roundg (gk - 1)
            case measure => omega
            case rel => exact ⟨j + 1, by omega, by go_num, xs ++ [st], by rw [List.length_append, HXL.out]; rfl, by simpa [strs] using HO5.out, HB5.out, str_bound HX.out (Nat.le_trans hst (by decide))⟩
        · have hn1 : (y == x + 1) = false := beq_false_of_ne c1
          have hq : qs < wa.heap.size := hqs
          have HITX := hid (fun W (hb : Below wa.heap.size wa W) => HIT.out x (by omega) (by omega) W hb)
          have HITY := hid (fun W (hb : Below wa.heap.size wa W) => HIT.out (y - 1) (by omega) (by omega) W hb)
          have HC1 := hid (fun (s1 : ByteArray) (h : s1.size ≤ 30) W => cat_ok W s1 ⟨#[46, 46]⟩ (by have : (⟨#[46, 46]⟩ : ByteArray).size = 2 := rfl; omega))
          have HC2 := hid (fun (s1 s2 : ByteArray) (h : s1.size ≤ 30) (h2 : s2.size ≤ 30) W => cat_ok W (s1 ++ ⟨#[46, 46]⟩) s2 (by have : (⟨#[46, 46]⟩ : ByteArray).size = 2 := rfl; rw [ByteArray.size_append]; omega))
          have HC3 := hid (fun (s1 s2 : ByteArray) (h : s1.size ≤ 30) (h2 : s2.size ≤ 30) => (show (s1 ++ ⟨#[46, 46]⟩ ++ s2).size ≤ 100 from by have : (⟨#[46, 46]⟩ : ByteArray).size = 2 := rfl; rw [ByteArray.size_append, ByteArray.size_append]; omega))
          have HS1 := hid (show xs.length + 1 ≤ maxLen by have := HXL.out; unfold maxLen; omega)
          have HS2 := hid (show (xs.length + 1) * 16 ≤ 140737488355328 by have := HXL.out; omega)
          have hnb : u3.ownBlock ≠ some qs := own_ne HO.out (pair_blk HQ0.out)
          have hwl : w.heap.size ≤ wa.heap.size := HB.out.size
          have HNB := hid (show (some qs : Option Nat) ≠ u3.ownBlock from fun e => hnb e.symm)
          clear hnb
          have hwr : IntKind.i64.wrap (y - 1) = y - 1 := by rw [IntKind.wrap_i64]; omega
          go_wp2_with fail
          go_region_held3 (fun W => W.cell? ⟨qs, 0, none⟩ = some (.int .i64 x) ∧ W.cell? ⟨qs, 1, none⟩ = some (.int .i64 y))
            (first
              | (go_split_ands; refine ⟨?_, ?_⟩ <;> (first | assumption | (rw [hgrow5.cell_far _ hq3 HNB.out]; assumption)))
              | (go_split_ands; refine ⟨?_, ?_⟩ <;> (first | assumption | (rw [hb2.cell hq1]; assumption)))
              | (go_split_ands; refine ⟨?_, ?_⟩ <;> (first | assumption | (rw [hb1.cell hq]; assumption)))
              | go_keep)
            (first
              | (go_at_call_of 60 (Value.int IntKind.i64 x); refine (HITX.out _ ((Below.refl _ _).drew)).mono ?_; rintro e w1 ⟨⟨s1, rfl, hs1⟩, hb1⟩; have hq1 : qs < w1.heap.size := Nat.lt_of_lt_of_le hq hb1.size; have hcat1 := HC1.out s1 hs1; have hbw1 : Below wa.heap.size wa w1 := ((Below.refl wa.heap.size wa).drew).trans (show Below wa.heap.size wa.drew w1 from hb1))
              | (go_at_call 60; with_reducible refine (HITY.out _ hbw1).mono ?_; rintro e w2 ⟨⟨s2, rfl, hs2⟩, hb2⟩; have hq2 : qs < w2.heap.size := Nat.lt_of_lt_of_le hq1 hb2.size; have hcat2 := HC2.out s1 s2 hs1 hs2)
              | (refine step_append_lies _ (by rfl) _ _ _ (by rfl) w.heap.size 9 i0 _ 1 16 Tryd.underlying101 hi0 hz0 hz1 hz2 rfl Nat.one_pos u3 xs.length (strs xs) (by rfl) ((own_below (own_below (w := wa.drew) HO.out.drew hb1) hb2).alloc _) ⟨w2.heap.size, 0, none⟩ 1 1 [.string (s1 ++ ⟨#[46, 46]⟩ ++ s2)] (by rfl) (by rfl) (str_new w2 _) (oneCell_str _) Nat.one_pos HS1.out HS2.out (Nat.le_trans (Nat.le_trans hwl (Nat.le_trans hb1.size hb2.size)) (size_le w2 _)) (w2.heap.size + 1) (size_eq w2 _) ?_
                 intro g5 cap5 w5 hown5 hgrow5 hat5 hlt5
                 have hq3 : qs < (w2.alloc (.cells #[.string (s1 ++ ⟨#[46, 46]⟩ ++ s2)] 9)).heap.size := Nat.lt_of_lt_of_le hq2 (size_le0 w2 _))
              )
          have hb1' := hbw1
          have hs1' := hb1'.size
          have hs2' := hb2.size
          have HB5 := hid ((((HB.out.trans (hb1'.mono hwl)).trans (hb2.mono (Nat.le_trans hwl hs1'))).trans ((bl1 w2 (.cells #[.string (s1 ++ ⟨#[46, 46]⟩ ++ s2)] 9)).mono (Nat.le_trans hwl (Nat.le_trans hs1' hs2')))).grown hgrow5 (Nat.le_trans (Nat.le_trans hwl (Nat.le_trans hs1' hs2')) (by simp)) (fun k e => (HO.out.lt k e).1))
          have HO5 := hid hown5
          have HS5 := hid (HC3.out s1 s2 hs1 hs2)
          clear hown5 hgrow5 hb1 hb2 hat5 hlt5 hwr hcat1 hcat2 hb1' hbw1
          go_wp2_with fail
          go_roundg (gk - 1)
          case measure => omega
          case rel => exact ⟨j + 1, by omega, by go_num, xs ++ [s1 ++ ⟨#[46, 46]⟩ ++ s2], by rw [List.length_append, HXL.out]; rfl, by simpa [strs] using HO5.out, HB5.out, str_bound HX.out HS5.out⟩
      · have hjN : j = N := by omega
        subst hjN
        obtain ⟨A3, c3, rfl⟩ := slice_of hown
        have HX := hid hxs
        have HB := hid hb
        by_cases c1 : 1 < j
        · have HJ := hid (fun W (hb : Below wr.heap.size wr W) => join_some _ w.heap.size xs W (own_below hown hb) (by omega) hxs)
          have HK1 := hid (fun (s : ByteArray) (h : s.size ≤ 1000000) W => cat_ok W ⟨#[123]⟩ s (by have : (⟨#[123]⟩ : ByteArray).size = 1 := rfl; omega))
          have HK2 := hid (fun (s : ByteArray) (h : s.size ≤ 1000000) W => cat_ok W (⟨#[123]⟩ ++ s) ⟨#[125]⟩ (by have : (⟨#[123]⟩ : ByteArray).size = 1 := rfl; have : (⟨#[125]⟩ : ByteArray).size = 1 := rfl; rw [ByteArray.size_append]; omega))
          rw [hxl] at HJ
          have c1' : (1 : Int) < (j : Int) := by omega
          clear hown hxs hb
          rw [hxl]
          go_wp2_with (go_at_call 61; refine (HJ.out _ (Below.refl _ _)).mono ?_; rintro e w3 ⟨⟨s, rfl, hs⟩, hb3⟩; have k1 := HK1.out s hs; have k2 := HK2.out s hs)
          go_ret
          exact ⟨⟨_, rfl⟩, HB.out.trans (hb3.mono HB.out.size)⟩
        · have hj1 : j = 1 := by omega
          subst hj1
          obtain ⟨g3, cap3, hv, _, hg3⟩ := hown.form (by omega)
          simp only [Value.slice.injEq] at hv
          obtain ⟨rfl, _, rfl⟩ := hv
          obtain ⟨s, rfl⟩ : ∃ s, xs = [s] := List.length_eq_one_iff.1 hxl
          have c0 := hown.cellAt 0 (by simp)
          have c0' : wr.cell? ⟨g3, 0, none⟩ = some (.string s) := c0
          have hcap3 : 1 ≤ c3 := by
            rcases hown.2 with ⟨h, _⟩ | ⟨_, _, _, h, _, _, h2, _⟩
            · simp at h
            · simp only [Value.slice.injEq] at h
              have := h.2.2
              simp at h2
              omega
          clear c0 hown hxs hb hxl
          go_wp2_with fail
          go_ret
          exact ⟨⟨_, rfl⟩, HB.out⟩

theorem nenil101 (W : World) : (binOp .neq 101 (.slice none 0 0) (.slice none 0 0)).run Tryd.prog W = .ok (.bool false) W := run_neq_slice_nil_any W 101 9 none 0 0 0 0 Tryd.underlying101

set_option maxRecDepth 100000 in
set_option maxHeartbeats 400000 in
theorem verbose_any {lo : Nat} {w : World} {b : Nat} {v : Value} {ivs : List Iv} (h : Iset lo w b v ivs) (hi : Inb ivs) (hT : PwTab w) :
    Calls Tryd.prog 85 #[.pointer (some ⟨b, 0, none⟩), .slice none 0 0, .slice none 0 0, .bool false] w fun e w' => (∃ s, e = .returned (.string s)) ∧ Below w.heap.size w w' := by
  have hc := h.cell.1
  have q2 := nenil101
  rcases h.form with ⟨h0, rfl⟩ | ⟨hp, g, c, rfl, _⟩
  · have q := eqnil_yes
    clear h hi hT
    go_enter Tryd.func85, Tryd.ntmps85
    go_wp2_with fail
    go_ret
    exact ⟨⟨_, rfl⟩, Below.refl _ _⟩
  · have q := fun W => eqnil_no W ⟨g, 0, none⟩ ivs.length c
    have HS := hid (index_string h hi (List.length_pos_iff.1 hp) hT)
    clear h hi hT
    generalize ivs.length = N at *
    go_enter Tryd.func85, Tryd.ntmps85
    go_wp2_with (go_at_call 94; refine HS.out.mono ?_; rintro e w2 ⟨⟨s, rfl⟩, hb⟩)
    go_ret
    exact ⟨⟨_, rfl⟩, hb⟩

set_option maxHeartbeats 400000 in
theorem string_any {lo : Nat} {w : World} {b : Nat} {v : Value} {ivs : List Iv} (h : Iset lo w b v ivs) (hi : Inb ivs) (hT : PwTab w) :
    Calls Tryd.prog 73 #[.pointer (some ⟨b, 0, none⟩)] w fun e w' => (∃ s, e = .returned (.string s)) ∧ Below w.heap.size w w' := by
  have HS := hid (verbose_any h hi hT)
  clear h hi hT
  go_enter Tryd.func73, Tryd.ntmps73
  go_wp2_with (go_at_call 85; refine HS.out.mono ?_; rintro e w2 ⟨⟨s, rfl⟩, hb⟩)
  go_ret
  exact ⟨⟨_, rfl⟩, hb⟩

set_option maxHeartbeats 400000 in
theorem ztext_any {lo : Nat} {w : World} {b : Nat} {v : Value} {ivs : List Iv} (h : Iset lo w b v ivs) (hi : Inb ivs) (hT : PwTab w) :
    Calls Tryd.prog 50 #[.agg #[.pointer (some ⟨b, 0, none⟩)]] w fun e w' => (∃ s, e = .returned (.string s)) ∧ Below w.heap.size w w' := by
  have H := hid (fun W (hb : Below w.heap.size w W) => string_any (h.keep hb) hi (hT.keep hb))
  have hB := fun o => hid (bl1 w o)
  clear h hi hT
  go_enter Tryd.func50, Tryd.ntmps50
  go_wp2_with (go_at_call 73; refine (H.out _ (bl1 w _)).mono ?_; rintro e w2 ⟨⟨s, rfl⟩, hb⟩)
  go_ret
  exact ⟨⟨_, rfl⟩, bl (hB _).out hb⟩

end Go.Proofs.YtifoeehfblddcaaDoor
