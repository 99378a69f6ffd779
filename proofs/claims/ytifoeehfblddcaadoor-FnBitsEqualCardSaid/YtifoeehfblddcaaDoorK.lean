/- the bit set's text: some text (the walk) -/
import Derived.Test.YtifoeehfblddcaaDoorJ
import Derived.Deep.AppendLies
import Derived.Laws.IdiomStrings
namespace Go.Proofs.YtifoeehfblddcaaDoor
open Go.RowKit

theorem own_below {w w' : World} {base : Nat} {e : TypeId} {size : Nat} {v : Value} {n : Nat} {xs : List Value} (h : w.ownsRow base e size v n xs) (hb : Below w.heap.size w w') : w'.ownsRow base e size v n xs :=
  h.kept (show w.grownBy w' none from ⟨hb.os, hb.tape, hb.output, hb.size, fun i hi _ => hb.block i hi⟩) (by cases v.ownBlock <;> simp)

theorem info9 : (Tryd.prog.info? 9).map (fun i => (i.zero, i.size, i.bytes)) = some (some (.string ⟨#[]⟩), 1, 16) := by kernel_rfl

theorem itoa_int (z : Int) (w : World) (hz : 0 ≤ z ∧ z ≤ 1000) (hT : Tabs w) :
    Calls Tryd.prog 60 #[.int .i64 z] w fun e w' => (∃ s, e = .returned (.string s) ∧ s.size ≤ 30) ∧ Below w.heap.size w w' := by
  obtain ⟨n, rfl⟩ : ∃ n : Nat, z = n := ⟨z.toNat, by omega⟩
  exact itoa_any n w (by omega) hT

def strs (xs : List ByteArray) : List Value := xs.map fun s => .string s

theorem join_some (A : Value) (base : Nat) (xs : List ByteArray) (w : World) (hown : w.ownsRow base 9 1 A xs.length (strs xs)) (hn : xs.length ≤ 1000) (hs : ∀ x ∈ xs, x.size ≤ 30) :
    Calls Tryd.prog 61 #[A, .string ⟨#[44, 32]⟩] w fun e w' => (∃ s, e = .returned (.string s) ∧ s.size ≤ 1000000) ∧ Below w.heap.size w w' := by
  have hl : (strs xs).length = xs.length := by simp [strs]
  rcases hown.2 with ⟨rfl, h0⟩ | ⟨g, cap, cur, rfl, hb, hg, hcap, hmx, hsz, htk⟩
  · rw [h0] at *
    refine (Any.strings_Join_none Tryd.lays156 Tryd.Builder_Extra_156 none 0 _ w).mono ?_
    rintro e w' ⟨rfl, rfl⟩
    exact ⟨⟨_, rfl, by decide⟩, Below.refl _ _⟩
  · by_cases h0 : xs.length = 0
    · rw [h0] at *
      refine (Any.strings_Join_none Tryd.lays156 Tryd.Builder_Extra_156 (some ⟨g, 0, none⟩) cap _ w).mono ?_
      rintro e w' ⟨rfl, rfl⟩
      exact ⟨⟨_, rfl, by decide⟩, Below.refl _ _⟩
    · have hlens : ∀ ys : List ByteArray, (∀ x ∈ ys, x.size ≤ 30) → Lib.lens (ys.map (·.data.toList)) ≤ 30 * ys.length := by
        intro ys
        induction ys with
        | nil => intro _; simp [Lib.lens]
        | cons y r ih =>
          intro h
          have h1 := h y (by simp)
          have h2 := ih (fun x hx => h x (by simp [hx]))
          have h3 : y.data.toList.length = y.size := by simp
          simp only [Lib.lens, List.map_cons, List.sum_cons, List.length_cons] at *
          omega
      have hjl : (Lib.join (xs.map (·.data.toList)) (⟨#[44, 32]⟩ : ByteArray).data.toList).length ≤ 100000 := by
        cases xs with
        | nil => simp at h0
        | cons x r =>
          rw [List.map_cons, Lib.join_length]
          have := hlens (x :: r) hs
          rw [List.map_cons] at this
          simp at *
          omega
      refine (Any.strings_Join Tryd.lays156 Tryd.Builder_Extra_156 g 0 cap xs ⟨#[44, 32]⟩ w ?_ (Array.getElem?_eq_some_iff.1 hg).1 (by omega) hcap (by omega)).mono ?_
      · intro j x hx
        have hj := (List.getElem?_eq_some_iff.1 hx).1
        have := hown.cellAt j (by simp; exact hj)
        rw [Nat.zero_add]
        refine this.trans ?_
        simp [strs, hx]
      · rintro e w' ⟨rfl, hb⟩
        refine ⟨⟨_, rfl, ?_⟩, hb⟩
        refine Nat.le_trans (Nat.le_of_eq ?_) (Nat.le_trans hjl (by decide))
        exact List.size_toArray

theorem cell_new_string (w : World) (s : ByteArray) (t : TypeId) (j : Nat) (u : Value) (h : [Value.string s][j]? = some u) : (w.alloc (.cells #[.string s] t)).cell? ((⟨w.heap.size, 0, none⟩ : Addr).add j) = some u := by
  have hj : j = 0 := by
    rcases Nat.eq_zero_or_pos j with h0 | h0
    · exact h0
    · rw [List.getElem?_eq_none (by simp; omega)] at h; cases h
  subst hj
  simp only [List.getElem?_cons_zero, Option.some.injEq] at h
  subst h
  have e : (⟨w.heap.size, 0, none⟩ : Addr).add 0 = ⟨w.heap.size, 0, none⟩ := by simp [Addr.add]
  rw [e]
  simp [World.cell?_alloc_new]

set_option maxRecDepth 100000 in
set_option maxHeartbeats 400000 in
theorem string_any {lo hi : Nat} {w : World} {b : Nat} {ws : List Nat} (h : Bset lo hi w b ws) (hT : Tabs w) :
    Calls Tryd.prog 36 #[.pointer (some ⟨b, 0, none⟩)] w fun e w' => (∃ s, e = .returned (.string s)) ∧ Below w.heap.size w w' := by
  obtain ⟨P, hP1, hP2⟩ : ∃ P : Nat → Nat, (∀ x, P x ≤ 64) ∧ (∀ x, x ≠ 0 → x < 18446744073709551616 → x &&& (18446744073709551615 ^^^ 2 ^ Lib.ctz 64 x) = x - 2 ^ Lib.ctz 64 x ∧ 2 ^ Lib.ctz 64 x ≤ x ∧ P (x - 2 ^ Lib.ctz 64 x) + 1 = P x) :=
    ⟨pop 64, pop_le 64, fun x h0 hx => lsb_off x h0 hx⟩
  have HP1 := hid hP1
  have HP2 := hid hP2
  clear hP1 hP2
  obtain ⟨A, d, c, hc, hcl, hc4, hA, hcells⟩ := h.read
  have hwd := h.wd
  have hlen := h.len
  have h0 : 0 < w.heap.size := by have := h.ble; have := h.blt; have := h.top; omega
  have hblt : b < w.heap.size := by have := h.blt; have := h.top; omega
  have hdlt : 0 < ws.length → d < w.heap.size := by
    intro hp
    have := hcells 0 hp
    exact World.block_lt_of_cell? _ _ this
  have HL := hid (length_any h)
  have hpl := popS_le ws ws.length
  obtain ⟨i, hi, hzz⟩ := Option.map_eq_some_iff.1 info9
  simp only [Prod.mk.injEq] at hzz
  obtain ⟨hz0, hz1, hz2⟩ := hzz
  generalize hN : ws.length = N at *
  generalize popS ws N = total at *
  obtain ⟨w2, hmk, hown, hgr⟩ := run_make_own (P := Tryd.prog) w w.heap.size 101 9 i _ 1 Tryd.underlying101 hi hz0 hz1 .i64 .i64 total (by rw [hz2]; omega) (by unfold maxLen; omega) (Nat.le_refl _)
  have hb2 : Below w.heap.size w w2 := ⟨hgr.os, hgr.tape, hgr.output, hgr.size, fun i hi => hgr.block i hi (by simp)⟩
  have hc2 := (hb2.cell (p := ⟨b, 0, none⟩) hblt).trans hc
  have HC := hid hcells
  have HW := hid hwd
  have HT := hid hT
  have HOWN := hid hown
  have HB2 := hid hb2
  have HD := hid hdlt
  have HA := hid hA
  clear hN hcells hwd h hT hown hgr hb2 hdlt
  go_enter Tryd.func36, Tryd.ntmps36
  go_wp2_with (go_at_call 35; refine HL.out.mono ?_; rintro e w' ⟨rfl, rfl⟩)
  go_loopg [3, 15] N (fun k s3 s15 wr => ∃ j : Nat, j + k = N ∧ s15 = .int .i64 j ∧ ∃ xs, wr.ownsRow w.heap.size 9 1 s3 xs.length (strs xs) ∧ Below w.heap.size w wr ∧ xs.length ≤ 64 * j ∧ ∀ x ∈ xs, x.size ≤ 30)
  case atStart => exact ⟨0, by omega, rfl, [], HOWN.out, HB2.out, by simp, by simp⟩
  case round =>
    obtain ⟨j, hj, rfl, xs, hox, hbr, hxl, hxs⟩ := hrel
    have HOX := hid hox
    have HBR := hid hbr
    have HXS := hid hxs
    clear hox hbr hxs
    by_cases hlt : j < N
    · obtain rfl := hA (by omega)
      have r0 := (HBR.out.cell (p := ⟨d, j, none⟩) (HD.out (by omega))).trans (HC.out j hlt)
      have hx := HW.out j
      generalize ws.getD j 0 = x at *
      go_wp2_with fail
      have hxp := HP1.out x
      have hj4 : j < 4 := by omega
      go_loopg [3, 5] x (fun k s3 s5 wi => s5 = .int .u64 (k : Nat) ∧ k < 18446744073709551616 ∧ ∃ ys, wi.ownsRow w.heap.size 9 1 s3 ys.length (strs ys) ∧ Below w.heap.size w wi ∧ ys.length + P k ≤ 64 * (j + 1) ∧ ∀ x ∈ ys, x.size ≤ 30)
      case atStart => exact ⟨rfl, hx, xs, HOX.out, HBR.out, by omega, HXS.out⟩
      case round =>
        obtain ⟨rfl, hk, ys, hoy, hbi, hyl, hys⟩ := hrel
        have HOY := hid hoy
        have HBI := hid hbi
        have HYS := hid hys
        clear hoy hbi hys
        by_cases hz : gk = 0
        · subst hz
          go_wp2_with fail
          go_roundg (N - j - 1)
          case measure => omega
          case rel => exact ⟨j + 1, by omega, by go_num, ys, HOY.out, HBI.out, by omega, HYS.out⟩
        · have hne : (((gk : Nat) : Int) == 0) = false := beq_false_of_ne (fun e => hz (Int.ofNat_inj.1 e))
          obtain ⟨l1, l2, l3⟩ := HP2.out gk hz hk
          have hcz := ctz_lt gk hz hk
          have hand := andx_val gk _ hk hcz
          rw [l1] at hand
          have hms := mask_val (Lib.ctz 64 gk)
          rw [Nat.mod_eq_of_lt hcz] at hms
          rw [← hms] at hand
          have HZ := hid (tz_any gk hk)
          have HTZ := hid (HT.out.keep h0 HBI.out).tz
          have hlt2 : gk - 2 ^ Lib.ctz 64 gk < gk := by have := Nat.two_pow_pos (Lib.ctz 64 gk); omega
          have HLT := hid hlt2
          clear hms l1 l2 hz
          generalize hg' : gk - 2 ^ Lib.ctz 64 gk = g' at *
          generalize Lib.ctz 64 gk = cz at *
          have HIT := hid (fun (z : Int) (hn : 0 ≤ z ∧ z ≤ 1000) (W : World) (hb : Below w.heap.size w W) => itoa_int z W hn (HT.out.keep h0 hb))
          have hjb : 0 ≤ (j : Int) * 64 + (cz : Int) ∧ (j : Int) * 64 + (cz : Int) ≤ 1000 := by omega
          have HG := hid hg'
          have HL3 := hid l3
          have hyl2 : ys.length ≤ 64 * (j + 1) := by omega
          have hsz := HBI.out.size
          have HAND := hid hand
          clear hg' l3 hlt2 hand
          go_wp2_with (first | (go_at_call 59; refine (HZ.out _ HTZ.out).mono ?_; rintro e w3 ⟨rfl, rfl⟩) | simp only [HAND.out] | (go_at_call 60; refine (HIT.out _ hjb _ HBI.out).mono ?_; rintro e w3 ⟨⟨s, rfl, hss⟩, hb3⟩; have HB3 := hid hb3; have hs3 := hb3.size; clear hb3) |
            (at_builtin; refine wpList_append_own_at _ rfl _ _ 101 rfl w.heap.size 9 i _ 1 16 Tryd.underlying101 hi hz0 hz1 hz2 rfl (by decide) _ _ _ rfl ((own_below HOY.out HB3.out).alloc _) ⟨w3.heap.size, 0, none⟩ 1 1 [.string s] rfl rfl ?c1 ?c2 ?c3 ?c4 ?c5 ?_))
          case c1 => exact cell_new_string w3 s 9
          case c2 => intro u hu; simp at hu; subst hu; rfl
          case c3 => unfold maxLen; omega
          case c4 => omega
          case c5 => simp; omega
          intro v' w4 hown4 hgrow _ _
          have hb4 : Below w.heap.size w w4 := ((HBI.out.trans (HB3.out.mono hsz)).alloc (by omega) _).grown hgrow (by simp; omega) (fun k e => (HOY.out.lt k e).1)
          have HO4 := hid hown4
          have HB4 := hid hb4
          clear hown4 hgrow hb4
          go_wp2_with (simp only [HAND.out])
          go_roundg g'
          case measure => exact HLT.out
          case rel =>
            refine ⟨rfl, Nat.lt_trans HLT.out hk, ys ++ [s], ?_, HB4.out, ?_, ?_⟩
            · have := HO4.out
              simpa [strs] using this
            · have := HL3.out
              simp; omega
            · intro z hz
              rcases List.mem_append.1 hz with h | h
              · exact HYS.out z h
              · simp at h; subst h; exact hss
    · have hjN : j = N := by omega
      subst hjN
      have HJ := hid (fun (W : World) (hb : Below wr.heap.size wr W) => join_some u3 w.heap.size xs W (own_below HOX.out hb) (by omega) HXS.out)
      go_wp2_with (go_at_call 61; refine (HJ.out _ (Below.refl _ _)).mono ?_; rintro e w3 ⟨⟨s, rfl, hss⟩, hb3⟩)
      go_ret
      exact ⟨⟨_, rfl⟩, HBR.out.trans (hb3.mono HBR.out.size)⟩
end Go.Proofs.YtifoeehfblddcaaDoor
