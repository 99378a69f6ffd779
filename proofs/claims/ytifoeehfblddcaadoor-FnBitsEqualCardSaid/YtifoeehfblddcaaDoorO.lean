/- spec.BitsOf: a map as a set of numbers -/
import Derived.Test.YtifoeehfblddcaaDoorN
import Derived.Test.YtifoeehfblddcaaDoorL
import Derived.Maps.OwnSet
import Derived.Carry
namespace Go.Proofs.YtifoeehfblddcaaDoor
open Go.RowKit

def fPut (f : Nat → Bool) (v : Nat) : Nat → Bool := fun n => decide (v = n) || f n
def fDel (f : Nat → Bool) (v : Nat) : Nat → Bool := fun n => !decide (v = n) && f n
def fOf (xs ys : List Int) : Nat → Bool := ys.foldl (fun f y => fDel f y.toNat) (xs.foldl (fun f x => fPut f x.toNat) (fun _ => false))

theorem cnt_put (f : Nat → Bool) (v : Nat) : ∀ n, v < n → cnt (fPut f v) n = if f v then cnt f n else cnt f n + 1
  | 0, h => by omega
  | n + 1, h => by
    simp only [cnt]
    by_cases e : v = n
    · subst e
      have : cnt (fPut f v) v = cnt f v := cnt_congr _ _ _ (fun i hi => by unfold fPut; simp; omega)
      rw [this]
      unfold fPut
      cases hf : f v <;> simp
    · rw [cnt_put f v n (by omega)]
      have : fPut f v n = f n := by unfold fPut; simp [e]
      rw [this]
      cases hf : f v <;> simp <;> omega
theorem cnt_del (f : Nat → Bool) (v : Nat) : ∀ n, v < n → cnt (fDel f v) n + (if f v then 1 else 0) = cnt f n
  | 0, h => by omega
  | n + 1, h => by
    simp only [cnt]
    by_cases e : v = n
    · subst e
      have : cnt (fDel f v) v = cnt f v := cnt_congr _ _ _ (fun i hi => by unfold fDel; simp; omega)
      rw [this]
      unfold fDel
      cases hf : f v <;> simp
    · have := cnt_del f v n (by omega)
      have h2 : fDel f v n = f n := by unfold fDel; simp [e]
      rw [h2]
      omega

/-- a map's datum that is the set f of numbers from 0 to 200 -/
structure MapF (D : DataW Unit) (f : Nat → Bool) : Prop where
  tidy : Maps.Tidy D
  has : ∀ z : Int, -9223372036854775808 ≤ z → z ≤ 9223372036854775807 → Maps.has D (.int .i64 z) = (decide (0 ≤ z ∧ z ≤ 200) && f z.toNat)
  atk : ∀ n : Nat, n ≤ 1000 → D.atKey (.int .i64 n) (.lit (.bool false)) = .lit (.bool (f n))
  size : Maps.size D = cnt f 201
  out : ∀ n, 200 < n → f n = false

theorem wf64 (z : Int) (h0 : -9223372036854775808 ≤ z) (h1 : z ≤ 9223372036854775807) : (Lit.int .i64 z).wf = true := WalkArith.wf_i64 (by omega)

theorem key64 (z : Int) (h0 : -9223372036854775808 ≤ z) (h1 : z ≤ 9223372036854775807) : keyOf Tryd.prog 3 (.int .i64 z) = some (.int .i64 z) :=
  Maps.keyOf_int_mk Tryd.underlying3 (wf64 z h0 h1)

theorem keyed3 : Maps.Keyed Tryd.prog 3 := Maps.int_keyed Tryd.underlying3

theorem mapF_nil : MapF (.map []) (fun _ => false) where
  tidy := ⟨_, rfl, List.Pairwise.nil⟩
  has := fun z _ _ => by simp [Maps.has_eq]
  atk := fun n _ => rfl
  size := by
    have : ∀ n, cnt (fun _ => false) n = 0 := by
      intro n
      induction n with
      | zero => rfl
      | succ n ih => simp [cnt, ih]
    rw [this]; rfl
  out := fun _ _ => rfl

theorem isKey (z : Int) (h0 : -9223372036854775808 ≤ z) (h1 : z ≤ 9223372036854775807) : WideAt.IsKeyLit (.int .i64 z) := keyed3.key (key64 z h0 h1)

theorem lit_ne {y z : Int} (h : y ≠ z) : (Lit.int .i64 y) ≠ Lit.int .i64 z := fun e => h (by injection e)

theorem MapF.put {D : DataW Unit} {f : Nat → Bool} (h : MapF D f) (v : Nat) (hv : v ≤ 200) : MapF (D.put (.int .i64 v) (.lit (.bool true))) (fPut f v) where
  tidy := h.tidy.put (isKey _ (by omega) (by omega)) _
  has := fun z h0 h1 => by
    by_cases e : z = (v : Int)
    · subst e
      rw [Maps.has_put_same h.tidy.isMap (isKey _ h0 h1)]
      simp [fPut]; omega
    · rw [Maps.has_put_other (lit_ne e), h.has z h0 h1]
      by_cases h2 : 0 ≤ z ∧ z ≤ 200
      · have : v ≠ z.toNat := by omega
        simp [fPut, this]
      · simp [h2]
  atk := fun n hn => by
    by_cases e : n = v
    · subst e
      rw [Maps.atKey_put_same h.tidy.isMap (isKey _ (by omega) (by omega))]
      simp [fPut]
    · rw [Maps.atKey_put_other (lit_ne (by omega)), h.atk n hn]
      have : v ≠ n := by omega
      simp [fPut, this]
  size := by
    rw [Maps.size_put h.tidy, h.size, cnt_put f v 201 (by omega), h.has v (by omega) (by omega)]
    have : decide ((0 : Int) ≤ (v : Int) ∧ (v : Int) ≤ 200) = true := by simp; omega
    rw [this]; simp
  out := fun n hn => by
    have : v ≠ n := by omega
    simp [fPut, this, h.out n hn]

theorem MapF.del {D : DataW Unit} {f : Nat → Bool} (h : MapF D f) (v : Nat) (hv : v ≤ 200) : MapF (D.del (.int .i64 v)) (fDel f v) where
  tidy := h.tidy.del _
  has := fun z h0 h1 => by
    by_cases e : z = (v : Int)
    · subst e
      rw [Maps.has_del_same]
      simp [fDel]
    · rw [Maps.has_del_other (lit_ne e), h.has z h0 h1]
      by_cases h2 : 0 ≤ z ∧ z ≤ 200
      · have : v ≠ z.toNat := by omega
        simp [fDel, this]
      · simp [h2]
  atk := fun n hn => by
    by_cases e : n = v
    · subst e
      rw [Maps.atKey_del_same]
      simp [fDel]
    · rw [Maps.atKey_del_other (lit_ne (by omega)), h.atk n hn]
      have : v ≠ n := by omega
      simp [fDel, this]
  size := by
    have h1 := Maps.size_del h.tidy (k := .int .i64 (v : Int))
    have h2 := cnt_del f v 201 (by omega)
    rw [h.size, h.has v (by omega) (by omega)] at h1
    have : decide ((0 : Int) ≤ (v : Int) ∧ (v : Int) ≤ 200) = true := by simp; omega
    rw [this] at h1
    simp at h1
    omega
  out := fun n hn => by simp [fDel, h.out n hn]

/-- the map at block mb is the set f -/
def Mset (w : World) (mb : Nat) (f : Nat → Bool) : Prop := ∃ n D, n ≤ 4294967296 ∧ w.ownsMap (H := Unit) Tryd.prog 3 (plainElem Tryd.prog 4) mb n D ∧ MapF D f

theorem Mset.put {w : World} {mb : Nat} {f : Nat → Bool} {n : Nat} {D : DataW Unit} (hn : n < 4294967296) (ho : w.ownsMap Tryd.prog 3 (plainElem Tryd.prog 4) mb n D) (hf : MapF D f) (v : Nat) (hv : v ≤ 200) :
    ∃ w' D', (Instr.mapUpdate 23 (.map (some mb)) (.int .i64 v) (.bool true)).run Tryd.prog w = .ok () w' ∧ w'.ownsMap (H := Unit) Tryd.prog 3 (plainElem Tryd.prog 4) mb (n + 1) D' ∧ MapF D' (fPut f v) ∧ w.grownBy w' (some mb) := by
  obtain ⟨w', h1, h2, h3⟩ := ho.update keyed3 Tryd.underlying23 (by unfold maxLen; omega) (key64 v (by omega) (by omega)) (plainElem_bool Tryd.underlying4 true)
  exact ⟨w', _, h1, h2, hf.put v hv, h3⟩

theorem Mset.del {w : World} {mb : Nat} {f : Nat → Bool} {n : Nat} {D : DataW Unit} (ho : w.ownsMap Tryd.prog 3 (plainElem Tryd.prog 4) mb n D) (hf : MapF D f) (v : Nat) (hv : v ≤ 200) :
    ∃ w' D', (Builtin.delete_ #[23, 3] 0 #[.map (some mb), .int .i64 v]).run Tryd.prog w = .ok (.tuple #[]) w' ∧ w'.ownsMap (H := Unit) Tryd.prog 3 (plainElem Tryd.prog 4) mb n D' ∧ MapF D' (fDel f v) ∧ w.grownBy w' (some mb) := by
  obtain ⟨w', h1, h2, h3⟩ := ho.drop keyed3 Tryd.underlying23 (key64 v (by omega) (by omega)) 0
  exact ⟨w', _, h1, h2, hf.del v hv, h3.grown⟩

def okB (xs : List Int) (n : Nat) : Bool := (xs.take n).all fun z => decide (0 ≤ z ∧ z ≤ 200)
theorem okB_succ (xs : List Int) (j : Nat) (h : j < xs.length) : okB xs (j + 1) = (okB xs j && decide (0 ≤ xs.getD j 0 ∧ xs.getD j 0 ≤ 200)) := by
  unfold okB
  rw [List.take_add_one, List.all_append]
  simp [h]
def putAll (f : Nat → Bool) (xs : List Int) : Nat → Bool := xs.foldl (fun f x => fPut f x.toNat) f
def delAll (f : Nat → Bool) (xs : List Int) : Nat → Bool := xs.foldl (fun f x => fDel f x.toNat) f
theorem putAll_succ (f : Nat → Bool) (xs : List Int) (j : Nat) (h : j < xs.length) : putAll f (xs.take (j + 1)) = fPut (putAll f (xs.take j)) (xs.getD j 0).toNat := by
  unfold putAll
  rw [List.take_add_one, List.foldl_append]
  simp [h]
theorem delAll_succ (f : Nat → Bool) (xs : List Int) (j : Nat) (h : j < xs.length) : delAll f (xs.take (j + 1)) = fDel (delAll f (xs.take j)) (xs.getD j 0).toNat := by
  unfold delAll
  rw [List.take_add_one, List.foldl_append]
  simp [h]

def bad (xs : List Int) : Prop := ∃ j, j < xs.length ∧ ¬ (0 ≤ xs.getD j 0 ∧ xs.getD j 0 ≤ 200)

set_option maxHeartbeats 1600000 in
theorem bitsof_good (A B : Option Addr) (ca cb : Nat) (xs ys : List Int) (w : World) (ha : Ints w A ca xs) (hb : Ints w B cb ys) (h2a : ∀ j, j < xs.length → 0 ≤ xs.getD j 0 ∧ xs.getD j 0 ≤ 200) (h2b : ∀ j, j < ys.length → 0 ≤ ys.getD j 0 ∧ ys.getD j 0 ≤ 200) (hla : xs.length ≤ 2147483647) (hlb : ys.length ≤ 2147483647) :
    Calls Tryd.prog 6 #[.slice A xs.length ca, .slice B ys.length cb] w fun e w' => (∃ mb, e = .returned (.tuple #[.map (some mb), .bool true]) ∧ w.heap.size ≤ mb ∧ Mset w' mb (delAll (putAll (fun _ => false) xs) ys)) ∧ Below w.heap.size w w' := by
  have HA := hid ha
  have HB := hid hb
  have H2A := hid h2a
  have H2B := hid h2b
  have hca := ha.cap
  have hcb := hb.cap
  have hsa := fun j (hj : j < xs.length) => putAll_succ (fun _ => false) xs j hj
  have hsb := fun j (hj : j < ys.length) => delAll_succ (putAll (fun _ => false) xs) ys j hj
  have hta : putAll (fun _ => false) (xs.take xs.length) = putAll (fun _ => false) xs := by rw [List.take_length]
  have htb : delAll (putAll (fun _ => false) xs) (ys.take ys.length) = delAll (putAll (fun _ => false) xs) ys := by rw [List.take_length]
  have hmade := World.ownsMap_made (H := Unit) w Tryd.prog 3 (plainElem Tryd.prog 4)
  have hmm := @run_makeMap Tryd.prog
  generalize hN : xs.length = N at *
  generalize hM : ys.length = M at *
  have HN := hid hN
  have HM := hid hM
  have HSA := hid hsa
  have HSB := hid hsb
  have HTA := hid hta
  have HTB := hid htb
  have HMADE := hid hmade
  clear ha hb h2a h2b hN hM hsa hsb hta htb hmade
  go_enter Tryd.func6, Tryd.ntmps6
  go_wp2_with fail
  go_loopg [14] N (fun k i wr => ∃ j : Nat, j + k = N ∧ i = .int .i64 j ∧ Below w.heap.size w wr ∧ ∃ D, wr.ownsMap (H := Unit) Tryd.prog 3 (plainElem Tryd.prog 4) w.heap.size j D ∧ MapF D (putAll (fun _ => false) (xs.take j)))
  case atStart => exact ⟨0, by omega, rfl, bl1 w _, _, HMADE.out, mapF_nil⟩
  case round =>
    obtain ⟨j, hj, rfl, hbw, D, hown, hf⟩ := hrel
    by_cases hlt : j < N
    · obtain ⟨g, o, rfl, hg, hcs⟩ := HA.out.row (by rw [HN.out]; omega)
      have r0 := (hbw.cell (p := ⟨g, o + j, none⟩) hg).trans (hcs j (by rw [HN.out]; exact hlt))
      have hs1 := HSA.out j hlt
      have h2 := H2A.out j hlt
      obtain ⟨v, hv⟩ : ∃ v : Nat, xs.getD j 0 = v := ⟨(xs.getD j 0).toNat, by omega⟩
      rw [hv] at r0 hs1 h2
      rw [Int.toNat_natCast] at hs1
      have hd1 : decide ((v : Int) < 0) = false := by simp
      have hd2 : decide ((200 : Int) < (v : Int)) = false := by simp; omega
      obtain ⟨w', D', hrun, hown', hf', hgr⟩ := Mset.put (by omega) hown hf v (by omega)
      have HOWN := hid hown'
      have HF := hid hf'
      have HGR := hid hgr
      have HBW := hid hbw
      have HS1 := hid hs1
      clear hown hf hown' hf' hgr hv hcs hs1 hbw h2
      go_wp2_with fail
      go_roundg (gk - 1)
      case measure => omega
      case rel => exact ⟨j + 1, by omega, by go_num, HBW.out.grown HGR.out HBW.out.size (fun k hk => by cases hk; exact Nat.le_refl _), D', HOWN.out, by rw [HS1.out]; exact HF.out⟩
    · have hjN : j = N := by omega
      subst hjN
      have HOWN1 := hid hown
      have HF1 := hid hf
      have HBW1 := hid hbw
      rw [HTA.out] at HF1
      clear hown hf hbw
      go_wp2_with fail
      go_loopg [29] M (fun k i wr => ∃ j2 : Nat, j2 + k = M ∧ i = .int .i64 j2 ∧ Below w.heap.size w wr ∧ ∃ D, wr.ownsMap (H := Unit) Tryd.prog 3 (plainElem Tryd.prog 4) w.heap.size j D ∧ MapF D (delAll (putAll (fun _ => false) xs) (ys.take j2)))
      case atStart => exact ⟨0, by omega, rfl, HBW1.out, D, HOWN1.out, HF1.out⟩
      case round =>
        obtain ⟨j2, hj2, rfl, hbw, D2, hown, hf⟩ := hrel
        by_cases hlt : j2 < M
        · obtain ⟨g, o, rfl, hg, hcs⟩ := HB.out.row (by rw [HM.out]; omega)
          have r0 := (hbw.cell (p := ⟨g, o + j2, none⟩) hg).trans (hcs j2 (by rw [HM.out]; exact hlt))
          have hs1 := HSB.out j2 hlt
          have h2 := H2B.out j2 hlt
          obtain ⟨v, hv⟩ : ∃ v : Nat, ys.getD j2 0 = v := ⟨(ys.getD j2 0).toNat, by omega⟩
          rw [hv] at r0 hs1 h2
          rw [Int.toNat_natCast] at hs1
          have hd1 : decide ((v : Int) < 0) = false := by simp
          have hd2 : decide ((200 : Int) < (v : Int)) = false := by simp; omega
          obtain ⟨w', D', hrun, hown', hf', hgr⟩ := Mset.del hown hf v (by omega)
          have HOWN := hid hown'
          have HF := hid hf'
          have HGR := hid hgr
          have HBW := hid hbw
          have HS1 := hid hs1
          clear hown hf hown' hf' hgr hv hcs hs1 hbw h2
          go_wp2_with fail
          go_roundg (gk - 1)
          case measure => omega
          case rel => exact ⟨j2 + 1, by omega, by go_num, HBW.out.grown HGR.out HBW.out.size (fun k hk => by cases hk; exact Nat.le_refl _), D', HOWN.out, by rw [HS1.out]; exact HF.out⟩
        · have hjM : j2 = M := by omega
          subst hjM
          have HOWN2 := hid hown
          have HF2 := hid hf
          have HBW2 := hid hbw
          rw [HTB.out] at HF2
          clear hown hf hbw
          go_wp2_with fail
          go_ret2
          exact ⟨⟨_, rfl, Nat.le_refl _, j, D2, by omega, HOWN2.out, HF2.out⟩, HBW2.out⟩

end Go.Proofs.YtifoeehfblddcaaDoor
