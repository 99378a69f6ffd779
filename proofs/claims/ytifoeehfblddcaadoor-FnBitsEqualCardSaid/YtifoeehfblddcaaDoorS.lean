/- the words and the map are one set; bitTold -/
import Derived.Test.YtifoeehfblddcaaDoorQ
import Derived.Test.YtifoeehfblddcaaDoorM
namespace Go.Proofs.YtifoeehfblddcaaDoor
open Go.RowKit

theorem bitN_addAll : ∀ (xs : List Int) (ws : List Nat), bitN (addAll ws xs) = putAll (bitN ws) xs
  | [], ws => rfl
  | x :: r, ws => by
    show bitN (addAll (addW ws x.toNat) r) = putAll (fPut (bitN ws) x.toNat) r
    rw [bitN_addAll r, show bitN (addW ws x.toNat) = fPut (bitN ws) x.toNat from funext fun n => bitN_add ws x.toNat n]
theorem bitN_clearAll : ∀ (xs : List Int) (ws : List Nat), bitN (clearAll ws xs) = delAll (bitN ws) xs
  | [], ws => rfl
  | x :: r, ws => by
    show bitN (clearAll (clearW ws x.toNat) r) = delAll (fDel (bitN ws) x.toNat) r
    rw [bitN_clearAll r, show bitN (clearW ws x.toNat) = fDel (bitN ws) x.toNat from funext fun n => bitN_clear ws x.toNat n]
theorem bitN_nil : bitN [] = fun _ => false := funext fun n => by simp [bitN]
theorem bitN_mk (xs ys : List Int) : bitN (clearAll (addAll [] xs) ys) = delAll (putAll (fun _ => false) xs) ys := by
  rw [bitN_clearAll, bitN_addAll, bitN_nil]

theorem leastFrom_at (f : Nat → Bool) (m : Nat) (hm : f m = true) : ∀ k i, i ≤ m → m < i + k → (∀ n, i ≤ n → n < m → f n = false) → leastFrom f k i = m
  | 0, i, h1, h2, _ => by omega
  | k + 1, i, h1, h2, h3 => by
    unfold leastFrom
    by_cases e : i = m
    · subst e; rw [if_pos hm]
    · rw [h3 i (Nat.le_refl _) (by omega)]
      simp only [Bool.false_eq_true, if_false]
      exact leastFrom_at f m hm k (i + 1) (by omega) (by omega) (fun n a b => h3 n (by omega) b)
theorem leastFrom_none (f : Nat → Bool) : ∀ k i, (∀ n, i ≤ n → n < i + k → f n = false) → leastFrom f k i = 0
  | 0, i, _ => rfl
  | k + 1, i, h => by
    unfold leastFrom
    rw [h i (Nat.le_refl _) (by omega)]
    simp only [Bool.false_eq_true, if_false]
    exact leastFrom_none f k (i + 1) (fun n a b => h n (by omega) (by omega))

theorem cnt_zero (f : Nat → Bool) : ∀ n, cnt f n = 0 → ∀ i, i < n → f i = false
  | 0, _, i, h => by omega
  | n + 1, h, i, hi => by
    simp only [cnt] at h
    cases hf : f n
    · rw [hf] at h
      by_cases e : i = n
      · rw [e]; exact hf
      · exact cnt_zero f n (by simpa using h) i (by omega)
    · rw [hf] at h; simp at h

theorem least_eq (ws : List Nat) (hl : ws.length ≤ 4) (hw : ∀ j, ws.getD j 0 < 18446744073709551616) (ho : ∀ n, 200 < n → bitN ws n = false) : tellLeast ws = leastFrom (bitN ws) 201 0 ∧ popS ws ws.length = cnt (bitN ws) 201 := by
  have e : popS ws ws.length = cnt (bitN ws) 201 := by
    rw [popS_all ws hl, show 256 = 201 + 55 from rfl, cnt_beyond _ 201 55 (fun i hi => ho i (by omega))]
  refine ⟨?_, e⟩
  unfold tellLeast
  by_cases hz : popS ws ws.length = 0
  · rw [if_pos hz]
    rw [e] at hz
    exact (leastFrom_none _ _ _ (fun n _ h => cnt_zero _ _ hz n (by omega))).symm
  · rw [if_neg hz]
    rcases minV_spec ws hw ws.length 0 with h | ⟨h1, h2⟩
    · exfalso
      apply hz
      rw [popS_cnt ws _ (Nat.le_refl _)]
      have : ∀ m, m ≤ 64 * ws.length → cnt (bitN ws) m = 0 := by
        intro m
        induction m with
        | zero => intro _; rfl
        | succ m ih => intro hm; simp [cnt, ih (by omega), h m (by omega) (by omega)]
      exact this _ (Nat.le_refl _)
    · have hle : minV ws ws.length 0 ≤ 200 := by
        rcases Nat.lt_or_ge 200 (minV ws ws.length 0) with h | h
        · rw [ho _ h] at h1; cases h1
        · exact h
      exact (leastFrom_at _ _ h1 201 0 (Nat.zero_le _) (by omega) (fun n a b => h2 n (by omega) b)).symm

set_option maxRecDepth 100000 in
set_option maxHeartbeats 1600000 in
theorem told_any (A HA : Option Addr) (cz hc p m mb base : Nat) (s : ByteArray) (f : Nat → Bool) (zs : List Int) (w : World) (hZ : Ints w A cz zs) (h3 : ∀ j, 0 ≤ zs.getD j 0 ∧ zs.getD j 0 ≤ 300) (hl : zs.length ≤ 1000)
    (hm : Mset w mb f) (hp : cnt f 201 = p) (hlst : leastFrom f 201 0 = m) (hown : w.ownsRow base 4 1 (.slice HA zs.length hc) zs.length (zs.map fun z => .bool (f z.toNat))) :
    Calls Tryd.prog 10 #[.agg #[.slice HA zs.length hc, .int .i64 p, .int .i64 m, .string s], .map (some mb), .slice A zs.length cz] w fun e w' => e = .returned (.bool true) ∧ Below w.heap.size w w' := by
  have hb1 : ∀ q, Below w.heap.size w ((w.alloc (.cells #[.slice HA zs.length hc, .int .i64 p, .int .i64 m, .string s] 30)).drewN q) := fun q => by
    have := bl1 w (.cells #[.slice HA zs.length hc, .int .i64 p, .int .i64 m, .string s] 30)
    exact ⟨this.os, this.tape, this.output, this.size, this.block⟩
  have hlen : ∀ q ty, (Builtin.len_ #[23] ty #[.map (some mb)]).run Tryd.prog ((w.alloc (.cells #[.slice HA zs.length hc, .int .i64 p, .int .i64 m, .string s] 30)).drewN q) = .ok (.int .i64 p) ((w.alloc (.cells #[.slice HA zs.length hc, .int .i64 p, .int .i64 m, .string s] 30)).drewN q) := fun q ty => by
    rw [(hm.keep (hb1 q)).len ty, hp]
  have hcap : zs.length ≤ hc := by
    rcases hown.2 with ⟨e, h0⟩ | ⟨_, _, _, e, _, _, h1, _⟩
    · simp only [Value.slice.injEq] at e; omega
    · simp only [Value.slice.injEq] at e; omega
  have HL := hid (fun q => hlst ▸ least_any (hm.keep (hb1 q)))
  have HLK := hid (fun v (hv : v ≤ 1000) q => (hm.keep (hb1 q)).look v hv)
  have HOWN := hid hown
  have hzc := hZ.cap
  have HZ := hid hZ
  have H3 := hid h3
  generalize hN : zs.length = N at *
  have HN := hid hN
  have HM := hid hm
  clear hm hown hZ h3 hp hlst hN hb1
  go_enter Tryd.func10, Tryd.ntmps10
  go_upto_region 1 with fail
  have hbw := bl1 w (.cells #[.slice HA N hc, .int .i64 p, .int .i64 m, .string s] 30)
  obtain ⟨c0, c1, c2, c3, _, _, _, _⟩ := told_facts (heap_alloc_new w #[.slice HA N hc, .int .i64 p, .int .i64 m, .string s] 30)
  generalize w.alloc (.cells #[.slice HA N hc, .int .i64 p, .int .i64 m, .string s] 30) = w1 at *
  have HBW := hid hbw
  have HLEN := hid hlen
  clear hbw
  have hlen0 := hlen 0 3
  go_quiet ((go_at_call 26; exact Calls.quiet_of_same (HL.out _)))
  go_wp2_with fail
  clear hlen hlen0
  go_loopg [31] N (fun k i wr => ∃ j : Nat, j + k = N ∧ i = .int .i64 j ∧ ∃ q, wr = w1.drewN q)
  case atStart => exact ⟨0, by omega, rfl, nq, rfl⟩
  case round =>
    obtain ⟨j, hj, rfl, q, rfl⟩ := hrel
    by_cases hlt : j < N
    · obtain ⟨ga, o, rfl, hga, hcs⟩ := HZ.out.row (by rw [HN.out]; omega)
      have r0 := (HBW.out.cell (p := ⟨ga, o + j, none⟩) hga).trans (hcs j (by rw [HN.out]; exact hlt))
      have h3 := H3.out j
      obtain ⟨v, hv⟩ : ∃ v : Nat, zs.getD j 0 = v := ⟨(zs.getD j 0).toNat, by omega⟩
      have hjz : j < zs.length := by rw [HN.out]; exact hlt
      have hvj : zs[j] = (v : Int) := by rw [← hv]; simp [hjz]
      rw [hv] at r0 h3
      obtain ⟨gh, hgh, rfl⟩ : ∃ gh, gh < w.heap.size ∧ HA = some ⟨gh, 0, none⟩ := by
        rcases HOWN.out.2 with ⟨_, h0⟩ | ⟨gh, _, _, e, _, hg, _⟩
        · omega
        · simp only [Value.slice.injEq] at e
          exact ⟨gh, (Array.getElem?_eq_some_iff.1 hg).1, e.1⟩
      have k0 : w1.cell? ⟨gh, j, none⟩ = some (.bool (f v)) := by
        rw [HBW.out.cell (p := ⟨gh, j, none⟩) hgh, HOWN.out.cellAt j (by omega), List.getElem?_map, List.getElem?_eq_getElem hjz, hvj]
        simp
      have hlk := fun q' => HLK.out v (by omega) q'
      have hj1 : (j : Int) < (N : Int) := by omega
      have hj0 : (0 : Int) ≤ (j : Int) := by omega
      generalize f v = bv at *
      clear hcs h3 hv hvj hjz
      go_wp2_with fail
      go_quiet (fail)
      go_wp2_with fail
      go_roundg (gk - 1)
      case measure => omega
      case rel => exact ⟨j + 1, by omega, by go_num, q + nq, rfl⟩
    · have hjN : j = N := by omega
      subst hjN
      go_wp2_with fail
      go_ret
      exact ⟨rfl, ⟨HBW.out.os, HBW.out.tape, HBW.out.output, HBW.out.size, HBW.out.block⟩⟩
end Go.Proofs.YtifoeehfblddcaaDoor
