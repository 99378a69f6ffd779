/- plain laws: a text without the replacement character is its characters, encoded again -/
import Derived.Test.YtcakbheoibaiiaaDoorJ
namespace Go.Proofs.YtcakbheoibaiiaaDoor
open Go.RowKit

theorem of_eq (b : UInt8) (n : Nat) (h : n = b.toNat) : UInt8.ofNat n = b := by subst h; simp

theorem drop_get (s : ByteArray) (j : Nat) (h : j < s.size) : s.data.toList.drop j = s.get! j :: s.data.toList.drop (j + 1) := by
  have hl : j < s.data.toList.length := by simpa using h
  rw [List.drop_eq_getElem_cons hl]
  congr 1
  simp only [ByteArray.get!]
  have hj : j < s.data.size := by simpa using h
  simp only [Array.getElem_toList]
  exact (getElem!_pos s.data j hj).symm

theorem enc1 (c : Nat) (h : c < 128) : (Utf8.encode (c : Int)).data.toList = [UInt8.ofNat c] := by
  have hv : Utf8.valid (c : Int) = true := by simp [Utf8.valid]; omega
  unfold Utf8.encode
  simp only [hv, if_true, Int.toNat_natCast]
  rw [if_pos h]
theorem enc2 (c : Nat) (h0 : 128 ≤ c) (h : c < 2048) : (Utf8.encode (c : Int)).data.toList = [UInt8.ofNat (192 + c / 64), UInt8.ofNat (128 + c % 64)] := by
  have hv : Utf8.valid (c : Int) = true := by simp [Utf8.valid]; omega
  unfold Utf8.encode
  simp only [hv, if_true, Int.toNat_natCast]
  rw [if_neg (by omega), if_pos h]
theorem enc3 (c : Nat) (h0 : 2048 ≤ c) (h : c < 65536) (hv : Utf8.valid (c : Int) = true) : (Utf8.encode (c : Int)).data.toList = [UInt8.ofNat (224 + c / 4096), UInt8.ofNat (128 + c / 64 % 64), UInt8.ofNat (128 + c % 64)] := by
  unfold Utf8.encode
  simp only [hv, if_true, Int.toNat_natCast]
  rw [if_neg (by omega), if_neg (by omega), if_pos h]
theorem enc4 (c : Nat) (h0 : 65536 ≤ c) (hv : Utf8.valid (c : Int) = true) : (Utf8.encode (c : Int)).data.toList = [UInt8.ofNat (240 + c / 262144), UInt8.ofNat (128 + c / 4096 % 64), UInt8.ofNat (128 + c / 64 % 64), UInt8.ofNat (128 + c % 64)] := by
  unfold Utf8.encode
  simp only [hv, if_true, Int.toNat_natCast]
  rw [if_neg (by omega), if_neg (by omega), if_neg (by omega)]

theorem enc_dec (s : ByteArray) (i : Nat) (h : i < s.size) (hr : (Utf8.decode s i).1 ≠ 65533) :
    (Utf8.encode ((Utf8.decode s i).1 : Int)).data.toList ++ s.data.toList.drop (i + (Utf8.decode s i).2) = s.data.toList.drop i := by
  have hb : ∀ k, (s.get! k).toNat < 256 := fun k => (s.get! k).toNat_lt
  have g0 := hb i; have g1 := hb (i + 1); have g2 := hb (i + 2); have g3 := hb (i + 3)
  have d0 := drop_get s i h
  unfold Utf8.decode Utf8.runeError at hr ⊢
  simp only [Nat.add_zero] at hr ⊢
  split at hr
  · rename_i h1
    rw [if_pos h1]
    simp only
    rw [enc1 _ h1, d0]
    simp
  rename_i h1
  rw [if_neg h1]
  split at hr
  · rename_i h2
    rw [if_pos h2]
    simp only [Bool.and_eq_true, beq_iff_eq, decide_eq_true_eq] at h2
    obtain ⟨h2a, h2b, h2c⟩ := h2
    split at hr
    · rename_i h3
      rw [if_pos h3]
      simp only at h3 ⊢
      have d1 := drop_get s (i + 1) h2b
      rw [enc2 _ h3 (by omega), d0, d1, of_eq (s.get! i) _ (by omega), of_eq (s.get! (i + 1)) _ (by omega)]
      simp
    · exact absurd rfl hr
  rename_i h2
  rw [if_neg h2]
  split at hr
  · rename_i h3
    rw [if_pos h3]
    simp only [Bool.and_eq_true, beq_iff_eq, decide_eq_true_eq] at h3
    obtain ⟨⟨h3a, h3b, h3c⟩, h3d, h3e⟩ := h3
    split at hr
    · rename_i h4
      rw [if_pos h4]
      simp only [Bool.and_eq_true, decide_eq_true_eq] at h4 ⊢
      have d1 := drop_get s (i + 1) h3b
      have d2 := drop_get s (i + 2) h3d
      rw [enc3 _ h4.1 (by omega) h4.2, d0, d1, d2, of_eq (s.get! i) _ (by omega), of_eq (s.get! (i + 1)) _ (by omega), of_eq (s.get! (i + 2)) _ (by omega)]
      simp
    · exact absurd rfl hr
  rename_i h3
  rw [if_neg h3]
  split at hr
  · rename_i h4
    rw [if_pos h4]
    simp only [Bool.and_eq_true, beq_iff_eq, decide_eq_true_eq] at h4
    obtain ⟨⟨⟨h4a, h4b, h4c⟩, h4d, h4e⟩, h4f, h4g⟩ := h4
    split at hr
    · rename_i h5
      rw [if_pos h5]
      simp only [Bool.and_eq_true, decide_eq_true_eq] at h5 ⊢
      have d1 := drop_get s (i + 1) h4b
      have d2 := drop_get s (i + 2) h4d
      have d3 := drop_get s (i + 3) h4f
      rw [enc4 _ h5.1 h5.2, d0, d1, d2, d3, of_eq (s.get! i) _ (by omega), of_eq (s.get! (i + 1)) _ (by omega), of_eq (s.get! (i + 2)) _ (by omega), of_eq (s.get! (i + 3)) _ (by omega)]
      simp
    · exact absurd rfl hr
  · exact absurd rfl hr

theorem foldl_bytes (ns : List Int) : ∀ s : ByteArray, (ns.foldl (fun r n => r ++ Utf8.encode n) s).data.toList = s.data.toList ++ ns.flatMap (fun n => (Utf8.encode n).data.toList) := by
  induction ns with
  | nil => intro s; simp
  | cons n ns ih => intro s; simp [ih]
theorem runesBytes_list (ns : List Int) : (runesBytes ns).data.toList = ns.flatMap (fun n => (Utf8.encode n).data.toList) := by
  unfold runesBytes
  rw [foldl_bytes]
  simp
theorem bytes_ext {a b : ByteArray} (h : a.data.toList = b.data.toList) : a = b := by
  obtain ⟨⟨x⟩⟩ := a; obtain ⟨⟨y⟩⟩ := b
  simp only at h
  rw [h]
theorem runesBytes_append (a b : List Int) : runesBytes (a ++ b) = runesBytes a ++ runesBytes b := by
  apply bytes_ext
  simp [runesBytes_list]

theorem plain_bytes (s : ByteArray) : ∀ (k i : Nat), plainFrom s k i = true → s.size ≤ i + k → (runeList s k i).flatMap (fun n => (Utf8.encode n).data.toList) = s.data.toList.drop i
  | 0, i, _, hk => by
    simp only [runeList, List.flatMap_nil]
    exact (List.drop_eq_nil_of_le (by simpa using hk)).symm
  | k + 1, i, hp, hk => by
    unfold plainFrom runeList at hp
    unfold runeList
    by_cases hi : i < s.size
    · rw [if_pos hi] at hp ⊢
      simp only [List.all_cons, Bool.and_eq_true] at hp
      have hw := width_pos s i hi
      rw [List.flatMap_cons, plain_bytes s k (i + (Utf8.decode s i).2) hp.2 (by omega)]
      exact enc_dec s i hi (by have := hp.1; simp at this; omega)
    · rw [if_neg hi]
      simp only [List.flatMap_nil]
      exact (List.drop_eq_nil_of_le (by simp; omega)).symm

/-- a text without the replacement character is its characters, encoded again -/
theorem plain_text (s : ByteArray) (h : plain s = true) : runesBytes (runes s) = s := by
  apply bytes_ext
  rw [runesBytes_list]
  exact plain_bytes s s.size 0 h (by omega)
end Go.Proofs.YtcakbheoibaiiaaDoor
