/- walks: Chars -/
import Derived.Test.YtcakbheoibaiiaaDoorG
namespace Go.Proofs.YtcakbheoibaiiaaDoor
open Go.RowKit

/-- a text's characters, as the model decodes them -/
def runeList (s : ByteArray) : Nat → Nat → List Int
  | 0, _ => []
  | k + 1, i => if i < s.size then ((Utf8.decode s i).1 : Int) :: runeList s k (i + (Utf8.decode s i).2) else []
def runes (s : ByteArray) : List Int := runeList s s.size 0

theorem runesFrom_eq (s : ByteArray) : ∀ (k i : Nat) (acc : Array Value), Conv.runesFrom s k i acc = acc ++ ((runeList s k i).map (Value.int .i32)).toArray
  | 0, _, acc => by simp [Conv.runesFrom, runeList]
  | k + 1, i, acc => by
    unfold Conv.runesFrom runeList
    split
    · simp only
      rw [runesFrom_eq s k]
      simp
    · simp
theorem runeList_length (s : ByteArray) : ∀ (k i : Nat), (runeList s k i).length ≤ k
  | 0, _ => by simp [runeList]
  | k + 1, i => by
    unfold runeList
    split
    · have := runeList_length s k (i + (Utf8.decode s i).2)
      simp; omega
    · simp
theorem runes_length (s : ByteArray) : (runes s).length ≤ s.size := runeList_length s s.size 0
theorem decode_range (s : ByteArray) (i : Nat) : (Utf8.decode s i).1 ≤ 2100000 := by
  unfold Utf8.decode Utf8.runeError
  simp only
  repeat' split
  all_goals simp only
  all_goals omega
theorem runeList_range (s : ByteArray) : ∀ (k i : Nat), ∀ r ∈ runeList s k i, 0 ≤ r ∧ r ≤ 2100000
  | 0, _ => by simp [runeList]
  | k + 1, i => by
    unfold runeList
    split
    · have h := runeList_range s k (i + (Utf8.decode s i).2)
      intro r hr
      rcases List.mem_cons.1 hr with rfl | hr
      · have := decode_range s i
        omega
      · exact h r hr
    · simp
theorem runes_range (s : ByteArray) (j : Nat) : 0 ≤ (runes s).getD j 0 ∧ (runes s).getD j 0 ≤ 2100000 := by
  by_cases h : j < (runes s).length
  · have := runeList_range s s.size 0 _ (List.getElem_mem h)
    rw [List.getD, List.getElem?_eq_getElem h]
    exact this
  · rw [List.getD, List.getElem?_eq_none (by omega)]
    simp

theorem runes_conv (s : ByteArray) : Conv.runesFrom s s.size 0 #[] = ((runes s).map (Value.int .i32)).toArray := by
  rw [runesFrom_eq]; simp [runes]

theorem runes_cells (s : ByteArray) (c : Nat) (w : World) (t : TypeId) (fr : Nat × Nat) (j : Nat) (hj : j < (runes s).length) :
    (w.alloc (.cells (Conv.runesFrom s s.size 0 #[] ++ Array.replicate c (.int .i32 0)) t fr)).cell? ⟨w.heap.size, j, none⟩ = some (.int .i32 ((runes s).getD j 0)) := by
  rw [World.cell?_alloc_mark, runes_conv, Array.getElem?_append_left (by simpa using hj)]
  simp [List.getD, List.getElem?_eq_getElem hj]

set_option maxHeartbeats 1000000 in
/-- the stream that is made -/
theorem newstream_any (s : ByteArray) (w : World) (hs : s.size ≤ 1000000) :
    Calls Tryd.prog 14 #[.string s] w fun e w' => e = .returned (.pointer (some ⟨w.heap.size + 1, 0, none⟩)) ∧ Below w.heap.size w w' ∧ w'.heap.size = w.heap.size + 2 ∧ Strm w' (w.heap.size + 1) w.heap.size (runes s) 0 := by
  refine (newstream s w hs _ _ rfl rfl).mono ?_
  rintro e w' ⟨rfl, rfl⟩
  have hlen : (Conv.runesFrom s s.size 0 #[]).size = (runes s).length := by rw [runes_conv]; simp
  refine ⟨rfl, ((Below.refl _ _).drew.alloc (Nat.le_refl _) _).alloc (by simp) _, by simp, ?_⟩
  have hc := runes_length s
  have hge : (runes s).length ≤ grownCap w (Conv.runesFrom s s.size 0 #[]).size 0 21 := by rw [← hlen]; exact grownCap_ge w _ 0 21
  have hcell : ∀ (W : World) (N : Nat), W.heap.size = N → ∀ (C : Array Value) (j : Nat), (W.alloc (.cells C 58)).cell? ⟨N, j, none⟩ = C[j]? := fun W N hN C j => by subst hN; exact World.cell?_alloc_mark W C 58 (0, 0) j
  have hN : (w.drew.alloc (.cells (Conv.runesFrom s s.size 0 #[] ++ Array.replicate (grownCap w (Conv.runesFrom s s.size 0 #[]).size 0 21 - (Conv.runesFrom s s.size 0 #[]).size) (.int .i32 0)) 21)).heap.size = w.heap.size + 1 := by simp
  exact {
    lt := by simp
    dlt := by simp; omega
    ne := by simp
    n := by omega
    i0 := by simp
    i1 := by simp
    c1 := by rw [hcell _ _ hN]; rfl
    c2 := ⟨_, hge, by rw [hcell _ _ hN, hlen]; rfl⟩
    c3 := by rw [hcell _ _ hN, hlen]; rfl
    fr := fun j => by
      have : ∀ (W : World) (N : Nat), W.heap.size = N → ∀ (C : Array Value), (W.alloc (.cells C 58)).frozen? ⟨N, j, none⟩ = false := fun W N hN C => by
        subst hN; rw [World.frozen?_alloc_mark]; simp
      exact this _ _ hN _
    rc := fun j hj => (World.cell?_alloc_lt _ _ ⟨w.heap.size, j, none⟩ (by simp)).trans (runes_cells s _ w.drew 21 (0, 0) j hj)
    rb := runes_range s }

end Go.Proofs.YtcakbheoibaiiaaDoor
