/-
  PLAIN FACTS ON BYTES: a name in n pairs of brackets. Nothing of the dump.
-/
namespace Go.Proofs.Yoecfw.Plain

/-- n opening brackets, the text, n closing brackets -/
def parL (n : Nat) (l : List UInt8) : List UInt8 := List.replicate n 40 ++ l ++ List.replicate n 41
def par (n : Nat) (s : ByteArray) : ByteArray := ⟨(parL n s.data.toList).toArray⟩

theorem parL_zero (l : List UInt8) : parL 0 l = l := by simp [parL]
theorem parL_succ (n : Nat) (l : List UInt8) : parL (n + 1) l = [40] ++ parL n l ++ [41] := by
  unfold parL
  rw [List.replicate_succ, List.replicate_succ']
  simp
theorem parL_length (n : Nat) (l : List UInt8) : (parL n l).length = l.length + 2 * n := by
  simp [parL]; omega
theorem par_zero (s : ByteArray) : par 0 s = s := by
  apply ByteArray.ext
  simp [par, parL_zero]
theorem par_succ (n : Nat) (s : ByteArray) : ByteArray.mk #[40] ++ par n s ++ ByteArray.mk #[41] = par (n + 1) s := by
  apply ByteArray.ext
  simp [par, parL_succ, ByteArray.data_append]
theorem len_eq (s : ByteArray) : s.data.toList.length = s.size := by rw [Array.length_toList]; rfl
theorem par_size (n : Nat) (s : ByteArray) : (par n s).size = s.size + 2 * n := by
  show (parL n s.data.toList).toArray.size = _
  rw [List.size_toArray, parL_length, len_eq]
theorem par_get (n : Nat) (s : ByteArray) (i : Nat) (h : i < (par n s).size) : (par n s)[i] = (parL n s.data.toList)[i]'(by rw [par_size] at h; rw [parL_length, len_eq]; exact h) := by
  rfl
theorem par_left (n : Nat) (s : ByteArray) (i : Nat) (hi : i < n) (h : i < (par n s).size) : (par n s)[i] = 40 := by
  rw [par_get]
  unfold parL
  rw [List.getElem_append_left (by simp; omega), List.getElem_append_left (by simpa using hi)]
  simp
theorem par_right (n : Nat) (s : ByteArray) (i : Nat) (hi : s.size + n ≤ i) (h : i < (par n s).size) : (par n s)[i] = 41 := by
  rw [par_get]
  unfold parL
  rw [List.getElem_append_right (by rw [List.length_append, List.length_replicate, len_eq]; omega)]
  simp
theorem par_mid (n : Nat) (s : ByteArray) (j : Nat) (hj : j < s.size) (h : n + j < (par n s).size) : (par n s)[n + j] = s[j] := by
  rw [par_get]
  unfold parL
  rw [List.getElem_append_left (by rw [List.length_append, List.length_replicate, len_eq]; omega), List.getElem_append_right (by simp)]
  simp
  rfl

theorem left_no {n : Nat} {s : ByteArray} {i : Nat} (hi : i < n) {h : i < (par n s).size} (hx : ¬ (((par n s)[i]'h).toNat : Int) = 40) : False :=
  hx (by rw [par_left n s i hi h]; rfl)
theorem right_no {n : Nat} {s : ByteArray} {i : Nat} (hi : s.size + n ≤ i) {h : i < (par n s).size} (hx : ((((par n s)[i]'h).toNat : Int) != 41) = true) : False := by
  rw [par_right n s i hi h] at hx
  revert hx; decide
theorem mid_no {n : Nat} {s : ByteArray} {j : Nat} (hj : j < s.size) {h : n + j < (par n s).size} (hx : ((((par n s)[n + j]'h).toNat : Int) != (s[j].toNat : Int)) = true) : False := by
  rw [par_mid n s j hj h] at hx
  simp at hx

/-- the text between the i-th brackets -/
theorem parL_add (i m : Nat) (l : List UInt8) : parL (i + m) l = List.replicate i 40 ++ parL m l ++ List.replicate i 41 := by
  have e1 : List.replicate (i + m) (40 : UInt8) = List.replicate i 40 ++ List.replicate m 40 := by simp
  have e2 : List.replicate (i + m) (41 : UInt8) = List.replicate m 41 ++ List.replicate i 41 := by rw [Nat.add_comm]; simp
  unfold parL
  rw [e1, e2]
  simp only [List.append_assoc]
theorem parL_cut (i m : Nat) (l : List UInt8) : ((parL (i + m) l).drop i).take (l.length + 2 * m) = parL m l := by
  rw [parL_add, List.append_assoc, List.drop_left' (by simp), List.take_left' (by rw [parL_length])]
theorem par_cut (i m : Nat) (s : ByteArray) : (par (i + m) s).extract i (i + (s.size + 2 * m)) = par m s := by
  apply ByteArray.ext
  rw [ByteArray.data_extract]
  apply Array.toList_inj.1
  rw [Array.toList_extract]
  simp only [par, List.extract_eq_take_drop]
  rw [show i + (s.size + 2 * m) - i = s.size + 2 * m by omega]
  exact parL_cut i m s.data.toList
end Go.Proofs.Yoecfw.Plain
