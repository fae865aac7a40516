/-
  PLAIN LAWS: no Go in sight: digits in a list of bytes.
-/
namespace Go.Proofs.Qxb6001394a.Plain

/-- one byte: an ASCII digit -/
def digB (c : Int) : Bool := decide (48 ≤ c ∧ c ≤ 57)
/-- how many of the first bytes are digits -/
def cnt (l : List UInt8) : Int := (l.filter fun c => digB c.toNat).length
/-- the law's common value: not empty, and every byte a digit -/
def allD (l : List UInt8) : Bool := !l.isEmpty && l.all fun c => digB c.toNat

theorem cnt_le (l : List UInt8) : 0 ≤ cnt l ∧ cnt l ≤ l.length := by
  unfold cnt
  exact ⟨by omega, by have := List.length_filter_le (fun c : UInt8 => digB c.toNat) l; omega⟩

theorem take_snoc (s : ByteArray) (k : Nat) (h : k < s.size) : s.data.toList.take (k + 1) = s.data.toList.take k ++ [s[k]] := by
  rw [List.take_succ_eq_append_getElem (by simpa using h)]; rfl

theorem cnt_snoc (l : List UInt8) (c : UInt8) : cnt (l ++ [c]) = cnt l + if digB c.toNat = true then 1 else 0 := by
  unfold cnt
  rw [List.filter_append]
  by_cases h : digB c.toNat = true <;> simp [h]

theorem cnt_all (l : List UInt8) : (cnt l == (l.length : Int)) = l.all fun c => digB c.toNat := by
  rw [Bool.eq_iff_iff]
  simp only [cnt, beq_iff_eq, List.all_eq_true, Int.ofNat_inj]
  rw [List.length_filter_eq_length_iff]

theorem all_snoc (l : List UInt8) (c : UInt8) : ((l ++ [c]).all fun c => digB c.toNat) = ((l.all fun c => digB c.toNat) && digB c.toNat) := by
  simp

theorem not_all_of (l : List UInt8) (k : Nat) (hk : k < l.length) (h : digB (l[k].toNat) = false) : (l.all fun c => digB c.toNat) = false := by
  rw [List.all_eq_false]
  exact ⟨l[k], List.getElem_mem hk, by simp [h]⟩

theorem dig_no (c : Int) (h : c < 48 ∨ 57 < c) : digB c = false := by
  unfold digB; rw [decide_eq_false_iff_not]; omega
theorem dig_yes (c : Int) (h1 : 48 ≤ c) (h2 : c ≤ 57) : digB c = true := by
  unfold digB; rw [decide_eq_true_iff]; exact ⟨h1, h2⟩

theorem size_len (s : ByteArray) : s.size = s.data.toList.length := by
  cases s; simp [ByteArray.size]
theorem empty_of (s : ByteArray) (h : s.size = 0) : s.data.toList.isEmpty = true := by
  rw [size_len] at h; rw [List.isEmpty_iff]; exact List.eq_nil_of_length_eq_zero h
theorem not_empty_of (s : ByteArray) (h : ¬ s.size = 0) : s.data.toList.isEmpty = false := by
  rw [size_len] at h
  cases hs : s.data.toList with
  | nil => rw [hs] at h; exact absurd rfl h
  | cons a l => rfl

theorem allD_no (s : ByteArray) (h : s.size = 0) : allD s.data.toList = false := by
  unfold allD; rw [empty_of s h]; rfl
theorem allD_yes (s : ByteArray) (h : ¬ s.size = 0) : allD s.data.toList = s.data.toList.all fun c => digB c.toNat := by
  unfold allD; rw [not_empty_of s h]; rfl
theorem cnt_allD (s : ByteArray) (h : ¬ s.size = 0) : (cnt s.data.toList == (s.size : Int)) = allD s.data.toList := by
  rw [size_len, cnt_all, allD_yes s h]

end Go.Proofs.Qxb6001394a.Plain
