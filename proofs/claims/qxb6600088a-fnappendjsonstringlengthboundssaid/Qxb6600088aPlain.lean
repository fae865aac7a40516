/-
  PLAIN LAWS: no Go in sight: how a JSON string escapes its bytes, as lists of integers.
-/
namespace Go.Proofs.Qxb6600088a.Plain

/-- a hexadecimal digit, lower case -/
def hx (n : Int) : Int := if n < 10 then 48 + n else 87 + n
/-- one byte, escaped -/
def esc (c : Int) : List Int :=
  if c = 34 ∨ c = 92 then [92, c]
  else if c = 10 then [92, 110]
  else if c = 13 then [92, 114]
  else if c = 9 then [92, 116]
  else if c = 8 then [92, 98]
  else if c = 12 then [92, 102]
  else if c < 32 then [92, 117, 48, 48, hx (c / 16), hx (c % 16)]
  else [c]
/-- a byte that is copied as it is -/
def plainB (c : Int) : Bool := decide (¬ (c < 32 ∨ c = 34 ∨ c = 92))

/-- a string's bytes as integers -/
def str (s : ByteArray) : List Int := s.data.toList.map fun c => (c.toNat : Int)
/-- what is written after k bytes -/
def E (s : ByteArray) (k : Nat) : List Int := 34 :: ((str s).take k).flatMap esc
/-- the whole token -/
def tok (s : ByteArray) : List Int := E s s.size ++ [34]
/-- are the first k bytes copied as they are? -/
def pl (s : ByteArray) (k : Nat) : Bool := ((str s).take k).all plainB

theorem str_length (s : ByteArray) : (str s).length = s.size := by
  cases s; simp [str, ByteArray.size]
theorem str_get (s : ByteArray) (k : Nat) (h : k < s.size) : (str s)[k]'(by rw [str_length]; exact h) = (s[k].toNat : Int) := by
  cases s; simp only [str, List.getElem_map]; rfl
theorem take_snoc (s : ByteArray) (k : Nat) (h : k < s.size) : (str s).take (k + 1) = (str s).take k ++ [(s[k].toNat : Int)] := by
  rw [List.take_succ_eq_append_getElem (by rw [str_length]; exact h), str_get s k h]
theorem E_zero (s : ByteArray) : E s 0 = [34] := by simp [E]
theorem E_succ (s : ByteArray) (k : Nat) (h : k < s.size) : E s (k + 1) = E s k ++ esc (s[k].toNat : Int) := by
  simp [E, take_snoc s k h]
theorem pl_succ (s : ByteArray) (k : Nat) (h : k < s.size) : pl s (k + 1) = (pl s k && plainB (s[k].toNat : Int)) := by
  simp [pl, take_snoc s k h]

theorem esc_len (c : Int) : 1 ≤ (esc c).length ∧ (esc c).length ≤ 6 := by
  unfold esc
  repeat' split
  all_goals simp
theorem esc_len_one (c : Int) : (esc c).length = 1 ↔ plainB c = true := by
  unfold esc plainB
  repeat' split
  all_goals simp
  all_goals omega

theorem esc_two (c : Int) (h : c = 34 ∨ c = 92) : esc c = [92, c] := by unfold esc; rw [if_pos h]
theorem esc_hex (c : Int) (h : c < 32) (h1 : c ≠ 10) (h2 : c ≠ 13) (h3 : c ≠ 9) (h4 : c ≠ 8) (h5 : c ≠ 12) : esc c = [92, 117, 48, 48, hx (c / 16), hx (c % 16)] := by
  unfold esc
  rw [if_neg (by omega), if_neg h1, if_neg h2, if_neg h3, if_neg h4, if_neg h5, if_pos h]
theorem esc_one (c : Int) (h : 32 ≤ c) (h1 : c ≠ 34) (h2 : c ≠ 92) : esc c = [c] := by
  unfold esc
  rw [if_neg (by omega), if_neg (by omega), if_neg (by omega), if_neg (by omega), if_neg (by omega), if_neg (by omega), if_neg (by omega)]

theorem E_len (s : ByteArray) (k : Nat) (h : k ≤ s.size) : 1 + k ≤ (E s k).length ∧ (E s k).length ≤ 1 + 6 * k := by
  induction k with
  | zero => rw [E_zero]; simp
  | succ k ih =>
    have := ih (by omega)
    have he := esc_len (s[k].toNat : Int)
    rw [E_succ s k (by omega), List.length_append]
    omega
theorem E_len_plain (s : ByteArray) (k : Nat) (h : k ≤ s.size) : (E s k).length = 1 + k ↔ pl s k = true := by
  induction k with
  | zero => rw [E_zero]; simp [pl]
  | succ k ih =>
    have := ih (by omega)
    have hb := E_len s k (by omega)
    have he := esc_len (s[k].toNat : Int)
    have ho := esc_len_one (s[k].toNat : Int)
    rw [E_succ s k (by omega), List.length_append, pl_succ s k (by omega), Bool.and_eq_true, ← this, ← ho]
    omega

/-- the program's table of hexadecimal digits -/
theorem hexAt (n : Int) (h0 : 0 ≤ n) (h1 : n < 16) (h : n.toNat < (⟨#[48, 49, 50, 51, 52, 53, 54, 55, 56, 57, 97, 98, 99, 100, 101, 102]⟩ : ByteArray).size) :
    (((⟨#[48, 49, 50, 51, 52, 53, 54, 55, 56, 57, 97, 98, 99, 100, 101, 102]⟩ : ByteArray)[n.toNat]'h).toNat : Int) = hx n := by
  have hn : n = 0 ∨ n = 1 ∨ n = 2 ∨ n = 3 ∨ n = 4 ∨ n = 5 ∨ n = 6 ∨ n = 7 ∨ n = 8 ∨ n = 9 ∨ n = 10 ∨ n = 11 ∨ n = 12 ∨ n = 13 ∨ n = 14 ∨ n = 15 := by omega
  rcases hn with rfl | rfl | rfl | rfl | rfl | rfl | rfl | rfl | rfl | rfl | rfl | rfl | rfl | rfl | rfl | rfl <;> rfl

theorem tok_len (s : ByteArray) : s.size + 2 ≤ (tok s).length ∧ (tok s).length ≤ 6 * s.size + 2 := by
  have := E_len s s.size (Nat.le_refl _)
  unfold tok
  rw [List.length_append]
  simp only [List.length_cons, List.length_nil]
  omega
theorem tok_plain (s : ByteArray) (n : Nat) (h : n = (tok s).length) : ((n : Int) == (s.size : Int) + 2) = pl s s.size := by
  have := E_len_plain s s.size (Nat.le_refl _)
  have hl : (tok s).length = (E s s.size).length + 1 := by unfold tok; rw [List.length_append]; rfl
  rw [Bool.eq_iff_iff, beq_iff_eq, ← this]
  omega
theorem plain_no (c : Int) (h : c < 32 ∨ c = 34 ∨ c = 92) : plainB c = false := by
  unfold plainB; rw [decide_eq_false_iff_not]; exact fun g => g h
theorem plain_yes (c : Int) (h : ¬ c < 32) (h1 : ¬ c = 34) (h2 : ¬ c = 92) : plainB c = true := by
  unfold plainB; rw [decide_eq_true_iff]; omega

/-! ### where the token's bytes stand -/
theorem str_split (s : ByteArray) (k : Nat) (h : k < s.size) : str s = (str s).take k ++ (s[k].toNat : Int) :: (str s).drop (k + 1) := by
  have hl : k < (str s).length := by rw [str_length]; exact h
  rw [← str_get s k h, List.getElem_cons_drop hl, List.take_append_drop]
theorem tok_split (s : ByteArray) (k : Nat) (h : k < s.size) : tok s = E s k ++ (esc (s[k].toNat : Int) ++ (((str s).drop (k + 1)).flatMap esc ++ [34])) := by
  have ht : (str s).take s.size = str s := List.take_of_length_le (by rw [str_length]; exact Nat.le_refl _)
  have hs : (str s).flatMap esc = ((str s).take k ++ (s[k].toNat : Int) :: (str s).drop (k + 1)).flatMap esc := congrArg (fun l => l.flatMap esc) (str_split s k h)
  unfold tok E
  rw [ht, hs]
  simp
/-- the j-th byte of the k-th escape -/
theorem tok_at (s : ByteArray) (k : Nat) (h : k < s.size) (j : Nat) (u : Int) (hj : (esc (s[k].toNat : Int))[j]? = some u) : (tok s)[(E s k).length + j]? = some u := by
  have hlt : j < (esc (s[k].toNat : Int)).length := by
    rcases Nat.lt_or_ge j (esc (s[k].toNat : Int)).length with g | g
    · exact g
    · rw [List.getElem?_eq_none g] at hj; cases hj
  rw [tok_split s k h, List.getElem?_append_right (by omega), Nat.add_sub_cancel_left, List.getElem?_append_left hlt]
  exact hj
/-- behind the k-th escape there is still a byte -/
theorem tok_room (s : ByteArray) (k : Nat) (h : k < s.size) : (E s k).length + (esc (s[k].toNat : Int)).length + 1 ≤ (tok s).length := by
  rw [tok_split s k h]
  simp only [List.length_append, List.length_cons, List.length_nil]
  omega
theorem tok_end (s : ByteArray) : (tok s)[(E s s.size).length]? = some 34 := by
  unfold tok
  rw [List.getElem?_append_right (Nat.le_refl _), Nat.sub_self]
  rfl
theorem tok_last (s : ByteArray) : (tok s).length = (E s s.size).length + 1 := by
  unfold tok; rw [List.length_append]; rfl
theorem tok_first (s : ByteArray) : (tok s)[0]? = some 34 := by
  unfold tok E; rfl
theorem str_at (s : ByteArray) (k : Nat) (h : k < s.size) : (str s)[k]? = some (s[k].toNat : Int) := by
  rw [List.getElem?_eq_getElem (by rw [str_length]; exact h), str_get s k h]
theorem str_all (s : ByteArray) : (str s).take s.size = str s := List.take_of_length_le (by rw [str_length]; exact Nat.le_refl _)
theorem take_len (s : ByteArray) (k : Nat) (h : k ≤ s.size) : ((str s).take k).length = k := by
  rw [List.length_take, str_length]; omega

/-- the value of the four hexadecimal digits after j of them -/
def hexTo (c : Int) (j : Nat) : Int := if j ≤ 2 then 0 else if j = 3 then c / 16 else c
/-- the j-th of them -/
def digit (c : Int) (j : Nat) : Int := if j ≤ 1 then 0 else if j = 2 then c / 16 else c % 16
theorem digit_bd (c : Int) (h0 : 0 ≤ c) (h1 : c < 32) (j : Nat) : 0 ≤ digit c j ∧ digit c j < 16 := by
  unfold digit; split
  · omega
  · split <;> omega
theorem hexTo_bd (c : Int) (h0 : 0 ≤ c) (h1 : c < 32) (j : Nat) : 0 ≤ hexTo c j ∧ hexTo c j < 32 := by
  unfold hexTo; split
  · omega
  · split <;> omega
theorem hexTo_succ (c : Int) (j : Nat) (hj : j < 4) : hexTo c j * 16 + digit c j = hexTo c (j + 1) := by
  have h : j = 0 ∨ j = 1 ∨ j = 2 ∨ j = 3 := by omega
  rcases h with rfl | rfl | rfl | rfl
  · simp [hexTo, digit]
  · simp [hexTo, digit]
  · simp [hexTo, digit]
  · simp [hexTo, digit]; omega
theorem esc_digit (c : Int) (he : esc c = [92, 117, 48, 48, hx (c / 16), hx (c % 16)]) (j : Nat) (hj : j < 4) : (esc c)[2 + j]? = some (hx (digit c j)) := by
  rw [he]
  have h : j = 0 ∨ j = 1 ∨ j = 2 ∨ j = 3 := by omega
  rcases h with rfl | rfl | rfl | rfl <;> simp [digit] <;> rfl

end Go.Proofs.Qxb6600088a.Plain
