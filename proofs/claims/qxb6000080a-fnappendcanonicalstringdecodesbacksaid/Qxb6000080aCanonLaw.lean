namespace Go.Proofs.Qxb6000080a.Canon

def hexd (d : Int) : Int := if d < 10 then 48 + d else 87 + d
/-- One byte, as the canonical string has it. -/
def enc1 (c : Int) : List Int :=
  if c = 34 ∨ c = 92 then [92, c] else if c = 8 then [92, 98] else if c = 12 then [92, 102] else if c = 10 then [92, 110] else if c = 13 then [92, 114] else if c = 9 then [92, 116]
  else if c < 32 then [92, 117, 48, 48, hexd (c / 16), hexd (c % 16)] else [c]
def flat (l : List Int) : List Int := l.flatMap enc1
def full (l : List Int) : List Int := 34 :: (flat l ++ [34])

theorem enc_quote (c : Int) (h : c = 34 ∨ c = 92) : enc1 c = [92, c] := by unfold enc1; rw [if_pos h]
theorem enc_b : enc1 8 = [92, 98] := rfl
theorem enc_f : enc1 12 = [92, 102] := rfl
theorem enc_n : enc1 10 = [92, 110] := rfl
theorem enc_r : enc1 13 = [92, 114] := rfl
theorem enc_t : enc1 9 = [92, 116] := rfl
theorem enc_ctl (c : Int) (h : c < 32) (h8 : c ≠ 8) (h12 : c ≠ 12) (h10 : c ≠ 10) (h13 : c ≠ 13) (h9 : c ≠ 9) : enc1 c = [92, 117, 48, 48, hexd (c / 16), hexd (c % 16)] := by
  unfold enc1; rw [if_neg (by omega), if_neg h8, if_neg h12, if_neg h10, if_neg h13, if_neg h9, if_pos h]
theorem enc_raw (c : Int) (h : 32 ≤ c) (h34 : c ≠ 34) (h92 : c ≠ 92) : enc1 c = [c] := by
  unfold enc1; rw [if_neg (by omega), if_neg (by omega), if_neg (by omega), if_neg (by omega), if_neg (by omega), if_neg (by omega), if_neg (by omega)]

theorem enc_len (c : Int) : 1 ≤ (enc1 c).length ∧ (enc1 c).length ≤ 6 := by
  unfold enc1
  repeat' split
  all_goals simp

theorem flat_len (l : List Int) : (flat l).length ≤ 6 * l.length := by
  induction l with
  | nil => simp [flat]
  | cons c l ih =>
    have := enc_len c
    simp only [flat, List.flatMap_cons, List.length_append, List.length_cons] at ih ⊢
    omega

theorem flat_len_ge (l : List Int) : l.length ≤ (flat l).length := by
  induction l with
  | nil => simp [flat]
  | cons c l ih =>
    have := enc_len c
    simp only [flat, List.flatMap_cons, List.length_append, List.length_cons] at ih ⊢
    omega

theorem take_snoc (l : List Int) (k : Nat) (h : k < l.length) : l.take (k + 1) = l.take k ++ [l.getD k 0] := by
  rw [List.take_succ_eq_append_getElem h]
  congr 2
  simp [h]

theorem flat_snoc (l : List Int) (k : Nat) (h : k < l.length) : flat (l.take (k + 1)) = flat (l.take k) ++ enc1 (l.getD k 0) := by
  rw [take_snoc l k h]
  simp [flat]

theorem flat_split (l : List Int) (k : Nat) (h : k < l.length) : flat l = flat (l.take k) ++ (enc1 (l.getD k 0) ++ flat (l.drop (k + 1))) := by
  have e : l = l.take k ++ (l.getD k 0 :: l.drop (k + 1)) := by
    have := List.take_append_drop k l
    rw [List.drop_eq_getElem_cons h] at this
    rw [show l.getD k 0 = l[k] from by simp [h]]
    exact this.symm
  have h2 : flat (l.take k ++ (l.getD k 0 :: l.drop (k + 1))) = flat (l.take k) ++ (enc1 (l.getD k 0) ++ flat (l.drop (k + 1))) := by simp [flat]
  exact (congrArg flat e).trans h2

theorem full_len (l : List Int) : (full l).length = (flat l).length + 2 := by simp [full]

/-- The bytes of the k-th element, where they stand. -/
theorem full_at (l : List Int) (k : Nat) (h : k < l.length) (j : Nat) (hj : j < (enc1 (l.getD k 0)).length) :
    (full l).getD (1 + (flat (l.take k)).length + j) 0 = (enc1 (l.getD k 0)).getD j 0 := by
  unfold full
  rw [flat_split l k h]
  have e1 : 1 + (flat (l.take k)).length + j = ((flat (l.take k)).length + j) + 1 := by omega
  rw [e1, List.getD_cons_succ]
  simp only [List.append_assoc]
  rw [List.getD_eq_getElem?_getD, List.getElem?_append_right (by omega), show (flat (l.take k)).length + j - (flat (l.take k)).length = j from by omega,
    List.getElem?_append_left hj, ← List.getD_eq_getElem?_getD]

theorem full_room (l : List Int) (k : Nat) (h : k < l.length) : 1 + (flat (l.take k)).length + (enc1 (l.getD k 0)).length + 1 ≤ (full l).length := by
  rw [full_len]
  have := congrArg List.length (flat_split l k h)
  simp only [List.length_append] at this
  omega

theorem full_end (l : List Int) : (full l).getD (1 + (flat l).length) 0 = 34 := by
  unfold full
  rw [show 1 + (flat l).length = (flat l).length + 1 from by omega, List.getD_cons_succ, List.getD_eq_getElem?_getD, List.getElem?_append_right (Nat.le_refl _)]
  simp

theorem full_zero (l : List Int) : (full l).getD 0 0 = 34 := rfl

theorem hexd_bd (d : Int) (h0 : 0 ≤ d) (h1 : d ≤ 15) : 48 ≤ hexd d ∧ hexd d ≤ 102 := by unfold hexd; split <;> omega

/-- Every byte is one of nine kinds. -/
theorem kinds (c : Int) : (c = 34 ∨ c = 92) ∨ c = 8 ∨ c = 12 ∨ c = 10 ∨ c = 13 ∨ c = 9 ∨ (c < 32 ∧ c ≠ 8 ∧ c ≠ 12 ∧ c ≠ 10 ∧ c ≠ 13 ∧ c ≠ 9) ∨ (32 ≤ c ∧ c ≠ 34 ∧ c ≠ 92) := by omega
end Go.Proofs.Qxb6000080a.Canon
