import Derived.Laws.BitsAllLaws
namespace Go.Proofs.Qxb6000080a.Hex

/-- The value of a hexadecimal digit, or -1. -/
def hv (c : Int) : Int := if 48 ≤ c ∧ c ≤ 57 then c - 48 else if 97 ≤ c ∧ c ≤ 102 then c - 87 else if 65 ≤ c ∧ c ≤ 70 then c - 55 else -1
def ok (c : Int) : Bool := decide (0 ≤ hv c)
def mv (c : Int) : Int := if ok c = true then hv c else 0
/-- The first k bytes, read as base-16 digits. -/
def acc (l : List Int) : Nat → Int
  | 0 => 0
  | k + 1 => acc l k * 16 + mv (l.getD k 0)
/-- Are the first k bytes hexadecimal digits? -/
def all (l : List Int) : Nat → Bool
  | 0 => true
  | k + 1 => all l k && ok (l.getD k 0)
/-- What hex4 answers at four bytes or more. -/
def got (l : List Int) : Int := if all l 4 = true then acc l 4 else 0

theorem hv_bd (c : Int) : -1 ≤ hv c ∧ hv c ≤ 15 := by unfold hv; split <;> (try split) <;> (try split) <;> omega
theorem mv_bd (c : Int) : 0 ≤ mv c ∧ mv c ≤ 15 := by
  have := hv_bd c
  unfold mv ok
  split
  · rename_i h; simp at h; omega
  · omega
theorem ok_digit (c : Int) (h1 : 48 ≤ c) (h2 : c ≤ 57) : ok c = true ∧ mv c = c - 48 := by
  have e : hv c = c - 48 := by unfold hv; rw [if_pos ⟨h1, h2⟩]
  have o : ok c = true := by unfold ok; rw [e]; simp; omega
  exact ⟨o, by unfold mv; rw [if_pos o, e]⟩
theorem ok_lower (c : Int) (h1 : 97 ≤ c) (h2 : c ≤ 102) : ok c = true ∧ mv c = c - 87 := by
  have e : hv c = c - 87 := by unfold hv; rw [if_neg (by omega), if_pos ⟨h1, h2⟩]
  have o : ok c = true := by unfold ok; rw [e]; simp; omega
  exact ⟨o, by unfold mv; rw [if_pos o, e]⟩
theorem ok_upper (c : Int) (h1 : 65 ≤ c) (h2 : c ≤ 70) : ok c = true ∧ mv c = c - 55 := by
  have e : hv c = c - 55 := by unfold hv; rw [if_neg (by omega), if_neg (by omega), if_pos ⟨h1, h2⟩]
  have o : ok c = true := by unfold ok; rw [e]; simp; omega
  exact ⟨o, by unfold mv; rw [if_pos o, e]⟩
theorem ok_none (c : Int) (h1 : ¬ (48 ≤ c ∧ c ≤ 57)) (h2 : ¬ (97 ≤ c ∧ c ≤ 102)) (h3 : ¬ (65 ≤ c ∧ c ≤ 70)) : ok c = false ∧ mv c = 0 := by
  have e : hv c = -1 := by unfold hv; rw [if_neg h1, if_neg h2, if_neg h3]
  have o : ok c = false := by unfold ok; rw [e]; rfl
  exact ⟨o, by unfold mv; rw [o]; rfl⟩

theorem acc_bd (l : List Int) (k : Nat) (h : k ≤ 4) : 0 ≤ acc l k ∧ acc l k < 65536 ∧ (k < 4 → acc l k < 4096) := by
  have h0 : acc l 0 = 0 := rfl
  have h1 : acc l 1 = acc l 0 * 16 + mv (l.getD 0 0) := rfl
  have h2 : acc l 2 = acc l 1 * 16 + mv (l.getD 1 0) := rfl
  have h3 : acc l 3 = acc l 2 * 16 + mv (l.getD 2 0) := rfl
  have h4 : acc l 4 = acc l 3 * 16 + mv (l.getD 3 0) := rfl
  have b0 := mv_bd (l.getD 0 0)
  have b1 := mv_bd (l.getD 1 0)
  have b2 := mv_bd (l.getD 2 0)
  have b3 := mv_bd (l.getD 3 0)
  obtain rfl | rfl | rfl | rfl | rfl : k = 0 ∨ k = 1 ∨ k = 2 ∨ k = 3 ∨ k = 4 := by omega
  all_goals omega

theorem all_stop (l : List Int) (k : Nat) (h : k < 4) (hk : ok (l.getD k 0) = false) : all l 4 = false := by
  obtain rfl | rfl | rfl | rfl : k = 0 ∨ k = 1 ∨ k = 2 ∨ k = 3 := by omega
  all_goals simp only [all, hk]; simp

theorem or_i32 (a b : Nat) (ha : a < 65536) (hb : b < 65536) : bits .or .i32 (a : Int) (b : Int) = ((a ||| b : Nat) : Int) := by
  have hl : a ||| b < 65536 := Nat.or_lt_two_pow (n := 16) ha hb
  have e : (BitVec.ofInt 32 (a : Int) ||| BitVec.ofInt 32 (b : Int)).toNat = a ||| b := by
    rw [BitVec.toNat_or, ofInt_u32 a (by omega), ofInt_u32 b (by omega)]
  show IntKind.i32.wrap ((BitVec.ofInt 32 (a : Int) ||| BitVec.ofInt 32 (b : Int)).toNat : Nat) = _
  rw [e]
  simp [IntKind.wrap, IntKind.bits, IntKind.signed]
  omega

/-- 'u<<4 | c'. -/
theorem join (u c : Int) (h0 : 0 ≤ u) (h1 : u < 4096) (h2 : 0 ≤ c) (h3 : c ≤ 15) : bits .or .i32 (u * 16) c = u * 16 + c := by
  obtain ⟨a, rfl⟩ := Int.eq_ofNat_of_zero_le h0
  obtain ⟨b, rfl⟩ := Int.eq_ofNat_of_zero_le h2
  have h := or_i32 (a * 16) b (by omega) (by omega)
  rw [nat_join 4 _ _ (by omega) (by omega)] at h
  rw [show ((a : Int) * 16) = ((a * 16 : Nat) : Int) from by omega, h]
  omega

/-- The p-th digit of the alphabet that the model searches. -/
def dg (p : Nat) : Int := if p < 10 then 48 + (p : Int) else if p < 16 then 87 + p else 49 + p
theorem dg_at (p : Nat) (h : p < 22) : (((({ data := #[48, 49, 50, 51, 52, 53, 54, 55, 56, 57, 97, 98, 99, 100, 101, 102, 65, 66, 67, 68, 69, 70] } : ByteArray)[p]'h).toNat : Nat) : Int) = dg p := by
  have : ∀ j : Fin 22, (((({ data := #[48, 49, 50, 51, 52, 53, 54, 55, 56, 57, 97, 98, 99, 100, 101, 102, 65, 66, 67, 68, 69, 70] } : ByteArray)[j.1]'j.2).toNat : Nat) : Int) = dg j.1 := by decide +kernel
  exact this ⟨p, h⟩
theorem dg_low (p : Nat) (h : p < 16) : ok (dg p) = true ∧ mv (dg p) = p := by
  unfold dg
  by_cases h1 : p < 10
  · rw [if_pos h1]
    have := ok_digit (48 + (p : Int)) (by omega) (by omega)
    exact ⟨this.1, by omega⟩
  · rw [if_neg h1, if_pos h]
    have := ok_lower (87 + (p : Int)) (by omega) (by omega)
    exact ⟨this.1, by omega⟩
theorem dg_up (p : Nat) (h : ¬ p < 16) (h2 : p < 22) : ok (dg p) = true ∧ mv (dg p) = (p : Int) - 6 := by
  unfold dg
  rw [if_neg (by omega), if_neg h]
  have := ok_upper (49 + (p : Int)) (by omega) (by omega)
  exact ⟨this.1, by omega⟩
theorem dg_none (c : Int) (h : ∀ p, p < 22 → dg p ≠ c) : ok c = false ∧ mv c = 0 := by
  refine ok_none c (fun hc => ?_) (fun hc => ?_) (fun hc => ?_)
  · refine h (c - 48).toNat (by omega) ?_
    unfold dg; rw [if_pos (by omega)]; omega
  · refine h (c - 87).toNat (by omega) ?_
    unfold dg; rw [if_neg (by omega), if_pos (by omega)]; omega
  · refine h (c - 49).toNat (by omega) ?_
    unfold dg; rw [if_neg (by omega), if_neg (by omega)]; omega
end Go.Proofs.Qxb6000080a.Hex
