namespace Go.Proofs.Qxb6601248a.Spec

/-- Byte i of x, the first the lowest. -/
def byte (x i : Nat) : Nat := x / 2 ^ (8 * i) % 256
/-- The high bit of byte i. -/
def hib (x i : Nat) : Nat := x / 2 ^ (8 * i + 7) % 2
/-- The difference modulo 2^64. -/
def dif (x k : Nat) : Nat := (x + 18446744073709551616 - k) % 18446744073709551616

def special (b : Nat) : Bool := b == 34 || b == 92 || decide (b < 32) || decide (128 ≤ b)

def res (x : Nat) : Nat := (x ||| ((dif x 2314885530818453536 ||| dif (x ^^^ 2459565876494606882) 72340172838076673) ||| dif (x ^^^ 6655295901103053916) 72340172838076673)) &&& 9259542123273814144

def seen (x : Nat) : Nat → Bool
  | 0 => false
  | i + 1 => seen x i || special (byte x i)

theorem byte_lt (x i : Nat) : byte x i < 256 := Nat.mod_lt _ (by decide)

theorem byte_xor (x c i : Nat) : byte (x ^^^ c) i = byte x i ^^^ byte c i := by
  unfold byte
  rw [Nat.xor_div_two_pow]
  exact Nat.xor_mod_two_pow (n := 8)

theorem hib_bit (x i : Nat) : hib x i = if x.testBit (8 * i + 7) then 1 else 0 := by
  unfold hib
  rw [Nat.testBit_eq_decide_div_mod_eq]
  have : x / 2 ^ (8 * i + 7) % 2 = 0 ∨ x / 2 ^ (8 * i + 7) % 2 = 1 := by omega
  rcases this with h | h <;> simp [h]

theorem hib_byte (x i : Nat) : hib x i = byte x i / 128 := by
  unfold hib byte
  rw [Nat.pow_add, ← Nat.div_div_eq_div_mul]
  omega

theorem places (i : Nat) (h : i < 8) : i = 0 ∨ i = 1 ∨ i = 2 ∨ i = 3 ∨ i = 4 ∨ i = 5 ∨ i = 6 ∨ i = 7 := by omega

theorem bit_highs (i : Nat) (h : i < 8) : Nat.testBit 9259542123273814144 (8 * i + 7) = true := by
  rcases places i h with rfl | rfl | rfl | rfl | rfl | rfl | rfl | rfl <;> decide

theorem hib_res (x i : Nat) (h : i < 8) : hib (res x) i = if hib x i = 1 ∨ hib (dif x 2314885530818453536) i = 1 ∨ hib (dif (x ^^^ 2459565876494606882) 72340172838076673) i = 1 ∨ hib (dif (x ^^^ 6655295901103053916) 72340172838076673) i = 1 then 1 else 0 := by
  simp only [hib_bit, res, Nat.testBit_and, Nat.testBit_or, bit_highs i h]
  generalize Nat.testBit x (8 * i + 7) = a
  generalize Nat.testBit (dif x 2314885530818453536) (8 * i + 7) = b
  generalize Nat.testBit (dif (x ^^^ 2459565876494606882) 72340172838076673) (8 * i + 7) = c
  generalize Nat.testBit (dif (x ^^^ 6655295901103053916) 72340172838076673) (8 * i + 7) = d
  cases a <;> cases b <;> cases c <;> cases d <;> rfl

/-- Does the place below byte i take a borrow from it? -/
def bor (x k i : Nat) : Nat := if x % 2 ^ (8 * i) < k % 2 ^ (8 * i) then 1 else 0

theorem bor_01 (x k i : Nat) : bor x k i ≤ 1 := by unfold bor; split <;> omega

theorem dif_byte32 (x i : Nat) (_hx : x < 18446744073709551616) (h : i < 8) : byte (dif x 2314885530818453536) i = (byte x i + 224 - bor x 2314885530818453536 i) % 256 := by
  rcases places i h with rfl | rfl | rfl | rfl | rfl | rfl | rfl | rfl <;> simp [byte, dif, bor] <;> (try split) <;> omega
theorem dif_byte1 (x i : Nat) (_hx : x < 18446744073709551616) (h : i < 8) : byte (dif x 72340172838076673) i = (byte x i + 255 - bor x 72340172838076673 i) % 256 := by
  rcases places i h with rfl | rfl | rfl | rfl | rfl | rfl | rfl | rfl <;> simp [byte, dif, bor] <;> (try split) <;> omega

theorem bor_zero (x k : Nat) : bor x k 0 = 0 := by simp [bor]; omega
theorem bor_step32 (x i : Nat) (h : i < 7) (hb : bor x 2314885530818453536 i = 0) (hi : 32 ≤ byte x i) : bor x 2314885530818453536 (i + 1) = 0 := by
  rcases places i (by omega) with rfl | rfl | rfl | rfl | rfl | rfl | rfl | rfl <;> simp [byte, bor] at hb hi ⊢ <;> omega
theorem bor_step1 (x i : Nat) (h : i < 7) (hb : bor x 72340172838076673 i = 0) (hi : 1 ≤ byte x i) : bor x 72340172838076673 (i + 1) = 0 := by
  rcases places i (by omega) with rfl | rfl | rfl | rfl | rfl | rfl | rfl | rfl <;> simp [byte, bor] at hb hi ⊢ <;> omega
theorem byte_q (i : Nat) (h : i < 8) : byte 2459565876494606882 i = 34 := by
  rcases places i h with rfl | rfl | rfl | rfl | rfl | rfl | rfl | rfl <;> decide
theorem byte_s (i : Nat) (h : i < 8) : byte 6655295901103053916 i = 92 := by
  rcases places i h with rfl | rfl | rfl | rfl | rfl | rfl | rfl | rfl <;> decide

theorem xor_facts (b : Nat) (h : b < 256) : (b ≠ 34 → 1 ≤ b ^^^ 34) ∧ (b ≠ 92 → 1 ≤ b ^^^ 92) ∧ (b < 128 → b ^^^ 34 < 128 ∧ b ^^^ 92 < 128) := by
  have : ∀ j : Fin 256, (j.1 ≠ 34 → 1 ≤ j.1 ^^^ 34) ∧ (j.1 ≠ 92 → 1 ≤ j.1 ^^^ 92) ∧ (j.1 < 128 → j.1 ^^^ 34 < 128 ∧ j.1 ^^^ 92 < 128) := by decide +kernel
  exact this ⟨b, h⟩

theorem special_iff (b : Nat) : special b = true ↔ b = 34 ∨ b = 92 ∨ b < 32 ∨ 128 ≤ b := by
  simp [special, or_assoc]
theorem special_not (b : Nat) : special b = false ↔ b ≠ 34 ∧ b ≠ 92 ∧ 32 ≤ b ∧ b < 128 := by
  simp [special, and_assoc]

theorem xor_lt (x c : Nat) (hx : x < 18446744073709551616) (hc : c < 18446744073709551616) : x ^^^ c < 18446744073709551616 :=
  Nat.xor_lt_two_pow (n := 64) hx hc

/-- A special byte's high bit is set. -/
theorem marks (x i : Nat) (hx : x < 18446744073709551616) (h : i < 8) (hs : special (byte x i) = true) : hib (res x) i = 1 := by
  rw [hib_res x i h, if_pos]
  have hb := byte_lt x i
  rcases (special_iff _).1 hs with e | e | e | e
  · refine .inr (.inr (.inl ?_))
    have := bor_01 (x ^^^ 2459565876494606882) 72340172838076673 i
    rw [hib_byte, dif_byte1 _ i (xor_lt _ _ hx (by decide)) h, byte_xor, byte_q i h, e]
    show (0 + 255 - _) % 256 / 128 = 1
    omega
  · refine .inr (.inr (.inr ?_))
    have := bor_01 (x ^^^ 6655295901103053916) 72340172838076673 i
    rw [hib_byte, dif_byte1 _ i (xor_lt _ _ hx (by decide)) h, byte_xor, byte_s i h, e]
    show (0 + 255 - _) % 256 / 128 = 1
    omega
  · refine .inr (.inl ?_)
    have := bor_01 x 2314885530818453536 i
    rw [hib_byte, dif_byte32 x i hx h]
    omega
  · refine .inl ?_
    rw [hib_byte]
    omega

/-- As long as no special byte has come no borrow has. -/
theorem no_borrow (x i : Nat) (hi : i < 8) (hs : seen x i = false) :
    bor x 2314885530818453536 i = 0 ∧ bor (x ^^^ 2459565876494606882) 72340172838076673 i = 0 ∧ bor (x ^^^ 6655295901103053916) 72340172838076673 i = 0 := by
  induction i with
  | zero => exact ⟨bor_zero _ _, bor_zero _ _, bor_zero _ _⟩
  | succ i ih =>
    simp only [seen, Bool.or_eq_false_iff] at hs
    obtain ⟨h1, h2, h3⟩ := ih (by omega) hs.1
    obtain ⟨n1, n2, n3, n4⟩ := (special_not _).1 hs.2
    obtain ⟨g1, g2, _⟩ := xor_facts _ (byte_lt x i)
    exact ⟨bor_step32 x i (by omega) h1 n3, bor_step1 _ i (by omega) h2 (by rw [byte_xor, byte_q i (by omega)]; exact g1 n1), bor_step1 _ i (by omega) h3 (by rw [byte_xor, byte_s i (by omega)]; exact g2 n2)⟩

/-- Below the first special byte no high bit is set. -/
theorem plain (x i : Nat) (hx : x < 18446744073709551616) (h : i < 8) (hs : seen x i = false) (hb : special (byte x i) = false) : hib (res x) i = 0 := by
  rw [hib_res x i h, if_neg]
  obtain ⟨h1, h2, h3⟩ := no_borrow x i h hs
  obtain ⟨n1, n2, n3, n4⟩ := (special_not _).1 hb
  obtain ⟨g1, g2, g3⟩ := xor_facts _ (byte_lt x i)
  have g4 := g1 n1
  have g5 := g2 n2
  obtain ⟨g6, g7⟩ := g3 n4
  rw [hib_byte, hib_byte, hib_byte, hib_byte, dif_byte32 x i hx h, dif_byte1 _ i (xor_lt _ _ hx (by decide)) h, dif_byte1 _ i (xor_lt _ _ hx (by decide)) h, h1, h2, h3, byte_xor, byte_xor, byte_q i h, byte_s i h]
  omega

theorem res_lt (x : Nat) : res x < 18446744073709551616 :=
  Nat.lt_of_le_of_lt Nat.and_le_right (by decide)

/-- Only high bits are set. -/
theorem only_highs (x : Nat) : res x &&& (18446744073709551615 - 9259542123273814144) = 0 := by
  unfold res
  rw [Nat.and_assoc]
  exact Nat.and_zero _
end Go.Proofs.Qxb6601248a.Spec
