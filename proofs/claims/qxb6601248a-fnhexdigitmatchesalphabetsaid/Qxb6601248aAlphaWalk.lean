import Derived.Test.Qxb6601248aHexWalk
namespace Go.Proofs.Qxb6601248a.Alpha
open Go.RowKit

/-- The k-th digit of the lower and of the upper alphabet. -/
def lowd (k : Nat) : Int := if k < 10 then 48 + (k : Int) else 87 + k
def upd (k : Nat) : Int := if k < 10 then 48 + (k : Int) else 55 + k

/-- The digit that the loop has met after k rounds. -/
def want (c : Int) : Nat → Int
  | 0 => -1
  | k + 1 => if lowd k = c ∨ upd k = c then k else want c k

theorem want_hit (c : Int) (k : Nat) (h : lowd k = c ∨ upd k = c) : want c (k + 1) = k := by rw [want, if_pos h]
theorem want_miss (c : Int) (k : Nat) (h : ¬ (lowd k = c ∨ upd k = c)) : want c (k + 1) = want c k := by rw [want, if_neg h]

theorem want_16 (c : Int) (h0 : 0 ≤ c) (h1 : c ≤ 255) : want c 16 = Hex.val c := by
  simp only [want, Hex.val, lowd, upd]
  omega

theorem low_at (k : Nat) (h : k < 16) : (((({ data := #[48, 49, 50, 51, 52, 53, 54, 55, 56, 57, 97, 98, 99, 100, 101, 102] } : ByteArray)[k]'h).toNat : Nat) : Int) = lowd k := by
  have : ∀ j : Fin 16, (((({ data := #[48, 49, 50, 51, 52, 53, 54, 55, 56, 57, 97, 98, 99, 100, 101, 102] } : ByteArray)[j.1]'j.2).toNat : Nat) : Int) = lowd j.1 := by decide +kernel
  exact this ⟨k, h⟩
theorem up_at (k : Nat) (h : k < 16) : (((({ data := #[48, 49, 50, 51, 52, 53, 54, 55, 56, 57, 65, 66, 67, 68, 69, 70] } : ByteArray)[k]'h).toNat : Nat) : Int) = upd k := by
  have : ∀ j : Fin 16, (((({ data := #[48, 49, 50, 51, 52, 53, 54, 55, 56, 57, 65, 66, 67, 68, 69, 70] } : ByteArray)[j.1]'j.2).toNat : Nat) : Int) = upd j.1 := by decide +kernel
  exact this ⟨k, h⟩

set_option maxHeartbeats 400000 in
theorem walk (a0 : Int) (w : World) (h0 : 0 ≤ a0) (h1 : a0 ≤ 255) :
    Calls Try.prog 7 #[.int .u8 a0] w fun e w' => e = .returned (.bool true) ∧ w' = w := by
  go_enter Try.func7, Try.ntmps7
  go_wp2
  go_loop [3, 4] (fun t i => ∃ k : Nat, k ≤ 16 ∧ i = .int .i64 k ∧ t = .int .i32 (want a0 k)) (fun _ i => 16 - (intOf i).toNat)
  case atStart => exact ⟨0, Nat.zero_le _, rfl, rfl⟩
  case round =>
    obtain ⟨k, hk, rfl, rfl⟩ := hrel
    by_cases hlt : k < 16
    · have e1 := low_at k hlt
      have e2 := up_at k hlt
      by_cases c1 : lowd k = a0
      · have hL : ((((({ data := #[48, 49, 50, 51, 52, 53, 54, 55, 56, 57, 97, 98, 99, 100, 101, 102] } : ByteArray)[k]'hlt).toNat : Nat) : Int) == a0) = true := by rw [e1]; simpa using c1
        have H : Hid (want a0 (k + 1) = k) := want_hit a0 k (.inl c1)
        clear e1 e2 c1
        go_wp2
        go_round
        case rel => exact ⟨k + 1, by omega, by go_num, congrArg _ H.out.symm⟩
        case measure => simp [intOf]; omega
      · have hL : ((((({ data := #[48, 49, 50, 51, 52, 53, 54, 55, 56, 57, 97, 98, 99, 100, 101, 102] } : ByteArray)[k]'hlt).toNat : Nat) : Int) == a0) = false := by rw [e1]; simpa using c1
        by_cases c2 : upd k = a0
        · have hU : ((((({ data := #[48, 49, 50, 51, 52, 53, 54, 55, 56, 57, 65, 66, 67, 68, 69, 70] } : ByteArray)[k]'hlt).toNat : Nat) : Int) == a0) = true := by rw [e2]; simpa using c2
          have H : Hid (want a0 (k + 1) = k) := want_hit a0 k (.inr c2)
          clear e1 e2 c1 c2
          go_wp2
          go_round
          case rel => exact ⟨k + 1, by omega, by go_num, congrArg _ H.out.symm⟩
          case measure => simp [intOf]; omega
        · have hU : ((((({ data := #[48, 49, 50, 51, 52, 53, 54, 55, 56, 57, 65, 66, 67, 68, 69, 70] } : ByteArray)[k]'hlt).toNat : Nat) : Int) == a0) = false := by rw [e2]; simpa using c2
          have H : Hid (want a0 (k + 1) = want a0 k) := want_miss a0 k (by omega)
          clear e1 e2 c1 c2
          go_wp2
          go_round
          case rel => exact ⟨k + 1, by omega, by go_num, congrArg _ H.out.symm⟩
          case measure => simp [intOf]; omega
    · obtain rfl : k = 16 := by omega
      have he : (Hex.val a0 == want a0 16) = true := by rw [want_16 a0 h0 h1]; simp
      go_wp2_with (go_at_call 14; refine (Hex.zzhexDigit_any _ _ h0 h1).mono ?_; rintro e w' ⟨rfl, rfl⟩)
      go_ret
      exact ⟨rfl, rfl⟩
end Go.Proofs.Qxb6601248a.Alpha
