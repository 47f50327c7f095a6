import Derived.Test.Qxb6601248aRows
import Derived.Test.Qxb6601248aSpecLaw
import Derived.WalkKit
import Derived.WalkSpells
import Derived.WalkLawsBesides
import Derived.Laws.BitsAllLaws
namespace Go.Proofs.Qxb6601248a.Spec
open Go.RowKit

theorem wrap_dif (y k : Nat) (hy : y < 18446744073709551616) (hk : k < 18446744073709551616) : IntKind.u64.wrap ((y : Int) - (k : Int)) = ((dif y k : Nat) : Int) := by
  rw [IntKind.wrap_u64]; unfold dif; omega
theorem dif_lt (y k : Nat) : dif y k < 18446744073709551616 := Nat.mod_lt _ (by decide)

theorem res_walk (x : Nat) (hx : x < 18446744073709551616) :
    bits BinOp.and IntKind.u64 (bits BinOp.or IntKind.u64 (↑x) (bits BinOp.or IntKind.u64 (bits BinOp.or IntKind.u64 (IntKind.u64.wrap (↑x - 2314885530818453536))
      (IntKind.u64.wrap (bits BinOp.xor IntKind.u64 (↑x) 2459565876494606882 - 72340172838076673))) (IntKind.u64.wrap (bits BinOp.xor IntKind.u64 (↑x) 6655295901103053916 - 72340172838076673)))) 9259542123273814144 = ((res x : Nat) : Int) := by
  have e1 : bits BinOp.xor IntKind.u64 (↑x) 2459565876494606882 = ((x ^^^ 2459565876494606882 : Nat) : Int) := u64_xor_nat x 2459565876494606882 hx (by decide)
  have e2 : bits BinOp.xor IntKind.u64 (↑x) 6655295901103053916 = ((x ^^^ 6655295901103053916 : Nat) : Int) := u64_xor_nat x 6655295901103053916 hx (by decide)
  have f1 : IntKind.u64.wrap ((x : Int) - 2314885530818453536) = ((dif x 2314885530818453536 : Nat) : Int) := wrap_dif x 2314885530818453536 hx (by decide)
  have f2 : IntKind.u64.wrap (((x ^^^ 2459565876494606882 : Nat) : Int) - 72340172838076673) = ((dif (x ^^^ 2459565876494606882) 72340172838076673 : Nat) : Int) := wrap_dif (x ^^^ 2459565876494606882) 72340172838076673 (xor_lt _ _ hx (by decide)) (by decide)
  have f3 : IntKind.u64.wrap (((x ^^^ 6655295901103053916 : Nat) : Int) - 72340172838076673) = ((dif (x ^^^ 6655295901103053916) 72340172838076673 : Nat) : Int) := wrap_dif (x ^^^ 6655295901103053916) 72340172838076673 (xor_lt _ _ hx (by decide)) (by decide)
  have lor : ∀ a b : Nat, a < 18446744073709551616 → b < 18446744073709551616 → a ||| b < 18446744073709551616 := fun a b ha hb => Nat.or_lt_two_pow (n := 64) ha hb
  rw [e1, e2, f1, f2, f3]
  have d1 := dif_lt x 2314885530818453536
  have d2 := dif_lt (x ^^^ 2459565876494606882) 72340172838076673
  have d3 := dif_lt (x ^^^ 6655295901103053916) 72340172838076673
  rw [u64_or_nat _ _ d1 d2, u64_or_nat _ _ (lor _ _ d1 d2) d3, u64_or_nat _ _ hx (lor _ _ (lor _ _ d1 d2) d3)]
  exact u64_and_nat _ 9259542123273814144 (lor _ _ hx (lor _ _ (lor _ _ d1 d2) d3)) (by decide)

theorem ret_int {k : IntKind} {a b : Int} (h : a = b) : Ending.returned (.int k a) = .returned (.int k b) := by rw [h]

set_option maxHeartbeats 400000 in
theorem special_any (x : Nat) (w : World) (hx : x < 18446744073709551616) :
    Calls Try.prog 17 #[.int .u64 x] w fun e w' => e = .returned (.int .u64 (res x : Nat)) ∧ w' = w := by
  go_enter Try.func17, Try.ntmps17
  go_wp2
  go_ret
  exact ⟨ret_int (res_walk x hx), rfl⟩

set_option maxHeartbeats 400000 in
theorem zzspecial_any (x : Nat) (w : World) (hx : x < 18446744073709551616) :
    Calls Try.prog 12 #[.int .u64 x] w fun e w' => e = .returned (.int .u64 (res x : Nat)) ∧ w' = w := by
  go_enter Try.func12, Try.ntmps12
  go_wp2_with (go_at_call 17; refine (special_any _ _ hx).mono ?_; rintro e w' ⟨rfl, rfl⟩)
  go_ret
  exact ⟨rfl, rfl⟩

set_option maxHeartbeats 400000 in
theorem isSpecial_any (b : Nat) (w : World) :
    Calls Try.prog 13 #[.int .u64 b] w fun e w' => e = .returned (.bool (special b)) ∧ w' = w := by
  by_cases c1 : b = 34
  · subst c1
    go_enter Try.func13, Try.ntmps13
    go_wp2
    go_ret
    exact ⟨rfl, rfl⟩
  · by_cases c2 : b = 92
    · subst c2
      go_enter Try.func13, Try.ntmps13
      go_wp2
      go_ret
      exact ⟨rfl, rfl⟩
    · have h1 : (((b : Nat) : Int) == 34) = false := beq_eq_false_iff_ne.2 (by omega)
      have h2 : (((b : Nat) : Int) == 92) = false := beq_eq_false_iff_ne.2 (by omega)
      by_cases c3 : b < 32
      · have hs : special b = true := (special_iff b).2 (by omega)
        have HS : Hid (special b = true) := hs
        clear hs
        go_enter Try.func13, Try.ntmps13
        go_wp2
        go_ret
        rw [HS.out]
        exact ⟨rfl, rfl⟩
      · by_cases c4 : 128 ≤ b
        · have hd : decide ((128 : Int) ≤ (b : Int)) = true := by simp; omega
          have hs : special b = true := (special_iff b).2 (by omega)
          have HS : Hid (special b = true) := hs
          clear hs
          go_enter Try.func13, Try.ntmps13
          go_wp2
          go_ret
          rw [HS.out]
          exact ⟨rfl, rfl⟩
        · have hd : decide ((128 : Int) ≤ (b : Int)) = false := by simp; omega
          have hd3 : decide ((b : Int) < 32) = false := by simp; omega
          have hs : special b = false := (special_not b).2 (by omega)
          have HS : Hid (special b = false) := hs
          clear hs
          go_enter Try.func13, Try.ntmps13
          go_wp2
          go_ret
          rw [HS.out]
          exact ⟨rfl, rfl⟩

set_option maxHeartbeats 400000 in
theorem walk (x : Nat) (w : World) (hx : x < 18446744073709551616) :
    Calls Try.prog 6 #[.int .u64 x] w fun e w' => e = .returned (.bool true) ∧ w' = w := by
  have hnot : bits .andNot .u64 ((res x : Nat) : Int) 9259542123273814144 = 0 := by
    have h := u64_andNot_nat (res x) 9259542123273814144 (res_lt x) (by decide)
    rw [only_highs] at h
    exact h
  go_enter Try.func6, Try.ntmps6
  go_wp2_with (go_at_call 12; refine (zzspecial_any _ _ hx).mono ?_; rintro e w' ⟨rfl, rfl⟩)
  clear hnot
  go_loop [4, 5] (fun s i => ∃ k : Nat, k ≤ 8 ∧ i = .int .i64 k ∧ s = .bool (seen x k)) (fun _ i => 8 - (intOf i).toNat)
  case atStart => exact ⟨0, Nat.zero_le _, rfl, rfl⟩
  case round =>
    obtain ⟨k, hk, rfl, rfl⟩ := hrel
    by_cases hlt : k < 8
    · have hr := res_lt x
      have hb : bits .and .u64 ((x : Int) / 2 ^ (8 * k)) 255 = ((byte x k : Nat) : Int) := by
        have h := u64_and_nat (x / 2 ^ (8 * k)) 255 (Nat.lt_of_le_of_lt (Nat.div_le_self _ _) hx) (by decide)
        rw [nat_mask8] at h
        rw [← show ((x / 2 ^ (8 * k) : Nat) : Int) = (x : Int) / 2 ^ (8 * k) from by simp]
        exact h
      have hm : bits .and .u64 (((res x : Nat) : Int) / 2 ^ (8 * k + 7)) 1 = ((hib (res x) k : Nat) : Int) := by
        have h := u64_and_nat (res x / 2 ^ (8 * k + 7)) 1 (Nat.lt_of_le_of_lt (Nat.div_le_self _ _) hr) (by decide)
        rw [nat_mask1] at h
        rw [← show ((res x / 2 ^ (8 * k + 7) : Nat) : Int) = ((res x : Nat) : Int) / 2 ^ (8 * k + 7) from by simp]
        exact h
      have hsucc : Hid (seen x (k + 1) = (seen x k || special (byte x k))) := rfl
      cases hs : special (byte x k) with
      | true =>
        have h1 := marks x k hx hlt hs
        cases hn : seen x k with
        | true =>
          go_wp2_with (go_at_call 13; refine (isSpecial_any _ _).mono ?_; rintro e w' ⟨rfl, rfl⟩)
          go_round
          case rel => exact ⟨k + 1, by omega, by go_num, by rw [hsucc.out, hs, hn]; rfl⟩
          case measure => simp [intOf]; omega
        | false =>
          go_wp2_with (go_at_call 13; refine (isSpecial_any _ _).mono ?_; rintro e w' ⟨rfl, rfl⟩)
          go_round
          case rel => exact ⟨k + 1, by omega, by go_num, by rw [hsucc.out, hs, hn]; rfl⟩
          case measure => simp [intOf]; omega
      | false =>
        cases hn : seen x k with
        | true =>
          go_wp2_with (go_at_call 13; refine (isSpecial_any _ _).mono ?_; rintro e w' ⟨rfl, rfl⟩)
          go_round
          case rel => exact ⟨k + 1, by omega, by go_num, by rw [hsucc.out, hs, hn]; rfl⟩
          case measure => simp [intOf]; omega
        | false =>
          have h1 := plain x k hx hlt hn hs
          go_wp2_with (go_at_call 13; refine (isSpecial_any _ _).mono ?_; rintro e w' ⟨rfl, rfl⟩)
          go_round
          case rel => exact ⟨k + 1, by omega, by go_num, by rw [hsucc.out, hs, hn]; rfl⟩
          case measure => simp [intOf]; omega
    · go_wp2
      go_ret
      exact ⟨rfl, rfl⟩
end Go.Proofs.Qxb6601248a.Spec
