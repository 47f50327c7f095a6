import Derived.Test.Qxb6601248aCivWalk
namespace Go.Proofs.Qxb6601248a.Civ
open Go.RowKit

theorem dby_bd (y : Int) (h0 : 0 ≤ y) (h1 : y ≤ 9999) : 0 ≤ Cal.dby y ∧ Cal.dby y ≤ 3652060 := by unfold Cal.dby; omega
theorem cum_bd (y m : Int) (h1 : 1 ≤ m) (h2 : m ≤ 12) : 0 ≤ Cal.cum y m ∧ Cal.cum y m ≤ 366 := by
  have hl := Cal.lp_01 y
  rcases Cal.months m h1 h2 with rfl | rfl | rfl | rfl | rfl | rfl | rfl | rfl | rfl | rfl | rfl | rfl <;> simp [Cal.cum] <;> omega

set_option maxHeartbeats 1000000 in
theorem inv_main (y m d : Int) (w : World) (hy0 : 0 ≤ y) (hy1 : y ≤ 9999) (hm0 : 1 ≤ m) (hm1 : m ≤ 12) (hd0 : 1 ≤ d) (hd1 : d ≤ Cal.mlen y m) :
    Calls Try.prog 4 #[.int .i64 y, .int .i64 m, .int .i64 d] w fun e w' => e = .returned (.bool true) ∧ w' = w := by
  have HV : Hid (Cal.Valid y m d) := ⟨hy0, hy1, hm0, hm1, hd0, hd1⟩
  have hml := Cal.mlen_pos y m hm0 hm1
  have HS : Hid (365 * y + (y + 3) / 4 - (y + 99) / 100 + (y + 399) / 400 = Cal.dby y + Cal.cum y 1) := by
    show _ = _
    simp [Cal.dby, Cal.cum]
  have hdb := dby_bd y hy0 hy1
  go_enter Try.func4, Try.ntmps4
  go_wp2_with (go_at_call 11; refine (monthLen_any _ _ _ hy0 hm0 hm1).mono ?_; rintro e w' ⟨rfl, rfl⟩)
  go_loop [7, 8] (fun n i => ∃ k : Int, 1 ≤ k ∧ k ≤ m ∧ i = .int .i64 k ∧ n = .int .i64 (Cal.dby y + Cal.cum y k)) (fun _ i => (12 - intOf i).toNat)
  case atStart => exact ⟨1, by omega, hm0, rfl, congrArg _ HS.out⟩
  case round =>
    obtain ⟨k, hk0, hk1, rfl, rfl⟩ := hrel
    have hcb := cum_bd y k hk0 (by omega)
    have hlb := Cal.mlen_pos y k hk0 (by omega)
    by_cases hlt : k < m
    · have HC : Hid (Cal.cum y (k + 1) = Cal.cum y k + Cal.mlen y k) := Cal.cum_succ y k hk0 (by omega)
      go_wp2_with (go_at_call 11; refine (monthLen_any _ _ _ hy0 hk0 (by omega)).mono ?_; rintro e w' ⟨rfl, rfl⟩)
      go_round
      case rel => exact ⟨k + 1, by omega, by omega, rfl, congrArg _ (by rw [HC.out]; omega)⟩
      case measure => simp [intOf]; omega
    · obtain rfl : k = m := by omega
      go_wp2_with (go_at_call 9; refine (zzcivil_any y k d _ _ HV.out (by unfold Cal.num; omega)).mono ?_; rintro e w' ⟨rfl, rfl⟩)
      go_ret
      exact ⟨rfl, rfl⟩

set_option maxHeartbeats 1000000 in
theorem inv_walk (y m d : Int) (w : World) (hd2 : d ≤ 9223372036854775807) :
    Calls Try.prog 4 #[.int .i64 y, .int .i64 m, .int .i64 d] w fun e w' => e = .returned (.bool true) ∧ w' = w := by
  by_cases c1 : y < 0
  · go_enter Try.func4, Try.ntmps4
    go_wp2
    go_ret
    exact ⟨rfl, rfl⟩
  by_cases c2 : 9999 < y
  · go_enter Try.func4, Try.ntmps4
    go_wp2
    go_ret
    exact ⟨rfl, rfl⟩
  by_cases c3 : m < 1
  · go_enter Try.func4, Try.ntmps4
    go_wp2
    go_ret
    exact ⟨rfl, rfl⟩
  by_cases c4 : 12 < m
  · go_enter Try.func4, Try.ntmps4
    go_wp2
    go_ret
    exact ⟨rfl, rfl⟩
  by_cases c5 : d < 1
  · go_enter Try.func4, Try.ntmps4
    go_wp2_with fail
    go_ret
    exact ⟨rfl, rfl⟩
  by_cases c6 : Cal.mlen y m < d
  · go_enter Try.func4, Try.ntmps4
    go_wp2_with (go_at_call 11; refine (monthLen_any _ _ _ (by omega) (by omega) (by omega)).mono ?_; rintro e w' ⟨rfl, rfl⟩)
    go_ret
    exact ⟨rfl, rfl⟩
  exact inv_main y m d w (by omega) (by omega) (by omega) (by omega) (by omega) (by omega)
end Go.Proofs.Qxb6601248a.Civ
