import Derived.Test.Qxb6601248aRows
import Derived.Test.Qxb6601248aCal
import Derived.WalkKit
import Derived.WalkSpells
import Derived.WalkLawsBesides
namespace Go.Proofs.Qxb6601248a.Civ
open Go.RowKit

def leapB (y : Int) : Bool := decide (y % 4 = 0 ∧ (y % 100 ≠ 0 ∨ y % 400 = 0))
theorem lp_true (y : Int) (h : leapB y = true) : Cal.lp y = 1 := by
  unfold leapB at h; unfold Cal.lp; rw [if_pos (of_decide_eq_true h)]
theorem lp_false (y : Int) (h : leapB y = false) : Cal.lp y = 0 := by
  unfold leapB at h; unfold Cal.lp; rw [if_neg (of_decide_eq_false h)]

set_option maxHeartbeats 400000 in
theorem isLeap_any (y : Int) (w : World) (h0 : 0 ≤ y) :
    Calls Try.prog 16 #[.int .i64 y] w fun e w' => e = .returned (.bool (leapB y)) ∧ w' = w := by
  by_cases c4 : y % 4 = 0
  · have b4 : (y % 4 == 0) = true := beq_iff_eq.2 c4
    by_cases c100 : y % 100 = 0
    · have b100 : (y % 100 != 0) = false := by simp [c100]
      by_cases c400 : y % 400 = 0
      · have b400 : (y % 400 == 0) = true := beq_iff_eq.2 c400
        have HL : Hid (leapB y = true) := decide_eq_true ⟨c4, .inr c400⟩
        clear c4 c100 c400
        go_enter Try.func16, Try.ntmps16
        go_wp2
        go_ret
        rw [HL.out]
        exact ⟨rfl, rfl⟩
      · have b400 : (y % 400 == 0) = false := beq_eq_false_iff_ne.2 c400
        have HL : Hid (leapB y = false) := decide_eq_false (by omega)
        clear c4 c100 c400
        go_enter Try.func16, Try.ntmps16
        go_wp2
        go_ret
        rw [HL.out]
        exact ⟨rfl, rfl⟩
    · have b100 : (y % 100 != 0) = true := by simp [c100]
      have HL : Hid (leapB y = true) := decide_eq_true ⟨c4, .inl c100⟩
      clear c4 c100
      go_enter Try.func16, Try.ntmps16
      go_wp2
      go_ret
      rw [HL.out]
      exact ⟨rfl, rfl⟩
  · have b4 : (y % 4 == 0) = false := beq_eq_false_iff_ne.2 c4
    have HL : Hid (leapB y = false) := decide_eq_false (by omega)
    clear c4
    go_enter Try.func16, Try.ntmps16
    go_wp2
    go_ret
    rw [HL.out]
    exact ⟨rfl, rfl⟩

set_option maxHeartbeats 1000000 in
theorem monthLen_any (y m : Int) (w : World) (h0 : 0 ≤ y) (h1 : 1 ≤ m) (h2 : m ≤ 12) :
    Calls Try.prog 11 #[.int .i64 y, .int .i64 m] w fun e w' => e = .returned (.int .i64 (Cal.mlen y m)) ∧ w' = w := by
  by_cases c2 : m = 2
  · subst c2
    cases hl : leapB y with
    | true =>
      have HM : Hid (Cal.mlen y 2 = 29) := by show _ = _; simp [Cal.mlen, lp_true y hl]
      go_enter Try.func11, Try.ntmps11
      go_wp2_with (go_at_call 16; refine (isLeap_any _ _ h0).mono ?_; rintro e w' ⟨rfl, rfl⟩)
      go_ret
      rw [HM.out]
      exact ⟨rfl, rfl⟩
    | false =>
      have HM : Hid (Cal.mlen y 2 = 28) := by show _ = _; simp [Cal.mlen, lp_false y hl]
      go_enter Try.func11, Try.ntmps11
      go_wp2_with (go_at_call 16; refine (isLeap_any _ _ h0).mono ?_; rintro e w' ⟨rfl, rfl⟩)
      go_ret
      rw [HM.out]
      exact ⟨rfl, rfl⟩
  · rcases Cal.months m h1 h2 with rfl | rfl | rfl | rfl | rfl | rfl | rfl | rfl | rfl | rfl | rfl | rfl
    case inr.inl => exact absurd rfl c2
    all_goals
      clear c2 h1 h2
      go_enter Try.func11, Try.ntmps11
      go_wp2
      go_ret
      exact ⟨rfl, rfl⟩

set_option maxHeartbeats 1000000 in
theorem civil_pos (days a e Y D M : Int) (w : World) (hr1 : -719468 ≤ days) (hr2 : days ≤ 3000000) (hera : (days + 719468) / 146097 = a) (hdoe : days + 719468 - a * 146097 = e)
    (_he0 : 0 ≤ e) (_he1 : e ≤ 146096) (ha0 : 0 ≤ a) (ha1 : a ≤ 24)
    (hyoe : (e - e / 1460 + e / 36524 - e / 146096) / 365 = Y) (hY0 : 0 ≤ Y) (hY1 : Y ≤ 399)
    (hdoy : e - (365 * Y + Y / 4 - Y / 100) = D) (hD0 : 0 ≤ D) (hD1 : D ≤ 365)
    (hmp : (5 * D + 2) / 153 = M) (hM0 : 0 ≤ M) (hM1 : M ≤ 11) :
    Calls Try.prog 15 #[.int .i64 days] w fun e w' => e = .returned (.tuple #[.int .i64 (if 12 < M + 3 then Y + a * 400 + 1 else Y + a * 400), .int .i64 (if 12 < M + 3 then M + 3 - 12 else M + 3), .int .i64 (D - (153 * M + 2) / 5 + 1)]) ∧ w' = w := by
  go_enter Try.func15, Try.ntmps15
  go_wp2
  all_goals
    go_ret3
    exact ⟨rfl, rfl⟩

set_option maxHeartbeats 1000000 in
theorem civil_neg (days e Y D M : Int) (w : World) (hr1 : -719528 ≤ days) (hr2 : days < -719468) (hera : (days + 719468).tdiv 146097 = 0) (hdoe : days + 719468 + 146097 = e)
    (_he0 : 0 ≤ e) (_he1 : e ≤ 146096)
    (hyoe : (e - e / 1460 + e / 36524 - e / 146096) / 365 = Y) (hY0 : 0 ≤ Y) (hY1 : Y ≤ 399)
    (hdoy : e - (365 * Y + Y / 4 - Y / 100) = D) (hD0 : 0 ≤ D) (hD1 : D ≤ 365)
    (hmp : (5 * D + 2) / 153 = M) (hM0 : 0 ≤ M) (hM1 : M ≤ 11) :
    Calls Try.prog 15 #[.int .i64 days] w fun e w' => e = .returned (.tuple #[.int .i64 (if 12 < M + 3 then Y + -1 * 400 + 1 else Y + -1 * 400), .int .i64 (if 12 < M + 3 then M + 3 - 12 else M + 3), .int .i64 (D - (153 * M + 2) / 5 + 1)]) ∧ w' = w := by
  go_enter Try.func15, Try.ntmps15
  go_wp2
  all_goals
    go_ret3
    exact ⟨rfl, rfl⟩

/-- civilDate at the day number of a valid date gives that date. -/
theorem civil_any (y m d days : Int) (w : World) (hv : Cal.Valid y m d) (hn : Cal.num y m d = days + 719528) :
    Calls Try.prog 15 #[.int .i64 days] w fun e w' => e = .returned (.tuple #[.int .i64 y, .int .i64 m, .int .i64 d]) ∧ w' = w := by
  obtain ⟨g1, g2, g3⟩ := Cal.civil y m d (days + 719468) hv (by omega)
  obtain ⟨⟨b1, b2⟩, b3, b4⟩ := Cal.civil_bd y m d (days + 719468) hv (by omega)
  obtain ⟨n1, n2⟩ := Cal.num_bd y m d hv
  have b5 : 0 ≤ Cal.mp ((days + 719468) % 146097) := by unfold Cal.mp; omega
  have b6 : Cal.mp ((days + 719468) % 146097) ≤ 11 := by unfold Cal.mp; omega
  rw [← g1, ← g2, ← g3]
  by_cases hz : days < -719468
  · have ea : (days + 719468) / 146097 = -1 := by omega
    have et : (days + 719468).tdiv 146097 = 0 := by
      rw [show days + 719468 = -(-(days + 719468)) from by omega, Int.neg_tdiv, Int.tdiv_eq_ediv_of_nonneg (by omega)]
      omega
    rw [ea]
    exact civil_neg days ((days + 719468) % 146097) (Cal.yoe ((days + 719468) % 146097)) (Cal.doy ((days + 719468) % 146097)) (Cal.mp ((days + 719468) % 146097)) w (by omega) hz
      et (by omega) (by omega) (by omega) rfl b1 b2 rfl b3 b4 rfl b5 b6
  · exact civil_pos days ((days + 719468) / 146097) ((days + 719468) % 146097) (Cal.yoe ((days + 719468) % 146097)) (Cal.doy ((days + 719468) % 146097)) (Cal.mp ((days + 719468) % 146097)) w (by omega) (by omega)
      rfl (by omega) (by omega) (by omega) (by omega) (by omega) rfl b1 b2 rfl b3 b4 rfl b5 b6

set_option maxHeartbeats 400000 in
theorem zzcivil_any (y m d days : Int) (w : World) (hv : Cal.Valid y m d) (hn : Cal.num y m d = days + 719528) :
    Calls Try.prog 9 #[.int .i64 days] w fun e w' => e = .returned (.tuple #[.int .i64 y, .int .i64 m, .int .i64 d]) ∧ w' = w := by
  have HV : Hid (Cal.Valid y m d) := hv
  have HN : Hid (Cal.num y m d = days + 719528) := hn
  clear hv hn
  go_enter Try.func9, Try.ntmps9
  go_wp2_with (go_at_call 15; refine (civil_any _ _ _ _ _ HV.out HN.out).mono ?_; rintro e w' ⟨rfl, rfl⟩)
  go_ret3
  exact ⟨rfl, rfl⟩
end Go.Proofs.Qxb6601248a.Civ
