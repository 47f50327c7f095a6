import Derived.Test.Qxb6601248aCivWalk
namespace Go.Proofs.Qxb6601248a.Civ
open Go.RowKit

theorem succ_day (y m d : Int) (hv : Cal.Valid y m d) (h : d < Cal.mlen y m) (hn : Cal.num y m d < 3652424) : Cal.Valid y m (d + 1) ∧ Cal.num y m (d + 1) = Cal.num y m d + 1 := by
  have h1 := Cal.valid_succ y m d hv hn
  have h2 := Cal.num_succ y m d hv
  have e : Cal.succ y m d = (y, m, d + 1) := by unfold Cal.succ; rw [if_pos h]
  rw [e] at h1 h2
  exact ⟨h1, h2⟩
theorem succ_month (y m d : Int) (hv : Cal.Valid y m d) (h : ¬ d < Cal.mlen y m) (hm : m < 12) (hn : Cal.num y m d < 3652424) : Cal.Valid y (m + 1) 1 ∧ Cal.num y (m + 1) 1 = Cal.num y m d + 1 := by
  have h1 := Cal.valid_succ y m d hv hn
  have h2 := Cal.num_succ y m d hv
  have e : Cal.succ y m d = (y, m + 1, 1) := by unfold Cal.succ; rw [if_neg h, if_pos hm]
  rw [e] at h1 h2
  exact ⟨h1, h2⟩
theorem succ_year (y m d : Int) (hv : Cal.Valid y m d) (h : ¬ d < Cal.mlen y m) (hm : ¬ m < 12) (hn : Cal.num y m d < 3652424) : Cal.Valid (y + 1) 1 1 ∧ Cal.num (y + 1) 1 1 = Cal.num y m d + 1 := by
  have h1 := Cal.valid_succ y m d hv hn
  have h2 := Cal.num_succ y m d hv
  have e : Cal.succ y m d = (y + 1, 1, 1) := by unfold Cal.succ; rw [if_neg h, if_neg hm]
  rw [e] at h1 h2
  exact ⟨h1, h2⟩

set_option maxHeartbeats 1000000 in
theorem next_first (days : Int) (w : World) (h1 : -719528 ≤ days) (h2 : days ≤ -719528) : Calls Try.prog 5 #[.int .i64 days] w fun e w' => e = .returned (.bool true) ∧ w' = w := by
  have HV : Hid (Cal.Valid 0 1 1) := ⟨by decide, by decide, by decide, by decide, by decide, by decide⟩
  have HV2 : Hid (Cal.Valid 0 1 2) := ⟨by decide, by decide, by decide, by decide, by decide, by decide⟩
  have hml : Cal.mlen 0 1 = 31 := rfl
  have b1 : (days == -719528) = true := beq_iff_eq.2 (by omega)
  have b2 : (days == 2932896) = false := beq_eq_false_iff_ne.2 (by omega)
  go_enter Try.func5, Try.ntmps5
  go_wp2_with fail
  refine (zzcivil_any 0 1 1 _ _ HV.out (Cal.num_first.trans (by omega))).mono ?_
  rintro e w' ⟨rfl, rfl⟩
  go_wp2_with (go_at_call 11; refine (monthLen_any _ _ _ (by decide) (by decide) (by decide)).mono ?_; rintro e w' ⟨rfl, rfl⟩)
  refine (zzcivil_any 0 1 2 _ _ HV2.out ((show Cal.num 0 1 2 = 1 from by decide).trans (by omega))).mono ?_
  rintro e w' ⟨rfl, rfl⟩
  go_wp2_with (go_at_call 11; refine (monthLen_any _ _ _ (by decide) (by decide) (by decide)).mono ?_; rintro e w' ⟨rfl, rfl⟩)
  go_ret
  exact ⟨rfl, rfl⟩

set_option maxHeartbeats 1000000 in
theorem next_last (days : Int) (w : World) (h1 : 2932896 ≤ days) (h2 : days ≤ 2932896) : Calls Try.prog 5 #[.int .i64 days] w fun e w' => e = .returned (.bool true) ∧ w' = w := by
  have HV : Hid (Cal.Valid 9999 12 31) := ⟨by decide, by decide, by decide, by decide, by decide, by decide⟩
  have hml : Cal.mlen 9999 12 = 31 := rfl
  have b1 : (days == -719528) = false := beq_eq_false_iff_ne.2 (by omega)
  have b2 : (days == 2932896) = true := beq_iff_eq.2 (by omega)
  go_enter Try.func5, Try.ntmps5
  go_wp2_with fail
  refine (zzcivil_any 9999 12 31 _ _ HV.out (Cal.num_last.trans (by omega))).mono ?_
  rintro e w' ⟨rfl, rfl⟩
  go_wp2_with (go_at_call 11; refine (monthLen_any _ _ _ (by decide) (by decide) (by decide)).mono ?_; rintro e w' ⟨rfl, rfl⟩)
  go_ret
  exact ⟨rfl, rfl⟩

set_option maxHeartbeats 1000000 in
theorem next_mid (days y m d : Int) (w : World) (hv : Cal.Valid y m d) (hn : Cal.num y m d = days + 719528) (h1 : -719528 < days) (h2 : days < 2932896) :
    Calls Try.prog 5 #[.int .i64 days] w fun e w' => e = .returned (.bool true) ∧ w' = w := by
  have b1 : (days == -719528) = false := beq_eq_false_iff_ne.2 (by omega)
  have b2 : (days == 2932896) = false := beq_eq_false_iff_ne.2 (by omega)
  have HV : Hid (Cal.Valid y m d) := hv
  have HN : Hid (Cal.num y m d = days + 719528) := hn
  have hn' : Cal.num y m d < 3652424 := by omega
  have HN' : Hid (Cal.num y m d < 3652424) := hn'
  clear hn hn'
  obtain ⟨y0, y1, m0, m1, d0, d1⟩ := hv
  by_cases c : d < Cal.mlen y m
  · obtain ⟨hv', hn'⟩ := succ_day y m d HV.out c HN'.out
    have HV' : Hid (Cal.Valid y m (d + 1)) := hv'
    have HM : Hid (Cal.num y m (d + 1) = days + 1 + 719528) := by show _ = _; rw [hn', HN.out]; omega
    have hml := Cal.mlen_pos y m m0 m1
    clear hv' hn'
    go_enter Try.func5, Try.ntmps5
    go_wp2_with fail
    refine (zzcivil_any y m d _ _ HV.out HN.out).mono ?_
    rintro e w' ⟨rfl, rfl⟩
    go_wp2_with (go_at_call 11; refine (monthLen_any _ _ _ y0 m0 m1).mono ?_; rintro e w' ⟨rfl, rfl⟩)
    refine (zzcivil_any y m (d + 1) _ _ HV'.out HM.out).mono ?_
    rintro e w' ⟨rfl, rfl⟩
    go_wp2_with (go_at_call 11; refine (monthLen_any _ _ _ y0 m0 m1).mono ?_; rintro e w' ⟨rfl, rfl⟩)
    go_ret
    exact ⟨rfl, rfl⟩
  · by_cases c2 : m < 12
    · obtain ⟨hv', hn'⟩ := succ_month y m d HV.out c c2 HN'.out
      have HV' : Hid (Cal.Valid y (m + 1) 1) := hv'
      have HM : Hid (Cal.num y (m + 1) 1 = days + 1 + 719528) := by show _ = _; rw [hn', HN.out]; omega
      clear hv' hn'
      go_enter Try.func5, Try.ntmps5
      go_wp2_with fail
      refine (zzcivil_any y m d _ _ HV.out HN.out).mono ?_
      rintro e w' ⟨rfl, rfl⟩
      go_wp2_with (go_at_call 11; refine (monthLen_any _ _ _ y0 m0 m1).mono ?_; rintro e w' ⟨rfl, rfl⟩)
      refine (zzcivil_any y (m + 1) 1 _ _ HV'.out HM.out).mono ?_
      rintro e w' ⟨rfl, rfl⟩
      go_wp2_with (go_at_call 11; refine (monthLen_any _ _ _ y0 m0 m1).mono ?_; rintro e w' ⟨rfl, rfl⟩)
      go_ret
      exact ⟨rfl, rfl⟩
    · obtain ⟨hv', hn'⟩ := succ_year y m d HV.out c c2 HN'.out
      have HV' : Hid (Cal.Valid (y + 1) 1 1) := hv'
      have HM : Hid (Cal.num (y + 1) 1 1 = days + 1 + 719528) := by show _ = _; rw [hn', HN.out]; omega
      clear hv' hn'
      go_enter Try.func5, Try.ntmps5
      go_wp2_with fail
      refine (zzcivil_any y m d _ _ HV.out HN.out).mono ?_
      rintro e w' ⟨rfl, rfl⟩
      go_wp2_with (go_at_call 11; refine (monthLen_any _ _ _ y0 m0 m1).mono ?_; rintro e w' ⟨rfl, rfl⟩)
      refine (zzcivil_any (y + 1) 1 1 _ _ HV'.out HM.out).mono ?_
      rintro e w' ⟨rfl, rfl⟩
      go_wp2_with (go_at_call 11; refine (monthLen_any _ _ _ y0 m0 m1).mono ?_; rintro e w' ⟨rfl, rfl⟩)
      go_ret
      exact ⟨rfl, rfl⟩

set_option maxHeartbeats 1000000 in
theorem next_walk (days : Int) (w : World) :
    Calls Try.prog 5 #[.int .i64 days] w fun e w' => e = .returned (.bool true) ∧ w' = w := by
  by_cases c1 : days < -719528
  · go_enter Try.func5, Try.ntmps5
    go_wp2
    go_ret
    exact ⟨rfl, rfl⟩
  by_cases c2 : 2932896 < days
  · go_enter Try.func5, Try.ntmps5
    go_wp2
    go_ret
    exact ⟨rfl, rfl⟩
  by_cases c3 : days = -719528
  · exact next_first days w (by omega) (by omega)
  by_cases c4 : days = 2932896
  · exact next_last days w (by omega) (by omega)
  obtain ⟨y, m, d, hv, hn⟩ := Cal.exists_date (days + 719528).toNat (by omega)
  exact next_mid days y m d w hv (by omega) (by omega) (by omega)
end Go.Proofs.Qxb6601248a.Civ
