import Derived.Test.Qxb6601248aInvWalk
namespace Go.Proofs.Qxb6601248a.Civ
open Go.RowKit

theorem same_date (y m d y' m' d' : Int) (hv : Cal.Valid y m d) (hv' : Cal.Valid y' m' d') (hn : Cal.num y m d = Cal.num y' m' d') : y' = y ∧ m' = m ∧ d' = d := by
  obtain ⟨a1, a2, a3⟩ := Cal.civil y m d (Cal.num y m d - 60) hv (by omega)
  obtain ⟨b1, b2, b3⟩ := Cal.civil y' m' d' (Cal.num y m d - 60) hv' (by omega)
  exact ⟨b1.symm.trans a1, b2.symm.trans a2, b3.symm.trans a3⟩

theorem dby_max : Cal.dby 10000 = 3652425 := by decide
theorem dby_lt (t : Int) (h : Cal.dby (t + 1) ≤ 3652424) : t + 1 ≤ 9999 := by
  unfold Cal.dby at h; omega

set_option maxHeartbeats 1000000 in
theorem model_any (days y m d : Int) (w : World) (hv : Cal.Valid y m d) (hn : Cal.num y m d = days + 719528) (h1 : -719528 ≤ days) (h2 : days ≤ 2932896) :
    Calls Try.prog 10 #[.int .i64 days] w fun e w' => e = .returned (.tuple #[.int .i64 y, .int .i64 m, .int .i64 d]) ∧ w' = w := by
  have FIN : Hid (∀ y' m' d' : Int, Cal.Valid y' m' d' → Cal.num y' m' d' = days + 719528 → y' = y ∧ m' = m ∧ d' = d) :=
    fun y' m' d' hv' hn' => same_date y m d y' m' d' hv hv' (by omega)
  clear hv hn
  go_enter Try.func10, Try.ntmps10
  go_wp2
  go_loop [5, 6] (fun r t => ∃ y : Int, 0 ≤ y ∧ y ≤ 9999 ∧ Cal.dby y ≤ days + 719528 ∧ t = .int .i64 y ∧ r = .int .i64 (days + 719528 - Cal.dby y)) (fun _ t => (9999 - intOf t).toNat)
  case atStart => exact ⟨0, by omega, by omega, by show (0 : Int) ≤ _; omega, rfl, congrArg _ (by show _ = days + 719528 - 0; omega)⟩
  case round =>
    obtain ⟨t, hy1, hy2, hy3, rfl, rfl⟩ := hrel
    have hb := dby_bd t hy1 hy2
    have HD : Hid (Cal.dby (t + 1) = Cal.dby t + 365 + Cal.lp t) := Cal.dby_succ t
    have HP : Hid ((leapB t = true → Cal.lp t = 1) ∧ (leapB t = false → Cal.lp t = 0)) := ⟨lp_true t, lp_false t⟩
    cases hl : leapB t
    all_goals
      have HL : Hid (Cal.lp t = if leapB t = true then 1 else 0) := by
        show _ = _
        cases h : leapB t
        · rw [HP.out.2 h]; rfl
        · rw [HP.out.1 h]; rfl
      clear HP
      by_cases c : days + 719528 - Cal.dby t < 365 + Cal.lp t
      · have hlp := HL.out
        rw [hl] at hlp
        simp at hlp
        have c' := c
        rw [hlp] at c'
        have HLP : Hid (days + 719528 - Cal.dby t < 365 + Cal.lp t) := c
        clear c hlp
        simp at c'
        go_wp2_with (go_at_call 16; refine (isLeap_any _ _ hy1).mono ?_; rintro e w' ⟨rfl, rfl⟩)
        go_loop [5, 8] (fun r k => ∃ m : Int, 1 ≤ m ∧ m ≤ 12 ∧ 0 ≤ days + 719528 - Cal.dby t - Cal.cum t m ∧ k = .int .i64 m ∧ r = .int .i64 (days + 719528 - Cal.dby t - Cal.cum t m)) (fun _ k => (12 - intOf k).toNat)
        case atStart => exact ⟨1, by omega, by omega, by simp [Cal.cum]; omega, rfl, congrArg _ (by simp [Cal.cum])⟩
        case round =>
          obtain ⟨k, hm1, hm2, hr, rfl, rfl⟩ := hrel
          have cb := cum_bd t k hm1 hm2
          have db := Cal.mlen_pos t k hm1 hm2
          have CS : Hid (Cal.cum t (k + 1) = Cal.cum t k + Cal.mlen t k) := Cal.cum_succ t k hm1 hm2
          by_cases hc : k < 12 ∧ Cal.mlen t k ≤ days + 719528 - Cal.dby t - Cal.cum t k
          · obtain ⟨hm, hd⟩ := hc
            go_wp2_with (go_at_call 11; refine (monthLen_any _ _ _ hy1 hm1 hm2).mono ?_; rintro e w' ⟨rfl, rfl⟩)
            go_round
            case rel => exact ⟨k + 1, by omega, by omega, by rw [CS.out]; omega, rfl, congrArg _ (by rw [CS.out]; omega)⟩
            case measure => simp [intOf]; omega
          · have hv : days + 719528 - Cal.dby t - Cal.cum t k < Cal.mlen t k := by
              by_cases e : k = 12
              · subst e
                have h13 : Cal.cum t (12 + 1) = 365 + Cal.lp t := by simp [Cal.cum]
                have := CS.out
                have := HLP.out
                omega
              · omega
            clear hc
            have RES : Hid (t = y ∧ k = m ∧ days + 719528 - Cal.dby t - Cal.cum t k + 1 = d) := FIN.out t k _ ⟨hy1, hy2, hm1, hm2, by omega, by omega⟩ (by unfold Cal.num; omega)
            by_cases hm : k < 12
            all_goals
              go_wp2_with (go_at_call 11; refine (monthLen_any _ _ _ hy1 hm1 hm2).mono ?_; rintro e w' ⟨rfl, rfl⟩)
              go_ret3
              obtain ⟨e1, e2, e3⟩ := RES.out
              rw [← e1, ← e2, ← e3]
              exact ⟨rfl, rfl⟩
      · have hlp := HL.out
        rw [hl] at hlp
        simp at hlp
        have HN : Hid (t + 1 ≤ 9999) := dby_lt t (by rw [HD.out]; omega)
        have HG : Hid (Cal.dby (t + 1) ≤ days + 719528) := by show _ ≤ _; rw [HD.out]; omega
        have HE : Hid (Cal.dby (t + 1) = Cal.dby t + 365 + (if leapB t = true then 1 else 0)) := by show _ = _; rw [HD.out, HL.out]
        rw [hlp] at c
        clear hlp
        go_wp2_with (go_at_call 16; refine (isLeap_any _ _ hy1).mono ?_; rintro e w' ⟨rfl, rfl⟩)
        go_round
        case rel => exact ⟨t + 1, by omega, HN.out, HG.out, rfl, congrArg _ (by rw [HE.out, hl]; simp; omega)⟩
        case measure => have := HN.out; simp [intOf]; omega

set_option maxHeartbeats 1000000 in
theorem count_walk (days : Int) (w : World) :
    Calls Try.prog 3 #[.int .i64 days] w fun e w' => e = .returned (.bool true) ∧ w' = w := by
  by_cases c1 : days < -719528
  · go_enter Try.func3, Try.ntmps3
    go_wp2
    go_ret
    exact ⟨rfl, rfl⟩
  by_cases c2 : 2932896 < days
  · go_enter Try.func3, Try.ntmps3
    go_wp2
    go_ret
    exact ⟨rfl, rfl⟩
  obtain ⟨y, m, d, hv, hn⟩ := Cal.exists_date (days + 719528).toNat (by omega)
  have HV : Hid (Cal.Valid y m d) := hv
  have HN : Hid (Cal.num y m d = days + 719528) := by show _ = _; omega
  clear hv hn
  go_enter Try.func3, Try.ntmps3
  go_wp2_with (first | (go_at_call 9; refine (zzcivil_any y m d _ _ HV.out HN.out).mono ?_; rintro e w' ⟨rfl, rfl⟩) | (go_at_call 10; refine (model_any _ y m d _ HV.out HN.out (by omega) (by omega)).mono ?_; rintro e w' ⟨rfl, rfl⟩))
  go_ret
  exact ⟨rfl, rfl⟩
end Go.Proofs.Qxb6601248a.Civ
