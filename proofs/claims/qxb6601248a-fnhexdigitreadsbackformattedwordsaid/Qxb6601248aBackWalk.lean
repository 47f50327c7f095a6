import Derived.Test.Qxb6601248aBackLaw
namespace Go.Proofs.Qxb6601248a.Back
open Go.RowKit

theorem inv_start (w : World) (v : Nat) (u : Bool) : Inv w v u 16 (w.alloc (.cells #[.int .u8 0, .int .u8 0, .int .u8 0, .int .u8 0, .int .u8 0, .int .u8 0, .int .u8 0, .int .u8 0, .int .u8 0, .int .u8 0, .int .u8 0, .int .u8 0, .int .u8 0, .int .u8 0, .int .u8 0, .int .u8 0] 33)) := by
  refine ⟨fun p hp => ⟨0, ?_⟩, fun p h1 h2 => by omega, fun p => ?_, (Grown.refl w).alloc _ _⟩
  · obtain rfl | rfl | rfl | rfl | rfl | rfl | rfl | rfl | rfl | rfl | rfl | rfl | rfl | rfl | rfl | rfl : p = 0 ∨ p = 1 ∨ p = 2 ∨ p = 3 ∨ p = 4 ∨ p = 5 ∨ p = 6 ∨ p = 7 ∨ p = 8 ∨ p = 9 ∨ p = 10 ∨ p = 11 ∨ p = 12 ∨ p = 13 ∨ p = 14 ∨ p = 15 := by omega
    all_goals simp [go_sem]
  · rw [frozen?_alloc_cells]; exact frozen_new w p

set_option maxHeartbeats 400000 in
theorem walk (v : Nat) (u : Bool) (w : World) (hv : v < 18446744073709551616) :
    Calls Try.prog 8 #[.int .u64 v, .bool u] w fun e w' => e = .returned (.bool true) ∧ Grown w w' := by
  have hstart := inv_start w v u
  go_enter Try.func8, Try.ntmps8
  go_wp2
  go_loopw [6, 7] (fun x i wr => ∃ j : Nat, j ≤ 16 ∧ i = .int .i64 ((j : Int) - 1) ∧ x = .int .u64 (up v j : Nat) ∧ Inv w v u j wr) (fun _ i _ => (intOf i + 1).toNat)
  case atStart => exact ⟨16, Nat.le_refl _, rfl, by rw [up_16], hstart⟩
  case round =>
    obtain ⟨j, hj, rfl, rfl, hinv⟩ := hrel
    clear hstart
    cases j with
    | zero =>
      rw [show (((0 : Nat) : Int) - 1) = -1 from rfl]
      have hcs : ∀ p, p < 16 → wr.cell? ⟨w.heap.size, p, none⟩ = some (.int .u8 (dig u (up v (p + 1) % 16))) := fun p hp => hinv.2.1 p (Nat.zero_le _) hp
      have hG := hinv.2.2.2
      clear hinv
      go_wp2
      go_loop [8, 9] (fun g i => ∃ k : Nat, k ≤ 16 ∧ i = .int .i64 k ∧ g = .int .u64 (up v k : Nat)) (fun _ i => 16 - (intOf i).toNat)
      case atStart => exact ⟨0, Nat.zero_le _, rfl, by rw [up_zero v hv]; rfl⟩
      case round =>
        obtain ⟨k, hk, rfl, rfl⟩ := hrel
        by_cases hlt : k < 16
        · have hc := hcs k hlt
          have hx := up_lt v (k + 1) hv
          have hup := up_succ v k hlt
          rw [hup]
          have hd : up v (k + 1) % 16 < 16 := Nat.mod_lt _ (by decide)
          have hval := val_dig u (up v (k + 1) % 16) hd
          have hle := dig_lt u (up v (k + 1) % 16) hd
          have hor : Hid (bits .or .u64 (((up v (k + 1) / 16 * 16 : Nat) : Int)) (((up v (k + 1) % 16 : Nat) : Int)) = ((up v (k + 1) : Nat) : Int)) := by
            show _ = _
            rw [u64_or_nat _ _ (by omega) (by omega), nat_join 4 _ _ (by omega) (by omega)]
            congr 1
            omega
          clear hcs hup
          generalize hdd : dig u (up v (k + 1) % 16) = b at *
          clear hdd
          go_wp2_with (go_at_call 14; refine (Hex.zzhexDigit_any _ _ (by omega) (by omega)).mono ?_; rintro e w' ⟨rfl, rfl⟩)
          go_round
          case rel => exact ⟨k + 1, by omega, by go_num, congrArg _ hor.out⟩
          case measure => simp [intOf]; omega
        · obtain rfl : k = 16 := by omega
          rw [up_16]
          clear hcs
          go_wp2
          go_ret
          exact ⟨rfl, hG⟩
    | succ m =>
      have ei : (((m + 1 : Nat) : Int) - 1) = m := by omega
      rw [ei]
      clear ei
      obtain ⟨n0, hcell⟩ := hinv.1 m (by omega)
      have hfz := hinv.2.2.1 m
      have hx := up_lt v (m + 1) hv
      have hup : Hid (up v m = up v (m + 1) / 16) := up_succ v m (by omega)
      have hd : up v (m + 1) % 16 < 16 := Nat.mod_lt _ (by decide)
      have hand : bits .and .u64 ((up v (m + 1) : Nat) : Int) 15 = ((up v (m + 1) % 16 : Nat) : Int) := by
        rw [show (15 : Int) = ((15 : Nat) : Int) from rfl, u64_and_nat _ _ hx (by decide), nat_mask4]
      have HI : Hid (Inv w v u (m + 1) wr) := hinv
      clear hinv
      cases u with
      | true =>
        go_wp2
        go_roundw
        case rel => exact ⟨m, by omega, rfl, by rw [hup.out]; go_num, inv_step HI.out (by omega) (up_at _ hd)⟩
        case measure => simp [intOf]
      | false =>
        go_wp2
        go_roundw
        case rel => exact ⟨m, by omega, rfl, by rw [hup.out]; go_num, inv_step HI.out (by omega) (low_at _ hd)⟩
        case measure => simp [intOf]
end Go.Proofs.Qxb6601248a.Back
