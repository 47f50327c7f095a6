import Derived.Test.Qxb6000080aParts
import Derived.BigQuiet
import Derived.Deep.QuietTactic
namespace Go.Proofs.Qxb6000080a.Canon
open Go.RowKit Go.Proofs.Qxb6000080a.Byt

set_option maxHeartbeats 400000 in
theorem eq_zero (pa pb : Option Addr) (ca cb : Nat) (w : World) :
    Calls Try.prog 11 #[.slice pa 0 ca, .slice pb 0 cb] w fun e w' => e = .returned (.bool true) ∧ ∃ m, w' = w.drewN m := by
  go_enter Try.func11, Try.ntmps11
  go_wp2
  refine wp_loop_rounds 1 ?_
  rw [rounds_succ]
  go_wp2
  go_ret
  exact ⟨rfl, 0, rfl⟩

set_option maxHeartbeats 1000000 in
theorem eq_some (ga gb L ca cb : Nat) (l : List Int) (w : World) (hL : L ≤ 8000000)
    (ha : ∀ j, j < L → w.cell? ⟨ga, j, none⟩ = some (.int .u8 (l.getD j 0))) (hb : ∀ j, j < L → w.cell? ⟨gb, j, none⟩ = some (.int .u8 (l.getD j 0))) :
    Calls Try.prog 11 #[.slice (some ⟨ga, 0, none⟩) L ca, .slice (some ⟨gb, 0, none⟩) L cb] w fun e w' => e = .returned (.bool true) ∧ ∃ m, w' = w.drewN m := by
  have HA : Hid (∀ j, j < L → w.cell? ⟨ga, j, none⟩ = some (.int .u8 (l.getD j 0))) := ha
  have HB : Hid (∀ j, j < L → w.cell? ⟨gb, j, none⟩ = some (.int .u8 (l.getD j 0))) := hb
  clear ha hb
  go_enter Try.func11, Try.ntmps11
  go_wp2
  go_loopw [5] (fun i wr => ∃ k : Nat, k ≤ L ∧ i = .int .i64 k ∧ ∃ m, wr = w.drewN m) (fun i _ => L - (intOf i).toNat)
  case atStart => exact ⟨0, Nat.zero_le _, rfl, 0, rfl⟩
  case round =>
    obtain ⟨k, hk, rfl, m, rfl⟩ := hrel
    by_cases hlt : k < L
    · have h1 := HA.out k hlt
      have h2 := HB.out k hlt
      have h3 : (k : Int) < (L : Int) := by omega
      generalize l.getD k 0 = c at *
      go_wp2
      go_quiet (fail)
      go_wp2
      go_roundw
      case rel => exact ⟨k + 1, by omega, by go_num, _, rfl⟩
      case measure => simp [intOf]; omega
    · go_wp2
      go_ret
      exact ⟨rfl, m, rfl⟩
end Go.Proofs.Qxb6000080a.Canon
