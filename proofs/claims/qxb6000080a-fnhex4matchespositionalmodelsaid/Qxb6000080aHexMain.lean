import Derived.Test.Qxb6000080aHexWalk
namespace Go.Proofs.Qxb6000080a.Hex
open Go.RowKit

set_option maxHeartbeats 400000 in
theorem clone_nil (w : World) : Calls Try.prog 9 #[.slice none 0 0] w fun e w' => e = .returned (.slice none 0 0) ∧ w' = w := by
  have hnil : ∀ W, (binOp .eql 22 (.slice none 0 0) (.slice none 0 0)).run Try.prog W = .ok (.bool true) W := fun W => Lib.run_eql_slice_nil W _ _ _ _ _ _ _ Try.underlying22
  go_enter Try.func9, Try.ntmps9
  go_wp2
  go_ret
  exact ⟨rfl, rfl⟩

set_option maxHeartbeats 400000 in
theorem main_long (a : Option Addr) (len cap : Nat) (w : World) (h : 1048576 < len) (hm : len ≤ maxLen) :
    Calls Try.prog 5 #[.slice a len cap] w fun e w' => e = .returned (.bool true) ∧ Below w.heap.size w w' := by
  unfold maxLen at hm
  go_enter Try.func5, Try.ntmps5
  go_wp2
  go_ret
  exact ⟨rfl, Below.refl _ _⟩

set_option maxHeartbeats 400000 in
theorem main_nil (w : World) : Calls Try.prog 5 #[.slice none 0 0] w fun e w' => e = .returned (.bool true) ∧ Below w.heap.size w w' := by
  go_enter Try.func5, Try.ntmps5
  go_wp2_with (first | (go_at_call 9; refine (clone_nil _).mono ?_; rintro e w' ⟨rfl, rfl⟩) | (go_at_call 15; refine (zzhex4_short _ _ _ _ (by omega)).mono ?_; rintro e w' ⟨rfl, rfl⟩) | go_in)
  go_ret
  exact ⟨rfl, Below.refl _ _⟩

set_option maxHeartbeats 400000 in
theorem main_short (x : Addr) (len cap : Nat) (zs : List Int) (w : World) (hl : len ≤ cap) (hz : zs.length = cap) (hcell : ∀ i, i < zs.length → w.cell? (x.add i) = some (.int .u8 (zs.getD i 0))) (hlen : len < 4) :
    Calls Try.prog 5 #[.slice (some x) len cap] w fun e w' => e = .returned (.bool true) ∧ Below w.heap.size w w' := by
  have HC : Hid (∀ i, i < zs.length → w.cell? (x.add i) = some (.int .u8 (zs.getD i 0))) := hcell
  clear hcell
  go_enter Try.func5, Try.ntmps5
  go_wp2_with (first | (go_at_call 9; refine (Byt.clone_some x len cap zs _ hl hz HC.out (by omega)).mono ?_; rintro e w1 ⟨rfl, hown, hbel⟩) | (go_at_call 15; refine (zzhex4_short _ _ _ _ hlen).mono ?_; rintro e w' ⟨rfl, rfl⟩) | go_in)
  go_ret
  exact ⟨rfl, hbel⟩

set_option maxHeartbeats 1000000 in
theorem main_four (x : Addr) (len cap : Nat) (zs : List Int) (w : World) (hl : len ≤ cap) (hz : zs.length = cap) (hcell : ∀ i, i < zs.length → w.cell? (x.add i) = some (.int .u8 (zs.getD i 0)))
    (hbd : ∀ j, 0 ≤ zs.getD j 0 ∧ zs.getD j 0 ≤ 255) (hlen : 4 ≤ len) (hmax : len ≤ 1048576) :
    Calls Try.prog 5 #[.slice (some x) len cap] w fun e w' => e = .returned (.bool true) ∧ Below w.heap.size w w' := by
  have HC : Hid (∀ i, i < zs.length → w.cell? (x.add i) = some (.int .u8 (zs.getD i 0))) := hcell
  have HB : Hid (∀ j, 0 ≤ zs.getD j 0 ∧ zs.getD j 0 ≤ 255) := hbd
  clear hcell hbd
  have hd4 : decide ((len : Int) < 4) = false := by simp; omega
  have hdm : decide ((1048576 : Int) < (len : Int)) = false := by simp; omega
  go_enter Try.func5, Try.ntmps5
  go_wp2_with (first | (go_at_call 9; refine (Byt.clone_some x len cap zs _ hl hz HC.out hmax).mono ?_; rintro e w1 ⟨rfl, hown, hbel⟩; have HW : Hid (∀ j, j < len → w1.cell? ⟨w.heap.size, j, none⟩ = some (.int .u8 (zs.getD j 0))) := fun j hj => (by rw [hown.cellAt j (by omega)]; simp [Byt.cells, hj, hz, show j < cap from by omega]); have HO : Hid (Below w.heap.size w w1) := hbel; clear hown hbel) | (go_at_call 15; refine (zzhex4_any w.heap.size len len zs _ hlen (Nat.le_refl _) hmax HW.out (fun j _ => HB.out j)).mono ?_; rintro e w' ⟨rfl, rfl⟩) | go_in)
  go_loop [5, 6, 7] (fun u b i => ∃ k : Nat, k ≤ 4 ∧ i = .int .i64 k ∧ b = .bool (all zs k) ∧ u = .int .i32 (acc zs k)) (fun _ _ i => 4 - (intOf i).toNat)
  case atStart => exact ⟨0, Nat.zero_le _, rfl, rfl, rfl⟩
  case round =>
    obtain ⟨k, hk, rfl, rfl, rfl⟩ := hrel
    by_cases hlt : k < 4
    · have hc := HW.out k (by omega)
      obtain ⟨ha1, ha2, ha3⟩ := acc_bd zs k hk
      have ha4 := ha3 hlt
      clear ha3
      have HS : Hid (acc zs (k + 1) = acc zs k * 16 + mv (zs.getD k 0)) := rfl
      have HT : Hid (all zs (k + 1) = (all zs k && ok (zs.getD k 0))) := rfl
      have hmv := mv_bd (zs.getD k 0)
      generalize zs.getD k 0 = c at *
      cases hok : ok c with
      | true =>
        go_wp2_with (go_at_call 16; refine (model_any _ _).mono ?_; rintro e w' ⟨rfl, rfl⟩)
        go_round
        case rel => exact ⟨k + 1, by omega, by go_num, by rw [HT.out, hok, Bool.and_true], by rw [HS.out]⟩
        case measure => simp [intOf]; omega
      | false =>
        go_wp2_with (go_at_call 16; refine (model_any _ _).mono ?_; rintro e w' ⟨rfl, rfl⟩)
        go_round
        case rel => exact ⟨k + 1, by omega, by go_num, by rw [HT.out, hok, Bool.and_false], by rw [HS.out]⟩
        case measure => simp [intOf]; omega
    · obtain rfl : k = 4 := by omega
      cases hal : all zs 4 with
      | true =>
        have hgot : (got zs == acc zs 4) = true := by unfold got; rw [hal]; simp
        go_wp2
        go_ret
        exact ⟨rfl, HO.out⟩
      | false =>
        have hgot : got zs = 0 := by unfold got; rw [hal]; rfl
        go_wp2
        go_ret
        exact ⟨rfl, HO.out⟩
end Go.Proofs.Qxb6000080a.Hex
