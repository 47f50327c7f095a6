import Derived.Test.Qxb6000080aBytes
import Derived.Test.Qxb6000080aHexLaw
namespace Go.Proofs.Qxb6000080a.Hex
open Go.RowKit

set_option maxHeartbeats 400000 in
theorem model_any (c : Int) (w : World) :
    Calls Try.prog 16 #[.int .u8 c] w fun e w' => e = .returned (.tuple #[.int .i64 (mv c), .bool (ok c)]) ∧ w' = w := by
  go_enter Try.func16, Try.ntmps16
  go_wp2
  go_loop [4] (fun i => ∃ k : Nat, k ≤ 22 ∧ i = .int .i64 k ∧ Hid (∀ p, p < k → dg p ≠ c)) (fun i => 22 - (intOf i).toNat)
  case atStart => exact ⟨0, Nat.zero_le _, rfl, fun p hp => by omega⟩
  case round =>
    obtain ⟨k, hk, rfl, HN⟩ := hrel
    by_cases hlt : k < 22
    · have e1 := dg_at k hlt
      by_cases c1 : dg k = c
      · have hL : ((((({ data := #[48, 49, 50, 51, 52, 53, 54, 55, 56, 57, 97, 98, 99, 100, 101, 102, 65, 66, 67, 68, 69, 70] } : ByteArray)[k]'hlt).toNat : Nat) : Int) == c) = true := by rw [e1]; simpa using c1
        by_cases c2 : k < 16
        · have HR : Hid (ok c = true ∧ mv c = k) := by rw [← c1]; exact dg_low k c2
          clear e1 c1
          go_wp2
          go_ret2
          rw [HR.out.1, HR.out.2]
          exact ⟨rfl, rfl⟩
        · have HR : Hid (ok c = true ∧ mv c = (k : Int) - 6) := by rw [← c1]; exact dg_up k c2 hlt
          clear e1 c1
          go_wp2
          go_ret2
          rw [HR.out.1, HR.out.2]
          exact ⟨rfl, rfl⟩
      · have hL : ((((({ data := #[48, 49, 50, 51, 52, 53, 54, 55, 56, 57, 97, 98, 99, 100, 101, 102, 65, 66, 67, 68, 69, 70] } : ByteArray)[k]'hlt).toNat : Nat) : Int) == c) = false := by rw [e1]; simpa using c1
        have HN' : Hid (∀ p, p < k + 1 → dg p ≠ c) := fun p hp => by
          by_cases e : p = k
          · subst e; exact c1
          · exact HN.out p (by omega)
        clear e1 c1
        go_wp2
        go_round
        case rel => exact ⟨k + 1, by omega, by go_num, HN'⟩
        case measure => simp [intOf]; omega
    · have HR : Hid (ok c = false ∧ mv c = 0) := dg_none c (fun p hp => HN.out p (by omega))
      go_wp2
      go_ret2
      rw [HR.out.1, HR.out.2]
      exact ⟨rfl, rfl⟩

set_option maxHeartbeats 400000 in
theorem hex4_short (a : Option Addr) (len cap : Nat) (w : World) (h : len < 4) :
    Calls Try.prog 22 #[.slice a len cap] w fun e w' => e = .returned (.tuple #[.int .i32 0, .bool false]) ∧ w' = w := by
  go_enter Try.func22, Try.ntmps22
  go_wp2
  go_ret2
  exact ⟨rfl, rfl⟩

set_option maxHeartbeats 1000000 in
theorem hex4_any (g len cap : Nat) (l : List Int) (w : World) (h : 4 ≤ len) (hcap : len ≤ cap) (hm : len ≤ 1048576)
    (hcell : ∀ j, j < len → w.cell? ⟨g, j, none⟩ = some (.int .u8 (l.getD j 0))) (hbd : ∀ j, j < len → 0 ≤ l.getD j 0 ∧ l.getD j 0 ≤ 255) :
    Calls Try.prog 22 #[.slice (some ⟨g, 0, none⟩) len cap] w fun e w' => e = .returned (.tuple #[.int .i32 (got l), .bool (all l 4)]) ∧ w' = w := by
  have HC : Hid (∀ j, j < len → w.cell? ⟨g, j, none⟩ = some (.int .u8 (l.getD j 0))) := hcell
  have HB : Hid (∀ j, j < len → 0 ≤ l.getD j 0 ∧ l.getD j 0 ≤ 255) := hbd
  clear hcell hbd
  have hd4 : decide ((len : Int) < 4) = false := by simp; omega
  go_enter Try.func22, Try.ntmps22
  go_wp2
  go_loop [4, 13] (fun u i => ∃ k : Nat, k ≤ 4 ∧ i = .int .i64 k ∧ Hid (all l k = true) ∧ u = .int .i32 (acc l k)) (fun _ i => 4 - (intOf i).toNat)
  case atStart => exact ⟨0, Nat.zero_le _, rfl, rfl, rfl⟩
  case round =>
    obtain ⟨k, hk, rfl, HA, rfl⟩ := hrel
    by_cases hlt : k < 4
    · have hc := HC.out k (by omega)
      obtain ⟨hb1, hb2⟩ := HB.out k (by omega)
      obtain ⟨ha1, ha2, ha3⟩ := acc_bd l k hk
      have ha4 := ha3 hlt
      clear ha3
      have HS : Hid (acc l (k + 1) = acc l k * 16 + mv (l.getD k 0)) := rfl
      have HT : Hid (all l (k + 1) = (all l k && ok (l.getD k 0))) := rfl
      have HF : Hid (ok (l.getD k 0) = false → all l 4 = false) := all_stop l k hlt
      have HJ : Hid (∀ c, 0 ≤ c → c ≤ 15 → bits .or .i32 (acc l k * 16) c = acc l k * 16 + c) := fun c h2 h3 => join _ c ha1 ha4 h2 h3
      generalize l.getD k 0 = c at *
      by_cases c1 : 48 ≤ c ∧ c ≤ 57
      · obtain ⟨c1, c1'⟩ := c1
        have HR : Hid (ok c = true ∧ mv c = c - 48) := ok_digit c c1 c1'
        have hj := HJ.out (c - 48) (by omega) (by omega)
        go_wp2
        go_round
        case rel => exact ⟨k + 1, by omega, by go_num, by show _ = _; rw [HT.out, HA.out, HR.out.1]; rfl, by rw [HS.out, HR.out.2]⟩
        case measure => simp [intOf]; omega
      · by_cases c2 : 97 ≤ c ∧ c ≤ 102
        · obtain ⟨c2, c2'⟩ := c2
          have HR : Hid (ok c = true ∧ mv c = c - 87) := ok_lower c c2 c2'
          have hj := HJ.out (c - 87) (by omega) (by omega)
          have g1 : 57 < c := by omega
          clear c1
          go_wp2
          go_round
          case rel => exact ⟨k + 1, by omega, by go_num, by show _ = _; rw [HT.out, HA.out, HR.out.1]; rfl, by rw [HS.out, HR.out.2]⟩
          case measure => simp [intOf]; omega
        · by_cases c3 : 65 ≤ c ∧ c ≤ 70
          · obtain ⟨c3, c3'⟩ := c3
            have HR : Hid (ok c = true ∧ mv c = c - 55) := ok_upper c c3 c3'
            have hj := HJ.out (c - 55) (by omega) (by omega)
            have g1 : 57 < c := by omega
            clear c1 c2
            go_wp2
            go_round
            case rel => exact ⟨k + 1, by omega, by go_num, by show _ = _; rw [HT.out, HA.out, HR.out.1]; rfl, by rw [HS.out, HR.out.2]⟩
            case measure => simp [intOf]; omega
          · have HR : Hid (all l 4 = false) := HF.out (ok_none c c1 c2 c3).1
            rcases (show c < 48 ∨ (57 < c ∧ c < 65) ∨ (70 < c ∧ c < 97) ∨ 102 < c from by omega) with g | g | g | g
            all_goals
              clear c1 c2 c3
              try obtain ⟨g, g'⟩ := g
              go_wp2
              go_ret2
              unfold got
              rw [HR.out]
              exact ⟨rfl, rfl⟩
    · obtain rfl : k = 4 := by omega
      go_wp2
      go_ret2
      unfold got
      rw [HA.out]
      exact ⟨rfl, rfl⟩

set_option maxHeartbeats 400000 in
theorem zzhex4_short (a : Option Addr) (len cap : Nat) (w : World) (h : len < 4) :
    Calls Try.prog 15 #[.slice a len cap] w fun e w' => e = .returned (.tuple #[.int .i32 0, .bool false]) ∧ w' = w := by
  go_enter Try.func15, Try.ntmps15
  go_wp2_with (go_at_call 22; refine (hex4_short _ _ _ _ h).mono ?_; rintro e w' ⟨rfl, rfl⟩)
  go_ret2
  exact ⟨rfl, rfl⟩

set_option maxHeartbeats 400000 in
theorem zzhex4_any (g len cap : Nat) (l : List Int) (w : World) (h : 4 ≤ len) (hcap : len ≤ cap) (hm : len ≤ 1048576)
    (hcell : ∀ j, j < len → w.cell? ⟨g, j, none⟩ = some (.int .u8 (l.getD j 0))) (hbd : ∀ j, j < len → 0 ≤ l.getD j 0 ∧ l.getD j 0 ≤ 255) :
    Calls Try.prog 15 #[.slice (some ⟨g, 0, none⟩) len cap] w fun e w' => e = .returned (.tuple #[.int .i32 (got l), .bool (all l 4)]) ∧ w' = w := by
  have HC : Hid (∀ j, j < len → w.cell? ⟨g, j, none⟩ = some (.int .u8 (l.getD j 0))) := hcell
  have HB : Hid (∀ j, j < len → 0 ≤ l.getD j 0 ∧ l.getD j 0 ≤ 255) := hbd
  clear hcell hbd
  go_enter Try.func15, Try.ntmps15
  go_wp2_with (go_at_call 22; refine (hex4_any g len cap l _ h hcap hm HC.out HB.out).mono ?_; rintro e w' ⟨rfl, rfl⟩)
  go_ret2
  exact ⟨rfl, rfl⟩
end Go.Proofs.Qxb6000080a.Hex
