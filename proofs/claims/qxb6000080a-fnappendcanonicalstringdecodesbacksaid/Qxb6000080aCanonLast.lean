import Derived.Test.Qxb6000080aCanonMain
namespace Go.Proofs.Qxb6000080a.Canon
open Go.RowKit Go.Proofs.Qxb6000080a.Byt

theorem getD_left (xs ys : List Int) (j : Nat) (h : j < xs.length) : (xs ++ ys).getD j 0 = xs.getD j 0 := by
  rw [List.getD_eq_getElem?_getD, List.getElem?_append_left h, ← List.getD_eq_getElem?_getD]
theorem getD_right (xs ys : List Int) (j : Nat) : (xs ++ ys).getD (xs.length + j) 0 = ys.getD j 0 := by
  rw [List.getD_eq_getElem?_getD, List.getElem?_append_right (by omega), Nat.add_sub_cancel_left, ← List.getD_eq_getElem?_getD]

theorem own_cap {w : World} {base g n cap : Nat} {xs : List Value} (h : w.ownsRow base 5 1 (.slice (some ⟨g, 0, none⟩) n cap) n xs) : n ≤ cap ∧ cap ≤ maxLen := by
  rcases h.2 with ⟨h', _⟩ | ⟨g', cap', cur, h', _, _, hnc, hcm, _⟩
  · simp at h'
  · simp only [Value.slice.injEq, Option.some.injEq, Addr.mk.injEq, and_true, true_and] at h'
    obtain ⟨rfl, rfl⟩ := h'
    exact ⟨hnc, hcm⟩

set_option maxRecDepth 100000 in
set_option maxHeartbeats 4000000 in
theorem main_any (a0 a1 : Option Addr) (cap0 cap1 : Nat) (xs l : List Int) (w : World) (h0 : Src w a0 cap0 xs) (h1 : Src w a1 cap1 l) (hbd : ∀ j, 0 ≤ l.getD j 0 ∧ l.getD j 0 ≤ 255) (hs : xs.length + l.length ≤ 1048576) :
    Calls Try.prog 3 #[.slice a0 xs.length cap0, .slice a1 l.length cap1] w fun e w' => e = .returned (.bool true) ∧ Below w.heap.size w w' := by
  have H0 : Hid (Src w a0 cap0 xs) := h0
  have H1 : Hid (Src w a1 cap1 l) := h1
  have HB : Hid (∀ j, 0 ≤ l.getD j 0 ∧ l.getD j 0 ≤ 255) := hbd
  clear h0 h1 hbd
  go_enter Try.func3, Try.ntmps3
  go_wp2_with (go_at_call 8; refine (zzb_any _ _ _ _ _ _ _ hs).mono ?_; rintro e w' ⟨rfl, rfl⟩)
  refine (clone_src a0 cap0 xs _ H0.out (by omega)).mono ?_
  rintro e w1 ⟨ao, rfl, hO0, hb1⟩
  have K1 : Hid (Own w1 (.slice ao xs.length xs.length) xs ∧ Below w.heap.size w w1) := ⟨hO0, hb1⟩
  clear hO0 hb1
  go_wp2_with fail
  refine (clone_src a0 cap0 xs _ (H0.out.later K1.out.2) (by omega)).mono ?_
  rintro e w2 ⟨bo, rfl, hO1, hb2⟩
  have K2 : Hid (Own w2 (.slice bo xs.length xs.length) xs ∧ Below w1.heap.size w1 w2) := ⟨hO1, hb2⟩
  clear hO1 hb2
  go_wp2_with fail
  refine (clone_src a1 cap1 l _ ((H1.out.later K1.out.2).later K2.out.2) (by omega)).mono ?_
  rintro e w3 ⟨so, rfl, hO2, hb3⟩
  have K3 : Hid (Own w3 (.slice so l.length l.length) l ∧ Below w2.heap.size w2 w3) := ⟨hO2, hb3⟩
  clear hO2 hb3
  go_wp2_with fail
  refine (zzapp_any _ _ xs l _ (K2.out.1.later K3.out.2 rfl) K3.out.1 HB.out (by omega) (by omega)).mono ?_
  rintro e w4 ⟨v, rfl, hown, hb4⟩
  obtain ⟨g, cap, rfl, hge, hlt⟩ := hown.form (by rw [List.length_append, full_len]; omega)
  obtain ⟨hg, hcell⟩ := own_of_row hown
  obtain ⟨hNc, hcm⟩ := own_cap hown
  unfold maxLen at hcm
  have hN2 : xs.length + 2 ≤ (xs ++ full l).length := by rw [List.length_append, full_len]; omega
  have hNm : (xs ++ full l).length ≤ 8000000 := by have := flat_len l; rw [List.length_append, full_len]; omega
  have HN : Hid (xs.length + (full l).length = (xs ++ full l).length) := (List.length_append).symm
  have HC : Hid (∀ j, j < (xs ++ full l).length → w4.cell? ⟨g, j, none⟩ = some (.int .u8 ((xs ++ full l).getD j 0))) := hcell
  have K4 : Hid (Below w3.heap.size w3 w4) := hb4
  clear hown hb4 hcell hge hlt
  generalize (xs ++ full l).length = N at *
  go_wp2_with fail
  have HO0 : Hid (Own w4 (.slice ao xs.length xs.length) xs) := ((K1.out.1.later K2.out.2 rfl).later K3.out.2 rfl).later K4.out rfl
  have HO2 : Hid (Own w4 (.slice so l.length l.length) l) := K3.out.1.later K4.out rfl
  refine (eq_any g cap ao xs _ (by omega) (fun j hj => by rw [HC.out j (by omega), getD_left xs (full l) j hj]) HO0.out).mono ?_
  rintro e w5 ⟨rfl, m5, rfl⟩
  go_wp2_with fail
  refine (dec_any g xs.length _ l _ _ (by have := HN.out; omega) (by exact hg) (fun j hj => by
    have h := HC.out (xs.length + j) (by omega)
    rw [getD_right] at h
    exact h) HB.out (by omega)).mono ?_
  rintro e w6 ⟨rfl, hownd, hb6⟩
  have K6 : Hid (Below w4.heap.size w4 w6) := ⟨hb6.os, hb6.tape, hb6.output, hb6.size, hb6.block⟩
  obtain ⟨hd, hcelld⟩ := own_of_row hownd
  have HD : Hid (∀ j, j < l.length → w6.cell? ⟨w4.heap.size, j, none⟩ = some (.int .u8 (l.getD j 0))) := hcelld
  clear hownd hb6 hcelld hd
  go_wp2_with fail
  refine (eq_any _ _ so l _ (by omega) HD.out (HO2.out.later K6.out rfl)).mono ?_
  rintro e w7 ⟨rfl, m7, rfl⟩
  go_wp2
  go_ret
  refine ⟨rfl, ?_⟩
  have s1 := K1.out.2.size
  have s2 := K2.out.2.size
  have s3 := K3.out.2.size
  have s4 := K4.out.size
  refine below_drewN ?_ m7
  exact (((K1.out.2.trans (K2.out.2.mono s1)).trans (K3.out.2.mono (Nat.le_trans s1 s2))).trans (K4.out.mono (Nat.le_trans s1 (Nat.le_trans s2 s3)))).trans (K6.out.mono (Nat.le_trans s1 (Nat.le_trans s2 (Nat.le_trans s3 s4))))
end Go.Proofs.Qxb6000080a.Canon
