import Derived.Test.Qxb6000080aParts
namespace Go.Proofs.Qxb6000080a.Canon
open Go.RowKit Go.Proofs.Qxb6000080a.Byt

set_option maxHeartbeats 400000 in
theorem lhd_any (d : Int) (w : World) (h0 : 0 ≤ d) (h1 : d ≤ 15) :
    Calls Try.prog 21 #[.int .u8 (hexd d)] w fun e w' => e = .returned (.tuple #[.int .i64 d, .bool true]) ∧ w = w' := by
  by_cases c : d < 10
  · have e : hexd d = 48 + d := by unfold hexd; rw [if_pos c]
    rw [e]
    have HE : Hid (48 + d - 48 = d) := by show _ = _; omega
    clear e
    go_enter Try.func21, Try.ntmps21
    go_wp2
    go_ret2
    refine ⟨?_, rfl⟩
    show Ending.returned (.tuple #[.int .i64 (48 + d - 48), .bool true]) = _
    rw [HE.out]
  · have e : hexd d = 87 + d := by unfold hexd; rw [if_neg c]
    rw [e]
    have HE : Hid (87 + d - 97 + 10 = d) := by show _ = _; omega
    clear e
    go_enter Try.func21, Try.ntmps21
    go_wp2
    go_ret2
    refine ⟨?_, rfl⟩
    show Ending.returned (.tuple #[.int .i64 (87 + d - 97 + 10), .bool true]) = _
    rw [HE.out]

/-- Where the k-th byte's encoding begins. -/
def pos (l : List Int) (k : Nat) : Nat := 1 + (flat (l.take k)).length
theorem pos_zero (l : List Int) : pos l 0 = 1 := by simp [pos, flat]
theorem pos_succ (l : List Int) (k : Nat) (h : k < l.length) : pos l (k + 1) = pos l k + (enc1 (l.getD k 0)).length := by
  unfold pos; rw [flat_snoc l k h, List.length_append]; omega
theorem pos_end (l : List Int) : pos l l.length + 1 = (full l).length := by
  rw [full_len]; unfold pos; rw [List.take_length]; omega

theorem below_fits {B g : Nat} {w wr w2 : World} {o : Obj} (hb : Below B w wr) (hB : B ≤ wr.heap.size) (hBg : B ≤ g) (hg : (wr.alloc o).grownBy w2 (some g)) : Below B w w2 :=
  (hb.alloc hB o).grown hg (by simp; omega) (fun k hk => by cases hk; exact hBg)

theorem own_next {w : World} {base g k L : Nat} {l : List Int} {c : Int} (hk : k < l.length) (hc : l.getD k 0 = c) (h : w.ownsRow base 5 1 (.slice (some ⟨g, 0, none⟩) (k + 1) L) (k + 1) (cells (l.take k) ++ cells [c])) :
    w.ownsRow base 5 1 (.slice (some ⟨g, 0, none⟩) (k + 1) L) (k + 1) (cells (l.take (k + 1))) := by
  rw [take_snoc l k hk, hc, cells_append]; exact h

set_option maxRecDepth 100000 in
set_option maxHeartbeats 4000000 in
theorem dec_any (g o cp : Nat) (l : List Int) (L : Nat) (w : World) (hL : (full l).length = L) (hg : g < w.heap.size)
    (hs : ∀ j, j < L → w.cell? ⟨g, o + j, none⟩ = some (.int .u8 ((full l).getD j 0))) (hbd : ∀ j, 0 ≤ l.getD j 0 ∧ l.getD j 0 ≤ 255) (hm : l.length ≤ 1048576) :
    Calls Try.prog 12 #[.slice (some ⟨g, o, none⟩) L cp] w fun e w' => e = .returned (.tuple #[.slice (some ⟨w.heap.size, 0, none⟩) l.length L, .bool true]) ∧
      w'.ownsRow w.heap.size 5 1 (.slice (some ⟨w.heap.size, 0, none⟩) l.length L) l.length (cells l) ∧ Below w.heap.size w w' := by
  obtain ⟨i0, hi, hz0, hz1, hz2⟩ := info_parts info5
  have hfl := flat_len l
  have hfg := flat_len_ge l
  have hfull := full_len l
  have h2 : 2 ≤ L := by omega
  have hmax : L ≤ 6291458 := by omega
  have hlL : l.length + 2 ≤ L := by omega
  have hc0 : w.cell? ⟨g, o, none⟩ = some (.int .u8 34) := hs 0 (by omega)
  have hd2 : decide ((L : Int) < 2) = false := by simp; omega
  have HS : Hid (∀ j, j < L → w.cell? ⟨g, o + j, none⟩ = some (.int .u8 ((full l).getD j 0))) := hs
  have HB : Hid (∀ j, 0 ≤ l.getD j 0 ∧ l.getD j 0 ≤ 255) := hbd
  have HL : Hid ((full l).length = L) := hL
  clear hs hbd hL hfl hfg hfull
  go_enter Try.func12, Try.ntmps12
  go_wp2_with (at_make; refine wpList_make_own _ rfl _ _ 22 rfl w.heap.size 5 i0 (.int .u8 0) 1 Try.underlying22 hi hz0 hz1 _ _ _ L rfl rfl rfl (by rw [hz2]; omega) (by unfold maxLen; omega) (Nat.le_refl _) ?_; intro w1 hown1 hgrow1)
  have hbel1 : Below w.heap.size w w1 := (Below.refl _ _).grown hgrow1 (Nat.le_refl _) (fun k hk => by simp at hk)
  clear hgrow1 hc0
  go_loopw [4, 5] (fun v i wr => ∃ k : Nat, k ≤ l.length ∧ v = .slice (some ⟨w.heap.size, 0, none⟩) k L ∧ i = .int .i64 (pos l k : Nat) ∧ wr.ownsRow w.heap.size 5 1 (.slice (some ⟨w.heap.size, 0, none⟩) k L) k (cells (l.take k)) ∧ Below w.heap.size w wr) (fun _ i _ => L - (intOf i).toNat)
  case atStart => exact ⟨0, Nat.zero_le _, rfl, by rw [pos_zero]; rfl, hown1, hbel1⟩
  case round =>
    obtain ⟨k, hk, rfl, rfl, hown, hbel⟩ := hrel
    clear hown1 hbel1
    have hsize := hbel.size
    have HO' : Hid (wr.ownsRow w.heap.size 5 1 (.slice (some ⟨w.heap.size, 0, none⟩) k L) k (cells (l.take k))) := hown
    have HBL : Hid (Below w.heap.size w wr) := hbel
    clear hown hbel
    by_cases hlt : k < l.length
    · obtain ⟨hb1, hb2⟩ := HB.out k
      have HP : Hid (pos l (k + 1) = pos l k + (enc1 (l.getD k 0)).length) := pos_succ l k hlt
      have hroom : pos l k + (enc1 (l.getD k 0)).length + 1 ≤ L := by rw [← HL.out]; exact full_room l k hlt
      have hcs : ∀ j, j < (enc1 (l.getD k 0)).length → wr.cell? ⟨g, o + (pos l k + j), none⟩ = some (.int .u8 ((enc1 (l.getD k 0)).getD j 0)) := fun j hj => by
        rw [HBL.out.cell (by exact hg), HS.out (pos l k + j) (by omega), ← full_at l k hlt j hj]; rfl
      have HNX : Hid (∀ w' : World, w'.ownsRow w.heap.size 5 1 (.slice (some ⟨w.heap.size, 0, none⟩) (k + 1) L) (k + 1) (cells (l.take k) ++ cells [l.getD k 0]) → w'.ownsRow w.heap.size 5 1 (.slice (some ⟨w.heap.size, 0, none⟩) (k + 1) L) (k + 1) (cells (l.take (k + 1)))) := fun w' h => own_next hlt rfl h
      have HO := HO'
      clear HO'
      generalize l.getD k 0 = c at *
      generalize l.take k = T at *
      generalize pos l k = p at *
      rcases kinds c with (rfl | rfl) | rfl | rfl | rfl | rfl | rfl | ⟨c32, c8, c12, c10, c13, c9⟩ | ⟨c32, c34, c92⟩
      · rw [enc_quote 34 (.inl rfl)] at hcs hroom
        simp only [List.length_cons, List.length_nil] at hcs hroom
        have q0 := hcs 0 (by decide)
        have q1 := hcs 1 (by decide)
        have q0 : wr.cell? ⟨g, o + p, none⟩ = some (.int .u8 92) := q0
        have q1 : wr.cell? ⟨g, o + (p + 1), none⟩ = some (.int .u8 34) := q1
        have r0 : p + 2 + 1 ≤ L := hroom
        clear hcs hroom
        go_wp2_with (at_builtin; refine wpList_append_fits _ rfl _ _ 22 rfl w.heap.size 5 i0 1 Try.underlying22 hi hz1 w.heap.size k L (cells T) rfl (HO.out.alloc _) ⟨wr.heap.size, 0, none⟩ 1 1 (cells [34]) rfl rfl (lit_cells wr [34] _) (cells_one _) (by omega) ?_; intro w2 hown2 hgrow2)
        go_roundw
        case rel => exact ⟨k + 1, by omega, rfl, by rw [HP.out, enc_quote 34 (.inl rfl)]; go_num, HNX.out _ hown2, below_fits HBL.out hsize (Nat.le_refl _) hgrow2⟩
        case measure => simp [intOf]; omega
      · rw [enc_quote 92 (.inr rfl)] at hcs hroom
        simp only [List.length_cons, List.length_nil] at hcs hroom
        have q0 := hcs 0 (by decide)
        have q1 := hcs 1 (by decide)
        have q0 : wr.cell? ⟨g, o + p, none⟩ = some (.int .u8 92) := q0
        have q1 : wr.cell? ⟨g, o + (p + 1), none⟩ = some (.int .u8 92) := q1
        have r0 : p + 2 + 1 ≤ L := hroom
        clear hcs hroom
        go_wp2_with (at_builtin; refine wpList_append_fits _ rfl _ _ 22 rfl w.heap.size 5 i0 1 Try.underlying22 hi hz1 w.heap.size k L (cells T) rfl (HO.out.alloc _) ⟨wr.heap.size, 0, none⟩ 1 1 (cells [92]) rfl rfl (lit_cells wr [92] _) (cells_one _) (by omega) ?_; intro w2 hown2 hgrow2)
        go_roundw
        case rel => exact ⟨k + 1, by omega, rfl, by rw [HP.out, enc_quote 92 (.inr rfl)]; go_num, HNX.out _ hown2, below_fits HBL.out hsize (Nat.le_refl _) hgrow2⟩
        case measure => simp [intOf]; omega
      · rw [enc_b] at hcs hroom
        simp only [List.length_cons, List.length_nil] at hcs hroom
        have q0 := hcs 0 (by decide)
        have q1 := hcs 1 (by decide)
        have q0 : wr.cell? ⟨g, o + p, none⟩ = some (.int .u8 92) := q0
        have q1 : wr.cell? ⟨g, o + (p + 1), none⟩ = some (.int .u8 98) := q1
        have r0 : p + 2 + 1 ≤ L := hroom
        clear hcs hroom
        go_wp2_with (at_builtin; refine wpList_append_fits _ rfl _ _ 22 rfl w.heap.size 5 i0 1 Try.underlying22 hi hz1 w.heap.size k L (cells T) rfl (HO.out.alloc _) ⟨wr.heap.size, 0, none⟩ 1 1 (cells [8]) rfl rfl (lit_cells wr [8] _) (cells_one _) (by omega) ?_; intro w2 hown2 hgrow2)
        go_roundw
        case rel => exact ⟨k + 1, by omega, rfl, by rw [HP.out, enc_b]; go_num, HNX.out _ hown2, below_fits HBL.out hsize (Nat.le_refl _) hgrow2⟩
        case measure => simp [intOf]; omega
      · rw [enc_f] at hcs hroom
        simp only [List.length_cons, List.length_nil] at hcs hroom
        have q0 := hcs 0 (by decide)
        have q1 := hcs 1 (by decide)
        have q0 : wr.cell? ⟨g, o + p, none⟩ = some (.int .u8 92) := q0
        have q1 : wr.cell? ⟨g, o + (p + 1), none⟩ = some (.int .u8 102) := q1
        have r0 : p + 2 + 1 ≤ L := hroom
        clear hcs hroom
        go_wp2_with (at_builtin; refine wpList_append_fits _ rfl _ _ 22 rfl w.heap.size 5 i0 1 Try.underlying22 hi hz1 w.heap.size k L (cells T) rfl (HO.out.alloc _) ⟨wr.heap.size, 0, none⟩ 1 1 (cells [12]) rfl rfl (lit_cells wr [12] _) (cells_one _) (by omega) ?_; intro w2 hown2 hgrow2)
        go_roundw
        case rel => exact ⟨k + 1, by omega, rfl, by rw [HP.out, enc_f]; go_num, HNX.out _ hown2, below_fits HBL.out hsize (Nat.le_refl _) hgrow2⟩
        case measure => simp [intOf]; omega
      · rw [enc_n] at hcs hroom
        simp only [List.length_cons, List.length_nil] at hcs hroom
        have q0 := hcs 0 (by decide)
        have q1 := hcs 1 (by decide)
        have q0 : wr.cell? ⟨g, o + p, none⟩ = some (.int .u8 92) := q0
        have q1 : wr.cell? ⟨g, o + (p + 1), none⟩ = some (.int .u8 110) := q1
        have r0 : p + 2 + 1 ≤ L := hroom
        clear hcs hroom
        go_wp2_with (at_builtin; refine wpList_append_fits _ rfl _ _ 22 rfl w.heap.size 5 i0 1 Try.underlying22 hi hz1 w.heap.size k L (cells T) rfl (HO.out.alloc _) ⟨wr.heap.size, 0, none⟩ 1 1 (cells [10]) rfl rfl (lit_cells wr [10] _) (cells_one _) (by omega) ?_; intro w2 hown2 hgrow2)
        go_roundw
        case rel => exact ⟨k + 1, by omega, rfl, by rw [HP.out, enc_n]; go_num, HNX.out _ hown2, below_fits HBL.out hsize (Nat.le_refl _) hgrow2⟩
        case measure => simp [intOf]; omega
      · rw [enc_r] at hcs hroom
        simp only [List.length_cons, List.length_nil] at hcs hroom
        have q0 := hcs 0 (by decide)
        have q1 := hcs 1 (by decide)
        have q0 : wr.cell? ⟨g, o + p, none⟩ = some (.int .u8 92) := q0
        have q1 : wr.cell? ⟨g, o + (p + 1), none⟩ = some (.int .u8 114) := q1
        have r0 : p + 2 + 1 ≤ L := hroom
        clear hcs hroom
        go_wp2_with (at_builtin; refine wpList_append_fits _ rfl _ _ 22 rfl w.heap.size 5 i0 1 Try.underlying22 hi hz1 w.heap.size k L (cells T) rfl (HO.out.alloc _) ⟨wr.heap.size, 0, none⟩ 1 1 (cells [13]) rfl rfl (lit_cells wr [13] _) (cells_one _) (by omega) ?_; intro w2 hown2 hgrow2)
        go_roundw
        case rel => exact ⟨k + 1, by omega, rfl, by rw [HP.out, enc_r]; go_num, HNX.out _ hown2, below_fits HBL.out hsize (Nat.le_refl _) hgrow2⟩
        case measure => simp [intOf]; omega
      · rw [enc_t] at hcs hroom
        simp only [List.length_cons, List.length_nil] at hcs hroom
        have q0 := hcs 0 (by decide)
        have q1 := hcs 1 (by decide)
        have q0 : wr.cell? ⟨g, o + p, none⟩ = some (.int .u8 92) := q0
        have q1 : wr.cell? ⟨g, o + (p + 1), none⟩ = some (.int .u8 116) := q1
        have r0 : p + 2 + 1 ≤ L := hroom
        clear hcs hroom
        go_wp2_with (at_builtin; refine wpList_append_fits _ rfl _ _ 22 rfl w.heap.size 5 i0 1 Try.underlying22 hi hz1 w.heap.size k L (cells T) rfl (HO.out.alloc _) ⟨wr.heap.size, 0, none⟩ 1 1 (cells [9]) rfl rfl (lit_cells wr [9] _) (cells_one _) (by omega) ?_; intro w2 hown2 hgrow2)
        go_roundw
        case rel => exact ⟨k + 1, by omega, rfl, by rw [HP.out, enc_t]; go_num, HNX.out _ hown2, below_fits HBL.out hsize (Nat.le_refl _) hgrow2⟩
        case measure => simp [intOf]; omega
      · have HE : Hid (enc1 c = [92, 117, 48, 48, hexd (c / 16), hexd (c % 16)]) := enc_ctl c c32 c8 c12 c10 c13 c9
        rw [HE.out] at hcs hroom
        simp only [List.length_cons, List.length_nil] at hcs hroom
        have q0 := hcs 0 (by decide)
        have q1 := hcs 1 (by decide)
        have q2 := hcs 2 (by decide)
        have q3 := hcs 3 (by decide)
        have q4 := hcs 4 (by decide)
        have q5 := hcs 5 (by decide)
        have q0 : wr.cell? ⟨g, o + p, none⟩ = some (.int .u8 92) := q0
        have q1 : wr.cell? ⟨g, o + (p + 1), none⟩ = some (.int .u8 117) := q1
        have q2 : wr.cell? ⟨g, o + (p + 2), none⟩ = some (.int .u8 48) := q2
        have q3 : wr.cell? ⟨g, o + (p + 3), none⟩ = some (.int .u8 48) := q3
        have q4 : wr.cell? ⟨g, o + (p + 4), none⟩ = some (.int .u8 (hexd (c / 16))) := q4
        have q5 : wr.cell? ⟨g, o + (p + 5), none⟩ = some (.int .u8 (hexd (c % 16))) := q5
        have r0 : p + 6 + 1 ≤ L := hroom
        have hv : c / 16 * 16 + c % 16 = c := by omega
        have b32 : decide ((32 : Int) ≤ c) = false := by simp; omega
        have b8 : (c == 8) = false := beq_eq_false_iff_ne.2 c8
        have b12 : (c == 12) = false := beq_eq_false_iff_ne.2 c12
        have b10 : (c == 10) = false := beq_eq_false_iff_ne.2 c10
        have b13 : (c == 13) = false := beq_eq_false_iff_ne.2 c13
        have b9 : (c == 9) = false := beq_eq_false_iff_ne.2 c9
        clear hcs hroom
        go_wp2_with (first | (go_at_call 21; refine (lhd_any _ _ (by omega) (by omega)).mono ?_; rintro e w' ⟨rfl, rfl⟩) | (at_builtin; refine wpList_append_fits _ rfl _ _ 22 rfl w.heap.size 5 i0 1 Try.underlying22 hi hz1 w.heap.size k L (cells T) rfl (HO.out.alloc _) ⟨wr.heap.size, 0, none⟩ 1 1 (cells [c]) rfl rfl (lit_cells wr [c] _) (cells_one _) (by omega) ?_; intro w2 hown2 hgrow2))
        go_roundw
        case rel => exact ⟨k + 1, by omega, rfl, by rw [HP.out, HE.out]; go_num, HNX.out _ hown2, below_fits HBL.out hsize (Nat.le_refl _) hgrow2⟩
        case measure => simp [intOf]; omega
      · have HE : Hid (enc1 c = [c]) := enc_raw c c32 c34 c92
        rw [HE.out] at hcs hroom
        simp only [List.length_cons, List.length_nil] at hcs hroom
        have q0 := hcs 0 (by decide)
        have q0 : wr.cell? ⟨g, o + p, none⟩ = some (.int .u8 c) := q0
        have r0 : p + 1 + 1 ≤ L := hroom
        clear hcs hroom
        go_wp2_with (at_builtin; refine wpList_append_fits _ rfl _ _ 22 rfl w.heap.size 5 i0 1 Try.underlying22 hi hz1 w.heap.size k L (cells T) rfl (HO.out.alloc _) ⟨wr.heap.size, 0, none⟩ 1 1 (cells [c]) rfl rfl (lit_cells wr [c] _) (cells_one _) (by omega) ?_; intro w2 hown2 hgrow2)
        go_roundw
        case rel => exact ⟨k + 1, by omega, rfl, by rw [HP.out, HE.out]; go_num, HNX.out _ hown2, below_fits HBL.out hsize (Nat.le_refl _) hgrow2⟩
        case measure => simp [intOf]; omega
    · obtain rfl : k = l.length := by omega
      have hp : pos l l.length + 1 = L := by rw [← HL.out]; exact pos_end l
      have hce : wr.cell? ⟨g, o + pos l l.length, none⟩ = some (.int .u8 34) := by
        rw [HBL.out.cell (by exact hg), HS.out (pos l l.length) (by omega)]
        have : pos l l.length = 1 + (flat l).length := by unfold pos; rw [List.take_length]
        rw [this, full_end]
      have HF : Hid (wr.ownsRow w.heap.size 5 1 (.slice (some ⟨w.heap.size, 0, none⟩) l.length L) l.length (cells l)) := by
        have h := HO'.out
        rw [List.take_length] at h
        exact h
      clear HO' HS HB HL
      generalize pos l l.length = p at *
      have hpe : ((p : Int) == (L : Int) - 1) = true := beq_iff_eq.2 (by omega)
      have hp1 : p < L := by omega
      clear hp
      go_wp2
      go_ret2
      exact ⟨rfl, HF.out, HBL.out⟩
end Go.Proofs.Qxb6000080a.Canon
