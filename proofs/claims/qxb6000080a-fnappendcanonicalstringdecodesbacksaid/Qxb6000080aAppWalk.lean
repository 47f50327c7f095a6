import Derived.Test.Qxb6000080aParts
import Derived.Deep.RegionHeld3
import Derived.Deep.AppendLies
import Derived.Laws.BitsAllLaws
namespace Go.Proofs.Qxb6000080a.Canon
open Go.RowKit Go.Proofs.Qxb6000080a.Byt

theorem hexd_at (d : Int) (h0 : 0 ≤ d) (h1 : d ≤ 15) (w : World) :
    (Instr.index 9 (.string { data := #[48, 49, 50, 51, 52, 53, 54, 55, 56, 57, 97, 98, 99, 100, 101, 102] }) (.int .u8 d)).run Try.prog w = .ok (.int .u8 (hexd d)) w := by
  obtain rfl | rfl | rfl | rfl | rfl | rfl | rfl | rfl | rfl | rfl | rfl | rfl | rfl | rfl | rfl | rfl : d = 0 ∨ d = 1 ∨ d = 2 ∨ d = 3 ∨ d = 4 ∨ d = 5 ∨ d = 6 ∨ d = 7 ∨ d = 8 ∨ d = 9 ∨ d = 10 ∨ d = 11 ∨ d = 12 ∨ d = 13 ∨ d = 14 ∨ d = 15 := by omega
  all_goals kernel_rfl

theorem and15 (c : Int) (h0 : 0 ≤ c) (h1 : c ≤ 255) : bits .and .u8 c 15 = c % 16 := by
  rw [u8_and c 15 h0 (by omega) (by omega) (by omega)]
  rw [show (15 : Int).toNat = 15 from rfl, nat_mask4]
  omega

/-- What has been written when k bytes of l are done. -/
def pre (xs l : List Int) (k : Nat) : List Int := xs ++ 34 :: flat (l.take k)
theorem pre_zero (xs l : List Int) : pre xs l 0 = xs ++ [34] := by simp [pre, flat]
theorem pre_succ (xs l : List Int) (k : Nat) (h : k < l.length) : pre xs l (k + 1) = pre xs l k ++ enc1 (l.getD k 0) := by
  unfold pre; rw [flat_snoc l k h]; simp
theorem pre_end (xs l : List Int) : xs ++ full l = pre xs l l.length ++ [34] := by simp [pre, full]
theorem pre_len (xs l : List Int) (k : Nat) (h : k ≤ l.length) : (pre xs l k).length ≤ xs.length + 1 + 6 * l.length := by
  have := flat_len (l.take k)
  simp only [pre, List.length_append, List.length_cons, List.length_take] at this ⊢
  omega

set_option maxHeartbeats 4000000 in
theorem app_some (ao : Option Addr) (n : Nat) (xs : List Int) (gs : Nat) (l : List Int) (w : World)
    (hn : xs.length = n) (hnone : ao = none → n = 0 ∧ n = 0) (hx : ∀ b, ao = some b → ∀ j u, (cells xs)[j]? = some u → w.cell? (b.add j) = some u)
    (hs : ∀ j, j < l.length → w.cell? ⟨gs, j, none⟩ = some (.int .u8 (l.getD j 0))) (hbd : ∀ j, 0 ≤ l.getD j 0 ∧ l.getD j 0 ≤ 255) (hgs : gs < w.heap.size)
    (hm : n ≤ 1048576) (hl : l.length ≤ 1048576) :
    Calls Try.prog 20 #[.slice ao n n, .slice (some ⟨gs, 0, none⟩) l.length l.length] w fun e w' => ∃ v, e = .returned v ∧ w'.ownsRow w.heap.size 5 1 v (xs ++ full l).length (cells (xs ++ full l)) ∧ Below w.heap.size w w' := by
  obtain ⟨i0, hi, hz0, hz1, hz2⟩ := info_parts info5
  have HX : Hid (∀ b, ao = some b → ∀ j u, (cells xs)[j]? = some u → w.cell? (b.add j) = some u) := hx
  have HN : Hid (ao = none → n = 0 ∧ n = 0) := hnone
  have HL : Hid (xs.length = n) := hn
  have HS : Hid (∀ j, j < l.length → w.cell? ⟨gs, j, none⟩ = some (.int .u8 (l.getD j 0))) := hs
  have HB : Hid (∀ j, 0 ≤ l.getD j 0 ∧ l.getD j 0 ≤ 255) := hbd
  clear hx hnone hn hs hbd
  go_enter Try.func20, Try.ntmps20
  go_wp2_with (at_builtin; refine wpList_append_grows _ rfl (.tmp 7) (.tmp 8) 22 rfl 5 i0 (.int .u8 0) 1 1 Try.underlying22 hi hz0 hz1 hz2 rfl (by decide) ao n n (cells xs) rfl HN.out (by rw [length_cells, HL.out]; omega) (fun b e j u h => cell_alloc (HX.out b e j u h)) ⟨w.heap.size, 0, none⟩ 1 1 (cells [34]) rfl rfl (lit_cells w [34] _) (cells_one _) (by omega) (by unfold maxLen; omega) (by omega) ?_; intro v1 w1 hown1 hgrow1)
  have hstart : w1.ownsRow w.heap.size 5 1 v1 (pre xs l 0).length (cells (pre xs l 0)) := by
    rw [pre_zero]
    have h := own_mono hown1 (base := w.heap.size) (by simp)
    rw [← HL.out] at h
    exact own_snoc h rfl
  have hbel1 : Below w.heap.size w w1 := ((Below.refl _ _).alloc (Nat.le_refl _) _).grown hgrow1 (by simp) (fun k hk => by simp at hk)
  clear hown1 hgrow1
  go_loopw [0, 12] (fun v i wr => ∃ k : Nat, k ≤ l.length ∧ i = .int .i64 k ∧ wr.ownsRow w.heap.size 5 1 v (pre xs l k).length (cells (pre xs l k)) ∧ Below w.heap.size w wr) (fun _ i _ => l.length - (intOf i).toNat)
  case atStart => exact ⟨0, Nat.zero_le _, rfl, hstart, hbel1⟩
  case round =>
    obtain ⟨k, hk, rfl, hown, hbel⟩ := hrel
    clear hstart hbel1
    have hsize := hbel.size
    have hlen := pre_len xs l k hk
    rw [HL.out] at hlen
    by_cases hlt : k < l.length
    · have hc : wr.cell? ⟨gs, k, none⟩ = some (.int .u8 (l.getD k 0)) := (hbel.cell (by exact hgs)).trans (HS.out k hlt)
      obtain ⟨hb1, hb2⟩ := HB.out k
      have HP : Hid (pre xs l (k + 1) = pre xs l k ++ enc1 (l.getD k 0)) := pre_succ xs l k hlt
      generalize l.getD k 0 = c at *
      generalize pre xs l k = Z at *
      have HO : Hid (wr.ownsRow w.heap.size 5 1 u0 Z.length (cells Z)) := hown
      have HBL : Hid (Below w.heap.size w wr) := hbel
      clear hown hbel
      rcases kinds c with (rfl | rfl) | rfl | rfl | rfl | rfl | rfl | ⟨c32, c8, c12, c10, c13, c9⟩ | ⟨c32, c34, c92⟩
      · go_wp2_with (at_builtin; refine wpList_append_own _ rfl _ _ 22 rfl w.heap.size 5 i0 (.int .u8 0) 1 1 Try.underlying22 hi hz0 hz1 hz2 rfl (by decide) _ Z.length (cells Z) rfl (HO.out.alloc _) ⟨wr.heap.size, 0, none⟩ 2 2 (cells [92, 34]) rfl rfl (lit_cells wr [92, 34] _) (cells_one _) (by unfold maxLen; omega) (by omega) (by simp; omega) ?_; intro v2 w2 hown2 hgrow2 _)
        go_roundw
        case rel => exact ⟨k + 1, by omega, by go_num, by rw [HP.out, enc_quote 34 (.inl rfl)]; exact own_snoc hown2 rfl, below_append HBL.out hsize HO.out hgrow2⟩
        case measure => simp [intOf]; omega
      · go_wp2_with (at_builtin; refine wpList_append_own _ rfl _ _ 22 rfl w.heap.size 5 i0 (.int .u8 0) 1 1 Try.underlying22 hi hz0 hz1 hz2 rfl (by decide) _ Z.length (cells Z) rfl (HO.out.alloc _) ⟨wr.heap.size, 0, none⟩ 2 2 (cells [92, 92]) rfl rfl (lit_cells wr [92, 92] _) (cells_one _) (by unfold maxLen; omega) (by omega) (by simp; omega) ?_; intro v2 w2 hown2 hgrow2 _)
        go_roundw
        case rel => exact ⟨k + 1, by omega, by go_num, by rw [HP.out, enc_quote 92 (.inr rfl)]; exact own_snoc hown2 rfl, below_append HBL.out hsize HO.out hgrow2⟩
        case measure => simp [intOf]; omega
      · go_wp2_with (at_builtin; refine wpList_append_own _ rfl _ _ 22 rfl w.heap.size 5 i0 (.int .u8 0) 1 1 Try.underlying22 hi hz0 hz1 hz2 rfl (by decide) _ Z.length (cells Z) rfl (HO.out.alloc _) ⟨wr.heap.size, 0, none⟩ 2 2 (cells [92, 98]) rfl rfl (lit_cells wr [92, 98] _) (cells_one _) (by unfold maxLen; omega) (by omega) (by simp; omega) ?_; intro v2 w2 hown2 hgrow2 _)
        go_roundw
        case rel => exact ⟨k + 1, by omega, by go_num, by rw [HP.out, enc_b]; exact own_snoc hown2 rfl, below_append HBL.out hsize HO.out hgrow2⟩
        case measure => simp [intOf]; omega
      · go_wp2_with (at_builtin; refine wpList_append_own _ rfl _ _ 22 rfl w.heap.size 5 i0 (.int .u8 0) 1 1 Try.underlying22 hi hz0 hz1 hz2 rfl (by decide) _ Z.length (cells Z) rfl (HO.out.alloc _) ⟨wr.heap.size, 0, none⟩ 2 2 (cells [92, 102]) rfl rfl (lit_cells wr [92, 102] _) (cells_one _) (by unfold maxLen; omega) (by omega) (by simp; omega) ?_; intro v2 w2 hown2 hgrow2 _)
        go_roundw
        case rel => exact ⟨k + 1, by omega, by go_num, by rw [HP.out, enc_f]; exact own_snoc hown2 rfl, below_append HBL.out hsize HO.out hgrow2⟩
        case measure => simp [intOf]; omega
      · go_wp2_with (at_builtin; refine wpList_append_own _ rfl _ _ 22 rfl w.heap.size 5 i0 (.int .u8 0) 1 1 Try.underlying22 hi hz0 hz1 hz2 rfl (by decide) _ Z.length (cells Z) rfl (HO.out.alloc _) ⟨wr.heap.size, 0, none⟩ 2 2 (cells [92, 110]) rfl rfl (lit_cells wr [92, 110] _) (cells_one _) (by unfold maxLen; omega) (by omega) (by simp; omega) ?_; intro v2 w2 hown2 hgrow2 _)
        go_roundw
        case rel => exact ⟨k + 1, by omega, by go_num, by rw [HP.out, enc_n]; exact own_snoc hown2 rfl, below_append HBL.out hsize HO.out hgrow2⟩
        case measure => simp [intOf]; omega
      · go_wp2_with (at_builtin; refine wpList_append_own _ rfl _ _ 22 rfl w.heap.size 5 i0 (.int .u8 0) 1 1 Try.underlying22 hi hz0 hz1 hz2 rfl (by decide) _ Z.length (cells Z) rfl (HO.out.alloc _) ⟨wr.heap.size, 0, none⟩ 2 2 (cells [92, 114]) rfl rfl (lit_cells wr [92, 114] _) (cells_one _) (by unfold maxLen; omega) (by omega) (by simp; omega) ?_; intro v2 w2 hown2 hgrow2 _)
        go_roundw
        case rel => exact ⟨k + 1, by omega, by go_num, by rw [HP.out, enc_r]; exact own_snoc hown2 rfl, below_append HBL.out hsize HO.out hgrow2⟩
        case measure => simp [intOf]; omega
      · go_wp2_with (at_builtin; refine wpList_append_own _ rfl _ _ 22 rfl w.heap.size 5 i0 (.int .u8 0) 1 1 Try.underlying22 hi hz0 hz1 hz2 rfl (by decide) _ Z.length (cells Z) rfl (HO.out.alloc _) ⟨wr.heap.size, 0, none⟩ 2 2 (cells [92, 116]) rfl rfl (lit_cells wr [92, 116] _) (cells_one _) (by unfold maxLen; omega) (by omega) (by simp; omega) ?_; intro v2 w2 hown2 hgrow2 _)
        go_roundw
        case rel => exact ⟨k + 1, by omega, by go_num, by rw [HP.out, enc_t]; exact own_snoc hown2 rfl, below_append HBL.out hsize HO.out hgrow2⟩
        case measure => simp [intOf]; omega
      · have HE : Hid (enc1 c = [92, 117, 48, 48, hexd (c / 16), hexd (c % 16)]) := enc_ctl c c32 c8 c12 c10 c13 c9
        have hix1 := hexd_at (c / 16) (by omega) (by omega)
        have hix2 := hexd_at (c % 16) (by omega) (by omega)
        have hand := and15 c hb1 hb2
        go_wp2_with fail
        go_region_held3 (fun _ => True) (trivial) ((refine step_append_lies _ (by rfl) _ _ _ (by rfl) w.heap.size 5 i0 _ 1 1 Try.underlying22 hi hz0 hz1 hz2 rfl (by omega) u0 Z.length (cells Z) (by rfl) ((HO.out.alloc _).drew) ⟨wr.heap.size, 0, none⟩ 6 6 (cells [92, 117, 48, 48, hexd (c / 16), hexd (c % 16)]) (by rfl) (by rfl) (lit_cells wr [92, 117, 48, 48, hexd (c / 16), hexd (c % 16)] _) (cells_one _) (by omega) (by unfold maxLen; omega) (by omega) (by simp; omega) (wr.heap.size + 1) (by simp) ?_; intro gg cap w2 hown2 hgrow2 hat hlt2))
        all_goals
          go_wp2
          go_roundw
          case rel => exact ⟨k + 1, by omega, by go_num, by rw [HP.out, HE.out]; exact own_snoc hown2 rfl, below_append_drew HBL.out hsize HO.out hgrow2⟩
          case measure => simp [intOf]; omega
      · have HE : Hid (enc1 c = [c]) := enc_raw c c32 c34 c92
        go_wp2_with (at_builtin; refine wpList_append_own _ rfl _ _ 22 rfl w.heap.size 5 i0 (.int .u8 0) 1 1 Try.underlying22 hi hz0 hz1 hz2 rfl (by decide) _ Z.length (cells Z) rfl (HO.out.alloc _) ⟨wr.heap.size, 0, none⟩ 1 1 (cells [c]) rfl rfl (lit_cells wr [c] _) (cells_one _) (by unfold maxLen; omega) (by omega) (by simp; omega) ?_; intro v2 w2 hown2 hgrow2 _)
        go_roundw
        case rel => exact ⟨k + 1, by omega, by go_num, by rw [HP.out, HE.out]; exact own_snoc hown2 rfl, below_append HBL.out hsize HO.out hgrow2⟩
        case measure => simp [intOf]; omega
    · obtain rfl : k = l.length := by omega
      have HO : Hid (wr.ownsRow w.heap.size 5 1 u0 (pre xs l l.length).length (cells (pre xs l l.length))) := hown
      have HBL : Hid (Below w.heap.size w wr) := hbel
      have HE : Hid (xs ++ full l = pre xs l l.length ++ [34]) := pre_end xs l
      clear hown hbel
      generalize pre xs l l.length = Z at *
      go_wp2_with (at_builtin; refine wpList_append_own _ rfl _ _ 22 rfl w.heap.size 5 i0 (.int .u8 0) 1 1 Try.underlying22 hi hz0 hz1 hz2 rfl (by decide) _ Z.length (cells Z) rfl (HO.out.alloc _) ⟨wr.heap.size, 0, none⟩ 1 1 (cells [34]) rfl rfl (lit_cells wr [34] _) (cells_one _) (by unfold maxLen; omega) (by omega) (by simp; omega) ?_; intro v2 w2 hown2 hgrow2 _)
      go_ret
      exact ⟨v2, rfl, by rw [HE.out]; exact own_snoc hown2 rfl, below_append HBL.out hsize HO.out hgrow2⟩
end Go.Proofs.Qxb6000080a.Canon
