import Derived.Test.Qxb6000080aAppWalk
namespace Go.Proofs.Qxb6000080a.Canon
open Go.RowKit Go.Proofs.Qxb6000080a.Byt

set_option maxHeartbeats 1000000 in
theorem app_nil (ao : Option Addr) (n : Nat) (xs : List Int) (w : World)
    (hn : xs.length = n) (hnone : ao = none → n = 0 ∧ n = 0) (hx : ∀ b, ao = some b → ∀ j u, (cells xs)[j]? = some u → w.cell? (b.add j) = some u) (hm : n ≤ 1048576) :
    Calls Try.prog 20 #[.slice ao n n, .slice none 0 0] w fun e w' => ∃ v, e = .returned v ∧ w'.ownsRow w.heap.size 5 1 v (xs ++ full []).length (cells (xs ++ full [])) ∧ Below w.heap.size w w' := by
  obtain ⟨i0, hi, hz0, hz1, hz2⟩ := info_parts info5
  have HX : Hid (∀ b, ao = some b → ∀ j u, (cells xs)[j]? = some u → w.cell? (b.add j) = some u) := hx
  have HN : Hid (ao = none → n = 0 ∧ n = 0) := hnone
  have HL : Hid (xs.length = n) := hn
  clear hx hnone hn
  go_enter Try.func20, Try.ntmps20
  go_wp2_with (at_builtin; refine wpList_append_grows _ rfl (.tmp 7) (.tmp 8) 22 rfl 5 i0 (.int .u8 0) 1 1 Try.underlying22 hi hz0 hz1 hz2 rfl (by decide) ao n n (cells xs) rfl HN.out (by rw [length_cells, HL.out]; omega) (fun b e j u h => cell_alloc (HX.out b e j u h)) ⟨w.heap.size, 0, none⟩ 1 1 (cells [34]) rfl rfl (lit_cells w [34] _) (cells_one _) (by omega) (by unfold maxLen; omega) (by omega) ?_; intro v1 w1 hown1 hgrow1)
  have HO : Hid (w1.ownsRow w.heap.size 5 1 v1 (xs ++ [34]).length (cells (xs ++ [34]))) := by
    have h := own_mono hown1 (base := w.heap.size) (by simp)
    rw [← HL.out] at h
    exact own_snoc h rfl
  have HBL : Hid (Below w.heap.size w w1) := ((Below.refl _ _).alloc (Nat.le_refl _) _).grown hgrow1 (by simp) (fun k hk => by simp at hk)
  have hlen : (xs ++ [34]).length ≤ 1048577 := by rw [List.length_append, HL.out]; simp; omega
  have hsize := HBL.out.size
  have HE : Hid (xs ++ full [] = (xs ++ [34]) ++ [34]) := by show _ = _; simp [full, flat]
  clear hown1 hgrow1
  generalize xs ++ [34] = Z at *
  refine wp_loop_rounds 1 ?_
  rw [rounds_succ]
  go_wp2_with (at_builtin; refine wpList_append_own _ rfl _ _ 22 rfl w.heap.size 5 i0 (.int .u8 0) 1 1 Try.underlying22 hi hz0 hz1 hz2 rfl (by decide) _ Z.length (cells Z) rfl (HO.out.alloc _) ⟨w1.heap.size, 0, none⟩ 1 1 (cells [34]) rfl rfl (lit_cells w1 [34] _) (cells_one _) (by unfold maxLen; omega) (by omega) (by simp; omega) ?_; intro v2 w2 hown2 hgrow2 _)
  go_ret
  exact ⟨v2, rfl, by rw [HE.out]; exact own_snoc hown2 rfl, below_append HBL.out hsize HO.out hgrow2⟩

/-- What is known of a byte slice that the call itself has cloned: nil, or a block's head. -/
def Own (w : World) (v : Value) (l : List Int) : Prop :=
  (v = .slice none 0 0 ∧ l = []) ∨ ∃ g, v = .slice (some ⟨g, 0, none⟩) l.length l.length ∧ g < w.heap.size ∧ ∀ j, j < l.length → w.cell? ⟨g, j, none⟩ = some (.int .u8 (l.getD j 0))

theorem Own.later {B : Nat} {w w' : World} {v : Value} {l : List Int} (h : Own w v l) (hb : Below B w w') (hB : B = w.heap.size) : Own w' v l := by
  rcases h with h | ⟨g, hv, hg, hc⟩
  · exact .inl h
  · exact .inr ⟨g, hv, by have := hb.size; omega, fun j hj => (hb.cell (by show g < B; omega)).trans (hc j hj)⟩

set_option maxHeartbeats 1000000 in
theorem zzapp_any (vo vs : Value) (xs l : List Int) (w : World) (ho : Own w vo xs) (hs : Own w vs l) (hbd : ∀ j, 0 ≤ l.getD j 0 ∧ l.getD j 0 ≤ 255) (hm : xs.length ≤ 1048576) (hl : l.length ≤ 1048576) :
    Calls Try.prog 10 #[vo, vs] w fun e w' => ∃ v, e = .returned v ∧ w'.ownsRow w.heap.size 5 1 v (xs ++ full l).length (cells (xs ++ full l)) ∧ Below w.heap.size w w' := by
  obtain ⟨ao, hao, hnone, hx⟩ : ∃ ao, vo = .slice ao xs.length xs.length ∧ (ao = none → xs.length = 0 ∧ xs.length = 0) ∧ ∀ b, ao = some b → ∀ j u, (cells xs)[j]? = some u → w.cell? (b.add j) = some u := by
    rcases ho with ⟨rfl, rfl⟩ | ⟨g, rfl, _, hc⟩
    · exact ⟨none, rfl, fun _ => ⟨rfl, rfl⟩, fun b hb => by cases hb⟩
    · refine ⟨_, rfl, fun h => (by cases h), fun b hb j u hu => ?_⟩
      cases hb
      have hj := (List.getElem?_eq_some_iff.1 hu).1
      rw [length_cells] at hj
      rw [Addr.add_lit, Nat.zero_add, hc j hj, ← hu]
      simp [cells, hj]
  subst hao
  have HX : Hid (∀ b, ao = some b → ∀ j u, (cells xs)[j]? = some u → w.cell? (b.add j) = some u) := hx
  have HN : Hid (ao = none → xs.length = 0 ∧ xs.length = 0) := hnone
  have HB : Hid (∀ j, 0 ≤ l.getD j 0 ∧ l.getD j 0 ≤ 255) := hbd
  clear hx hnone hbd ho
  rcases hs with ⟨rfl, rfl⟩ | ⟨gs, rfl, hgs, hc⟩
  · go_enter Try.func10, Try.ntmps10
    go_wp2_with (go_at_call 20; refine (app_nil ao xs.length xs _ rfl HN.out HX.out hm).mono ?_; rintro e w' ⟨v, rfl, hown, hbel⟩)
    go_ret
    exact ⟨v, rfl, hown, hbel⟩
  · have HS : Hid (∀ j, j < l.length → w.cell? ⟨gs, j, none⟩ = some (.int .u8 (l.getD j 0))) := hc
    clear hc
    go_enter Try.func10, Try.ntmps10
    go_wp2_with (go_at_call 20; refine (app_some ao xs.length xs gs l _ rfl HN.out HX.out HS.out HB.out hgs hm hl).mono ?_; rintro e w' ⟨v, rfl, hown, hbel⟩)
    go_ret
    exact ⟨v, rfl, hown, hbel⟩
end Go.Proofs.Qxb6000080a.Canon
