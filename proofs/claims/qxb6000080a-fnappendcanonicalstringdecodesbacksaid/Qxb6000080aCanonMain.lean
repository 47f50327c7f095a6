import Derived.Test.Qxb6000080aAppMore
import Derived.Test.Qxb6000080aDecWalk
import Derived.Test.Qxb6000080aEqWalk
namespace Go.Proofs.Qxb6000080a.Canon
open Go.RowKit Go.Proofs.Qxb6000080a.Byt

/-- What is known of a byte slice that came in: its elements are xs. -/
def Src (w : World) (a : Option Addr) (cap : Nat) (xs : List Int) : Prop :=
  (a = none ∧ xs = [] ∧ cap = 0) ∨ ∃ (x : Addr) (z : List Int), a = some x ∧ xs.length ≤ cap ∧ z.length = cap ∧ (∀ i, i < z.length → w.cell? (x.add i) = some (.int .u8 (z.getD i 0))) ∧ z.take xs.length = xs

theorem Src.later {w w' : World} {a : Option Addr} {cap : Nat} {xs : List Int} (h : Src w a cap xs) (hb : Below w.heap.size w w') : Src w' a cap xs := by
  rcases h with h | ⟨x, z, hx, hl, hz, hc, ht⟩
  · exact .inl h
  · exact .inr ⟨x, z, hx, hl, hz, fun i hi => (hb.cell (World.block_lt_of_cell? w _ (hc i hi))).trans (hc i hi), ht⟩

theorem own_of_row {w : World} {base g : Nat} {l : List Int} {cap : Nat} (h : w.ownsRow base 5 1 (.slice (some ⟨g, 0, none⟩) l.length cap) l.length (cells l)) : g < w.heap.size ∧ ∀ j, j < l.length → w.cell? ⟨g, j, none⟩ = some (.int .u8 (l.getD j 0)) := by
  refine ⟨(h.lt g rfl).2, fun j hj => ?_⟩
  rw [h.cellAt j (by omega)]
  simp [cells, hj]

set_option maxHeartbeats 400000 in
theorem clone_nil (w : World) : Calls Try.prog 9 #[.slice none 0 0] w fun e w' => e = .returned (.slice none 0 0) ∧ w' = w := by
  have hnil : ∀ W, (binOp .eql 22 (.slice none 0 0) (.slice none 0 0)).run Try.prog W = .ok (.bool true) W := fun W => Lib.run_eql_slice_nil W _ _ _ _ _ _ _ Try.underlying22
  go_enter Try.func9, Try.ntmps9
  go_wp2
  go_ret
  exact ⟨rfl, rfl⟩

theorem clone_src (a : Option Addr) (cap : Nat) (xs : List Int) (w : World) (h : Src w a cap xs) (hm : xs.length ≤ 1048576) :
    Calls Try.prog 9 #[.slice a xs.length cap] w fun e w' => ∃ ao, e = .returned (.slice ao xs.length xs.length) ∧ Own w' (.slice ao xs.length xs.length) xs ∧ Below w.heap.size w w' := by
  rcases h with ⟨rfl, rfl, rfl⟩ | ⟨x, z, rfl, hl, hz, hc, ht⟩
  · refine (clone_nil w).mono ?_
    rintro e w' ⟨rfl, rfl⟩
    exact ⟨none, rfl, .inl ⟨rfl, rfl⟩, Below.refl _ _⟩
  · refine (clone_some x xs.length cap z w hl hz hc hm).mono ?_
    rintro e w' ⟨rfl, hown, hbel⟩
    rw [ht] at hown
    obtain ⟨h1, h2⟩ := own_of_row hown
    exact ⟨_, rfl, .inr ⟨_, rfl, h1, h2⟩, hbel⟩

/-- bytesEqual of a row and of a clone that hold the same bytes. -/
theorem eq_any (ga ca : Nat) (pb : Option Addr) (l : List Int) (w : World) (hl : l.length ≤ 8000000)
    (ha : ∀ j, j < l.length → w.cell? ⟨ga, j, none⟩ = some (.int .u8 (l.getD j 0))) (hb : Own w (.slice pb l.length l.length) l) :
    Calls Try.prog 11 #[.slice (some ⟨ga, 0, none⟩) l.length ca, .slice pb l.length l.length] w fun e w' => e = .returned (.bool true) ∧ ∃ m, w' = w.drewN m := by
  rcases hb with ⟨hv, rfl⟩ | ⟨g, hv, _, hc⟩
  · exact eq_zero _ _ _ _ w
  · simp only [Value.slice.injEq, and_true] at hv
    rw [hv]
    exact eq_some ga g l.length ca l.length l w hl ha hc

set_option maxHeartbeats 400000 in
theorem zzb_any (a b : Option Addr) (n m ca cb : Nat) (w : World) (h : n + m ≤ 1048576) :
    Calls Try.prog 8 #[.slice a n ca, .slice b m cb] w fun e w' => e = .returned (.bool true) ∧ w = w' := by
  go_enter Try.func8, Try.ntmps8
  go_wp2
  go_ret
  exact ⟨rfl, rfl⟩

set_option maxHeartbeats 400000 in
theorem main_long (a b : Option Addr) (n m ca cb : Nat) (w : World) (h : 1048576 < n + m) (hn : n ≤ maxLen) (hm : m ≤ maxLen) :
    Calls Try.prog 3 #[.slice a n ca, .slice b m cb] w fun e w' => e = .returned (.bool true) ∧ Below w.heap.size w w' := by
  unfold maxLen at hn hm
  by_cases c1 : 1048576 < n
  · go_enter Try.func3, Try.ntmps3
    go_wp2
    go_ret
    exact ⟨rfl, Below.refl _ _⟩
  · by_cases c2 : 1048576 < m
    · go_enter Try.func3, Try.ntmps3
      go_wp2
      go_ret
      exact ⟨rfl, Below.refl _ _⟩
    · go_enter Try.func3, Try.ntmps3
      go_wp2
      go_ret
      exact ⟨rfl, Below.refl _ _⟩
end Go.Proofs.Qxb6000080a.Canon
