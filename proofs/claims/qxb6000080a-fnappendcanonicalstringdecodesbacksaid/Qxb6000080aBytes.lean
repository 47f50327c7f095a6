import Derived.Test.Qxb6000080aRows
import Derived.WalkKit
import Derived.WalkSpells
import Derived.WalkLawsBesides
import Derived.Laws.CopyOwn
namespace Go.Proofs.Qxb6000080a.Byt
open Go.RowKit

theorem info5 : (Try.prog.info? 5).map (fun i => (i.zero, i.size, i.bytes)) = some (some (.int .u8 0), 1, 1) := by kernel_rfl
theorem size5 : (Try.prog.info? 5).map (·.size) = some 1 := by kernel_rfl

/-- The cells of a list of bytes. -/
def cells (l : List Int) : List Value := l.map (Value.int .u8)
theorem length_cells (l : List Int) : (cells l).length = l.length := List.length_map _
theorem cells_one (l : List Int) : ∀ u ∈ cells l, u.oneCell' = true := ints_oneCell .u8 l

theorem splice_all (l r : List Value) (h : l.length = r.length) : splice l 0 r = r := by
  unfold splice
  rw [List.take_zero, List.nil_append, Nat.zero_add, ← h, List.drop_length, List.append_nil]

/-- A made row, as a block. -/
theorem made_block {w : World} {base g len : Nat} (h : w.ownsRow base 5 1 (.slice (some ⟨g, 0, none⟩) len len) len (madeCells (Value.int .u8 0).cells (len * 1)).toList) :
    w.heap[g]? = some (.cells (cells (List.replicate len 0)).toArray 5 (0, 0)) := by
  rcases h.2 with ⟨h', _⟩ | ⟨g', cap', cur, h', _, hg, _, _, hcs, htake⟩
  · simp at h'
  · simp only [Value.slice.injEq, Option.some.injEq, Addr.mk.injEq, and_true, true_and] at h'
    obtain ⟨rfl, rfl⟩ := h'
    rw [hg]
    have e : cur.toList = cells (List.replicate len 0) := by
      rw [List.take_of_length_le (by simp [hcs])] at htake
      rw [htake]
      show (madeCells #[Value.int .u8 0] (len * 1)).toList = _
      rw [toList_madeCells_one]
      simp [cells]
    rw [← e]

/-- A block whose cells are known, as an owned row. -/
theorem owns_block {w : World} {base g : Nat} {l : List Int} (hb : base ≤ g) (h : w.heap[g]? = some (.cells (cells l).toArray 5 (0, 0))) (hm : l.length ≤ maxLen) :
    w.ownsRow base 5 1 (.slice (some ⟨g, 0, none⟩) l.length l.length) l.length (cells l) :=
  ⟨by simp [length_cells], .inr ⟨g, l.length, (cells l).toArray, rfl, hb, h, Nat.le_refl _, hm, by simp [length_cells], List.take_of_length_le (by simp [length_cells])⟩⟩

set_option maxHeartbeats 400000 in
theorem clone_some (x : Addr) (len cap : Nat) (zs : List Int) (w : World) (hl : len ≤ cap) (hz : zs.length = cap) (hcell : ∀ i, i < zs.length → w.cell? (x.add i) = some (.int .u8 (zs.getD i 0))) (hlen : len ≤ 1048576) :
    Calls Try.prog 9 #[.slice (some x) len cap] w fun e w' => e = .returned (.slice (some ⟨w.heap.size, 0, none⟩) len len) ∧
      w'.ownsRow w.heap.size 5 1 (.slice (some ⟨w.heap.size, 0, none⟩) len len) len (cells (zs.take len)) ∧ Below w.heap.size w w' := by
  obtain ⟨i0, hi, hz0, hz1, hz2⟩ := info_parts info5
  have hnil : ∀ W, (binOp .eql 22 (.slice (some x) len cap) (.slice none 0 0)).run Try.prog W = .ok (.bool false) W := fun W => Lib.run_eql_slice_nil W _ _ _ _ _ _ _ Try.underlying22
  have HC : Hid (∀ i, i < zs.length → w.cell? (x.add i) = some (.int .u8 (zs.getD i 0))) := hcell
  clear hcell
  go_enter Try.func9, Try.ntmps9
  go_wp2_with (first
    | (at_make; refine wpList_make_full _ rfl _ _ 22 rfl w.heap.size 5 i0 (.int .u8 0) 1 Try.underlying22 hi hz0 hz1 _ _ _ _ len rfl rfl rfl rfl (by rw [hz2]; omega) (by unfold maxLen; omega) (Nat.le_refl _) ?_; intro w1 hown hgrow)
    | (refine wpList_copy_splice rfl (.tmp 9) (.tmp 10) 22 22 rfl 5 Try.underlying22 size5 _ _ _ _ _ _ rfl rfl w.heap.size 0 (cells (List.replicate len 0)) 5 ?c1 (cells (zs.take len)) ?c2 ?c3 ?c4 (cells_one _) w.heap.size w ?c5 (Nat.le_refl _) ?_; rotate_right; intro w2 hrow hbel))
  case c1 => exact made_block hown
  case c2 => rw [length_cells, List.length_take, hz]; show _ = min len len; omega
  case c3 =>
    intro _ j v hv
    have hb : Below w.heap.size w w1 := (Below.refl _ _).grown hgrow (Nat.le_refl _) (fun k hk => by simp at hk)
    have hj : j < len := by
      have := (List.getElem?_eq_some_iff.1 hv).1
      rw [length_cells, List.length_take] at this
      omega
    have hc := HC.out j (by omega)
    rw [hb.cell (World.block_lt_of_cell? w _ hc), hc, ← hv]
    simp [cells, hj, hz, show j < cap from by omega]
  case c4 => simp [length_cells]; omega
  case c5 => exact (Below.refl _ _).grown hgrow (Nat.le_refl _) (fun k hk => by simp at hk)
  go_ret
  refine ⟨rfl, ?_, hbel⟩
  have hlz : (zs.take len).length = len := by rw [List.length_take]; omega
  have h := owns_block (base := w.heap.size) (Nat.le_refl _) (l := zs.take len) (w := w2) (g := w.heap.size) (by
    have := hrow.out
    rw [splice_all _ _ (by simp [length_cells]; omega)] at this
    exact this) (by rw [hlz]; unfold maxLen; omega)
  rw [hlz] at h
  exact h
end Go.Proofs.Qxb6000080a.Byt
