import Derived.Test.Qxb6000080aBytes
import Derived.Test.Qxb6000080aCanonLaw
namespace Go.Proofs.Qxb6000080a.Byt
open Go.RowKit

theorem cells_append (a b : List Int) : cells (a ++ b) = cells a ++ cells b := List.map_append

theorem cell_alloc {w : World} {o : Obj} {a : Addr} {v : Value} (h : w.cell? a = some v) : (w.alloc o).cell? a = some v := by
  rw [World.cell?_alloc_lt _ _ _ (World.block_lt_of_cell? w a h)]; exact h

/-- A literal's cells, in the block that was made for them. -/
theorem lit_cells (w : World) (l : List Int) (t : TypeId) : ∀ j u, (cells l)[j]? = some u → (w.alloc (.cells (cells l).toArray t)).cell? ((⟨w.heap.size, 0, none⟩ : Addr).add j) = some u := by
  intro j u h
  rw [Addr.add_lit, Nat.zero_add, World.cell?_alloc_at _ _ _ _ rfl]
  simpa using h

theorem own_snoc {w : World} {base : Nat} {v : Value} {a b : List Int} {m : Nat} (h : w.ownsRow base 5 1 v (a.length + m) (cells a ++ cells b)) (hm : b.length = m) :
    w.ownsRow base 5 1 v (a ++ b).length (cells (a ++ b)) := by
  rw [cells_append, List.length_append, hm]; exact h

theorem own_mono {w : World} {base base' : Nat} {v : Value} {n : Nat} {xs : List Value} (h : w.ownsRow base' 5 1 v n xs) (hb : base ≤ base') : w.ownsRow base 5 1 v n xs := by
  refine ⟨h.1, ?_⟩
  rcases h.2 with hn | ⟨g, cap, cur, hv, hg, rest⟩
  · exact .inl hn
  · exact .inr ⟨g, cap, cur, hv, Nat.le_trans hb hg, rest⟩

/-- Behind a literal's block and an append to what the call owns, nothing below has turned. -/
theorem below_append {B : Nat} {w wr w2 : World} {o : Obj} {v : Value} {n : Nat} {xs : List Value} (hb : Below B w wr) (hB : B ≤ wr.heap.size) (hown : wr.ownsRow B 5 1 v n xs) (hg : (wr.alloc o).grownBy w2 v.ownBlock) : Below B w w2 :=
  (hb.alloc hB o).grown hg (by simp; omega) (fun k hk => (hown.lt k hk).1)
theorem below_append_drew {B : Nat} {w wr w2 : World} {o : Obj} {v : Value} {n : Nat} {xs : List Value} (hb : Below B w wr) (hB : B ≤ wr.heap.size) (hown : wr.ownsRow B 5 1 v n xs) (hg : (wr.alloc o).drew.grownBy w2 v.ownBlock) : Below B w w2 :=
  ((hb.alloc hB o).drew).grown hg (by simp; omega) (fun k hk => (hown.lt k hk).1)
end Go.Proofs.Qxb6000080a.Byt
