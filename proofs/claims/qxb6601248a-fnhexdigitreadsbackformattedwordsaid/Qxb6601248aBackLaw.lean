import Derived.Test.Qxb6601248aHexWalk
import Derived.Laws.BitsAllLaws
namespace Go.Proofs.Qxb6601248a.Back
open Go.RowKit

/-- The digit d, written in the chosen case. -/
def dig (u : Bool) (d : Nat) : Nat := if d < 10 then 48 + d else if u then 55 + d else 87 + d

theorem val_dig (u : Bool) (d : Nat) (h : d < 16) : Hex.val (dig u d) = d := by
  unfold Hex.val dig
  by_cases h10 : d < 10 <;> cases u <;> simp [h10] <;> omega

theorem dig_lt (u : Bool) (d : Nat) (h : d < 16) : dig u d ≤ 255 := by
  unfold dig
  by_cases h10 : d < 10 <;> cases u <;> simp [h10] <;> omega

/-- The q-th hexadecimal digit of v from the top, and what lies above it. -/
def up (v k : Nat) : Nat := v / 16 ^ (16 - k)

theorem up_zero (v : Nat) (h : v < 18446744073709551616) : up v 0 = 0 := by
  unfold up; simp; omega
theorem up_16 (v : Nat) : up v 16 = v := by unfold up; simp
theorem up_succ (v k : Nat) (h : k < 16) : up v k = up v (k + 1) / 16 := by
  unfold up
  have e : 16 - k = (16 - (k + 1)) + 1 := by omega
  rw [e, Nat.pow_succ, Nat.div_div_eq_div_mul]
theorem up_lt (v k : Nat) (h : v < 18446744073709551616) : up v k < 18446744073709551616 := by
  unfold up
  exact Nat.lt_of_le_of_lt (Nat.div_le_self _ _) h

theorem low_at (k : Nat) (h : k < 16) : ((({ data := #[48, 49, 50, 51, 52, 53, 54, 55, 56, 57, 97, 98, 99, 100, 101, 102] } : ByteArray)[k]'h).toNat : Nat) = dig false k := by
  have : ∀ j : Fin 16, ((({ data := #[48, 49, 50, 51, 52, 53, 54, 55, 56, 57, 97, 98, 99, 100, 101, 102] } : ByteArray)[j.1]'j.2).toNat : Nat) = dig false j.1 := by decide +kernel
  exact this ⟨k, h⟩
theorem up_at (k : Nat) (h : k < 16) : ((({ data := #[48, 49, 50, 51, 52, 53, 54, 55, 56, 57, 65, 66, 67, 68, 69, 70] } : ByteArray)[k]'h).toNat : Nat) = dig true k := by
  have : ∀ j : Fin 16, ((({ data := #[48, 49, 50, 51, 52, 53, 54, 55, 56, 57, 65, 66, 67, 68, 69, 70] } : ByteArray)[j.1]'j.2).toNat : Nat) = dig true j.1 := by decide +kernel
  exact this ⟨k, h⟩

/-- What is known of memory when the places from j on are written. -/
def Inv (w : World) (v : Nat) (u : Bool) (j : Nat) (wr : World) : Prop :=
  (∀ p, p < 16 → ∃ n : Nat, wr.cell? ⟨w.heap.size, p, none⟩ = some (.int .u8 n)) ∧
  (∀ p, j ≤ p → p < 16 → wr.cell? ⟨w.heap.size, p, none⟩ = some (.int .u8 (dig u (up v (p + 1) % 16)))) ∧
  (∀ p, wr.frozen? ⟨w.heap.size, p, none⟩ = false) ∧ Grown w wr

theorem frozen_new (w : World) (p : Nat) : w.frozen? ⟨w.heap.size, p, none⟩ = false := by
  simp [World.frozen?]

theorem inv_step {w wr : World} {v : Nat} {u : Bool} {m : Nat} (h : Inv w v u (m + 1) wr) (hm : m < 16) {n : Nat} (hn : n = dig u (up v (m + 1) % 16)) :
    Inv w v u m (wr.setCell ⟨w.heap.size, m, none⟩ (.int .u8 n)) := by
  obtain ⟨h1, h2, h3, h4⟩ := h
  obtain ⟨old, hold⟩ := h1 m hm
  have same : (wr.setCell ⟨w.heap.size, m, none⟩ (.int .u8 n)).cell? ⟨w.heap.size, m, none⟩ = some (.int .u8 n) :=
    World.cell?_setCell_same _ _ _ hold
  have other : ∀ p, p ≠ m → (wr.setCell ⟨w.heap.size, m, none⟩ (.int .u8 n)).cell? ⟨w.heap.size, p, none⟩ = wr.cell? ⟨w.heap.size, p, none⟩ := fun p hp =>
    World.cell?_setCell_other _ _ _ _ (fun e => hp (congrArg Addr.off e).symm)
  refine ⟨fun p hp => ?_, fun p hp hp' => ?_, fun p => ?_, h4.setCell (Nat.le_refl _) _⟩
  · by_cases e : p = m
    · subst e; exact ⟨n, same⟩
    · rw [other p e]; exact h1 p hp
  · by_cases e : p = m
    · subst e; rw [same, hn]
    · rw [other p e]; exact h2 p (by omega) hp'
  · rw [World.frozen?_setCell]; exact h3 p
end Go.Proofs.Qxb6601248a.Back
