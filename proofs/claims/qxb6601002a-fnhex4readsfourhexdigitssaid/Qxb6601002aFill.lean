import Derived.Test.Qxb6601002aRows
import Derived.WalkKit
namespace Go.Proofs.Qxb6601002a
open Go.RowKit
set_option linter.unusedVariables false
set_option linter.unusedSimpArgs false

theorem hide {p : Prop} (h : p) : Hid p := h
theorem unhide {p : Prop} (h : Hid p) : p := h

/-- A row of n cells of which the first k have been filled by f, the rest hold z. -/
def filled (f : Nat → Value) (z : Value) (n k : Nat) : List Value := (List.range k).map f ++ List.replicate (n - k) z

theorem filled_zero (f : Nat → Value) (z : Value) (n : Nat) : filled f z n 0 = List.replicate n z := by simp [filled]
theorem filled_all (f : Nat → Value) (z : Value) (n : Nat) : filled f z n n = (List.range n).map f := by simp [filled]
theorem filled_set (f : Nat → Value) (z : Value) (n k : Nat) (h : k < n) : (filled f z n k).set k (f k) = filled f z n (k + 1) := by
  unfold filled
  rw [List.set_append_right _ _ (by simp)]
  obtain ⟨m, rfl⟩ : ∃ m, n = k + 1 + m := ⟨n - (k + 1), by omega⟩
  rw [show k + 1 + m - k = m + 1 by omega, show k + 1 + m - (k + 1) = m by omega, List.replicate_succ, List.range_succ]
  simp
theorem filled_at (f : Nat → Value) (z : Value) (n k : Nat) (h : k < n) : (filled f z n k)[k]? = some z := by
  unfold filled
  rw [List.getElem?_append_right (by simp)]
  simp [List.getElem?_replicate]
  omega

/-- One round of a copying loop: what the call owns behind the store. -/
theorem fill_step {w wr : World} {B n cap k : Nat} {e : TypeId} {f : Nat → Value} {z : Value} (hk : k < n)
    (hown : wr.ownsRow B e 1 (.slice (some ⟨B, 0, none⟩) n cap) n (filled f z n k)) (hb : Below B w wr) :
    (wr.setCell ⟨B, k, none⟩ (f k)).ownsRow B e 1 (.slice (some ⟨B, 0, none⟩) n cap) n (filled f z n (k + 1)) ∧ Below B w (wr.setCell ⟨B, k, none⟩ (f k)) := by
  have h := hown.stored k (f k)
  rw [filled_set f z n k hk] at h
  exact ⟨h.1, hb.setCell (p := ⟨B, k, none⟩) (Nat.le_refl _) _⟩

theorem fill_cell {wr : World} {B n cap k : Nat} {e : TypeId} {f : Nat → Value} {z : Value} (hk : k < n)
    (hown : wr.ownsRow B e 1 (.slice (some ⟨B, 0, none⟩) n cap) n (filled f z n k)) : wr.cell? ⟨B, k, none⟩ = some z := by
  rw [hown.cellAt k (by omega), filled_at f z n k hk]

theorem full_cell {wr : World} {B n cap k : Nat} {e : TypeId} {f : Nat → Value} (hk : k < n)
    (hown : wr.ownsRow B e 1 (.slice (some ⟨B, 0, none⟩) n cap) n ((List.range n).map f)) : wr.cell? ⟨B, k, none⟩ = some (f k) := by
  rw [hown.cellAt k (by omega)]
  simp [hk]
end Go.Proofs.Qxb6601002a
