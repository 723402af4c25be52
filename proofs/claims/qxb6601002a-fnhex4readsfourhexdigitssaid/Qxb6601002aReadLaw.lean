import Derived.Test.Qxb6601002aHex4
namespace Go.Proofs.Qxb6601002a
open Go.RowKit
set_option linter.unusedVariables false
set_option linter.unusedSimpArgs false

/-- The weight of the k-th digit; what the first k digits write. -/
def wt : Nat → Int
  | 0 => 4096
  | 1 => 256
  | 2 => 16
  | 3 => 1
  | _ => 0
def wsum (zs : List Int) : Nat → Int
  | 0 => 0
  | k + 1 => wsum zs k + hexd (zs.getD k 0) * wt k
theorem wsum_four (zs : List Int) : wsum zs 4 = acc zs 4 := by
  simp only [wsum, acc, wt]
  omega

/-- The first k are hex digits. -/
def AllHex (zs : List Int) (k : Nat) : Prop := ∀ i, i < k → 0 ≤ hexd (zs.getD i 0)
theorem AllHex.zero (zs : List Int) : AllHex zs 0 := fun i hi => absurd hi (Nat.not_lt_zero _)
theorem AllHex.succ {zs : List Int} {k : Nat} (h : AllHex zs k) (hk : 0 ≤ hexd (zs.getD k 0)) : AllHex zs (k + 1) := by
  intro i hi
  by_cases e : i = k
  · subst e; exact hk
  · exact h i (by omega)
theorem wt_bd (k : Nat) : 0 ≤ wt k ∧ wt k ≤ 4096 := by
  match k with
  | 0 => simp [wt]
  | 1 => simp [wt]
  | 2 => simp [wt]
  | 3 => simp [wt]
  | _ + 4 => simp [wt]
theorem wsum_bd (zs : List Int) (k : Nat) (h : AllHex zs k) : 0 ≤ wsum zs k ∧ wsum zs k ≤ 61440 * k := by
  induction k with
  | zero => simp [wsum]
  | succ k ih =>
    obtain ⟨h1, h2⟩ := ih (fun i hi => h i (by omega))
    have h3 := h k (by omega)
    have h4 := hexd_le (zs.getD k 0)
    obtain ⟨h5, h6⟩ := wt_bd k
    have h7 : 0 ≤ hexd (zs.getD k 0) * wt k := Int.mul_nonneg h3 h5
    have h8 : hexd (zs.getD k 0) * wt k ≤ 15 * 4096 := Int.mul_le_mul h4 h6 h5 (by omega)
    simp only [wsum]
    omega

set_option maxHeartbeats 400000 in
theorem bytes11 (a0 : Option Addr) (len cap : Nat) (w : World) (h : len ≤ 65536) :
    Calls Try.prog 11 #[.slice a0 len cap] w fun e w' => e = .returned (.bool true) ∧ w' = w := by
  go_enter Try.func11, Try.ntmps11
  go_wp2
  go_ret
  exact ⟨rfl, rfl⟩

set_option maxHeartbeats 400000 in
theorem readLaw_short (a0 : Option Addr) (len cap : Nat) (w : World) (h : 65536 < len ∨ len < 4) (hm : len ≤ maxLen) :
    Calls Try.prog 4 #[.slice a0 len cap] w fun e w' => e = .returned (.bool true) ∧ Below w.heap.size w w' := by
  unfold maxLen at hm
  rcases h with h | h
  all_goals
    go_enter Try.func4, Try.ntmps4
    go_wp2
    all_goals
      go_ret
      exact ⟨rfl, Below.refl _ _⟩

set_option maxHeartbeats 2000000 in
theorem readLaw_walk (b off len cap : Nat) (zs : List Int) (w : World) (h1 : len ≤ 65536) (h2 : 4 ≤ len) (hcap : len ≤ cap) (hc : Bytes w b off len zs) (hb : ∀ i, i < len → 0 ≤ zs.getD i 0 ∧ zs.getD i 0 ≤ 255) :
    Calls Try.prog 4 #[.slice (some ⟨b, off, none⟩) len cap] w fun e w' => e = .returned (.bool true) ∧ Below w.heap.size w w' := by
  have HC := hide hc
  have HB := hide hb
  clear hc hb
  go_enter Try.func4, Try.ntmps4
  go_wp2_with fail
  refine (bytes11 (some ⟨b, off, none⟩) len cap w h1).mono ?_
  rintro e w' ⟨rfl, hw⟩
  subst w'
  go_wp2_with fail
  refine (clone_any b off len cap zs w (by omega) (unhide HC)).mono ?_
  rintro e w1 ⟨rfl, hb1, hbl⟩
  have HB1 := hide hb1
  have HBL := hide hbl
  clear hb1 hbl
  go_wp2_with fail
  go_loop [3, 4, 5] (fun s g i => ∃ k : Nat, k ≤ 4 ∧ i = .int .i64 k ∧ g = .int .i64 (wt k) ∧ s = .int .i64 (wsum zs k) ∧ AllHex zs k) (fun _ _ i => 4 - (intOf i).toNat)
  case atStart => exact ⟨0, Nat.zero_le _, rfl, rfl, rfl, AllHex.zero zs⟩
  case round =>
    obtain ⟨k, hk, rfl, rfl, rfl, hx⟩ := hrel
    have hbd := wsum_bd zs k hx
    by_cases hlt : k < 4
    · have hsx := fun h => hide (hx.succ (k := k) h)
      clear hx
      have hcell : w1.cell? ⟨w.heap.size, 0 + k, none⟩ = some (.int .u8 (zs.getD k 0)) := unhide HB1 k (by omega)
      rw [Nat.zero_add] at hcell
      have hbb := unhide HB k (by omega)
      have hd2 := hexd_le (zs.getD k 0)
      have HS := hide (show wsum zs (k + 1) = wsum zs k + hexd (zs.getD k 0) * wt k from rfl)
      obtain ⟨hA0, hA1⟩ := hbd
      have hA2 : wsum zs k ≤ 245760 := by omega
      clear hA1
      generalize wsum zs k = A at *
      generalize zs.getD k 0 = c at *
      have hk4 : k = 0 ∨ k = 1 ∨ k = 2 ∨ k = 3 := by omega
      rcases hk4 with rfl | rfl | rfl | rfl
      · replace HS := hide (show wsum zs 1 = A + hexd c * 4096 from unhide HS)
        simp only [wt]
        go_wp2_with fail
        refine (hexVal_any c w1 hbb.1 hbb.2).mono ?_
        rintro e w' ⟨rfl, hw⟩
        subst w'
        by_cases hd : hexd c < 0
        · go_wp2_with fail
          go_ret
          exact ⟨rfl, unhide HBL⟩
        · go_wp2_with fail
          go_round
          case rel => exact ⟨1, by omega, by go_num, rfl, val_int ((by omega : _ = A + hexd c * 4096).trans (unhide HS).symm), unhide (hsx (by omega))⟩
          case measure => simp [intOf]
      · replace HS := hide (show wsum zs 2 = A + hexd c * 256 from unhide HS)
        simp only [wt]
        go_wp2_with fail
        refine (hexVal_any c w1 hbb.1 hbb.2).mono ?_
        rintro e w' ⟨rfl, hw⟩
        subst w'
        by_cases hd : hexd c < 0
        · go_wp2_with fail
          go_ret
          exact ⟨rfl, unhide HBL⟩
        · go_wp2_with fail
          go_round
          case rel => exact ⟨2, by omega, by go_num, rfl, val_int ((by omega : _ = A + hexd c * 256).trans (unhide HS).symm), unhide (hsx (by omega))⟩
          case measure => simp [intOf]
      · replace HS := hide (show wsum zs 3 = A + hexd c * 16 from unhide HS)
        simp only [wt]
        go_wp2_with fail
        refine (hexVal_any c w1 hbb.1 hbb.2).mono ?_
        rintro e w' ⟨rfl, hw⟩
        subst w'
        by_cases hd : hexd c < 0
        · go_wp2_with fail
          go_ret
          exact ⟨rfl, unhide HBL⟩
        · go_wp2_with fail
          go_round
          case rel => exact ⟨3, by omega, by go_num, rfl, val_int ((by omega : _ = A + hexd c * 16).trans (unhide HS).symm), unhide (hsx (by omega))⟩
          case measure => simp [intOf]
      · replace HS := hide (show wsum zs 4 = A + hexd c * 1 from unhide HS)
        simp only [wt]
        go_wp2_with fail
        refine (hexVal_any c w1 hbb.1 hbb.2).mono ?_
        rintro e w' ⟨rfl, hw⟩
        subst w'
        by_cases hd : hexd c < 0
        · go_wp2_with fail
          go_ret
          exact ⟨rfl, unhide HBL⟩
        · go_wp2_with fail
          go_round
          case rel => exact ⟨4, by omega, by go_num, rfl, val_int ((by omega : _ = A + hexd c * 1).trans (unhide HS).symm), unhide (hsx (by omega))⟩
          case measure => simp [intOf]
    · obtain rfl : k = 4 := by omega
      have HX := hide hx
      clear hx
      rw [wsum_four] at *
      go_wp2_with fail
      refine (zzHex4_any w.heap.size 0 len len zs w1 h2 (Nat.le_refl _) (fun i hi => unhide HB1 i (by omega)) (unhide HX) (fun i hi => unhide HB i (by omega))).mono ?_
      rintro e w' ⟨rfl, hw⟩
      subst w'
      go_wp2
      go_ret
      exact ⟨rfl, unhide HBL⟩
end Go.Proofs.Qxb6601002a
