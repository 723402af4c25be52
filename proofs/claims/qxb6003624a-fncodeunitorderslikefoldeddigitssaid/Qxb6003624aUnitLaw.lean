import Derived.Test.Qxb6003624aCodeUnit
namespace Go.Proofs.Qxb6003624a
open Go.RowKit
set_option linter.unusedVariables false
set_option linter.unusedSimpArgs false

theorem pow_le (k : Nat) (h : k < 4) : (16 : Int) ^ k ≤ 4096 := by
  match k, h with
  | 0, _ => decide
  | 1, _ => decide
  | 2, _ => decide
  | 3, _ => decide

/-- The first k are hex digits. -/
def AllHex (zs : List Int) (k : Nat) : Prop := ∀ i, i < k → 0 ≤ hexd (zs.getD i 0)
theorem AllHex.zero (zs : List Int) : AllHex zs 0 := fun i hi => absurd hi (Nat.not_lt_zero _)
theorem AllHex.succ {zs : List Int} {k : Nat} (h : AllHex zs k) (hk : 0 ≤ hexd (zs.getD k 0)) : AllHex zs (k + 1) := by
  intro i hi
  by_cases e : i = k
  · subst e; exact hk
  · exact h i (by omega)

set_option maxHeartbeats 400000 in
theorem unitLaw_short (a0 : Option Addr) (len cap : Nat) (w : World) (h : 1048576 < len ∨ len < 4) (hm : len ≤ maxLen) :
    Calls Try.prog 3 #[.slice a0 len cap] w fun e w' => e = .returned (.bool true) ∧ Below w.heap.size w w' := by
  unfold maxLen at hm
  rcases h with h | h
  all_goals
    go_enter Try.func3, Try.ntmps3
    go_wp2
    go_ret
    exact ⟨rfl, Below.refl _ _⟩

set_option maxHeartbeats 400000 in
theorem bytes7_yes (a0 : Option Addr) (len cap : Nat) (w : World) (h : len ≤ 1048576) :
    Calls Try.prog 7 #[.slice a0 len cap] w fun e w' => e = .returned (.bool true) ∧ w' = w := by
  go_enter Try.func7, Try.ntmps7
  go_wp2
  go_ret
  exact ⟨rfl, rfl⟩

set_option maxHeartbeats 1000000 in
theorem unitLaw_long (b off len cap : Nat) (zs : List Int) (w : World) (h1 : len ≤ 1048576) (h2 : 4 ≤ len) (hcap : len ≤ cap) (hc : Bytes w b off len zs) (hb : ∀ i, i < len → 0 ≤ zs.getD i 0 ∧ zs.getD i 0 ≤ 255) :
    Calls Try.prog 3 #[.slice (some ⟨b, off, none⟩) len cap] w fun e w' => e = .returned (.bool true) ∧ Below w.heap.size w w' := by
  have HC := hide hc
  have HB := hide hb
  clear hc hb
  go_enter Try.func3, Try.ntmps3
  go_wp2_with fail
  refine (bytes7_yes (some ⟨b, off, none⟩) len cap w h1).mono ?_
  rintro e w' ⟨rfl, hw⟩
  subst w'
  go_wp2_with fail
  go_loop [3] (fun i => ∃ k : Nat, k ≤ 4 ∧ i = .int .i64 k ∧ AllHex zs k) (fun i => 4 - (intOf i).toNat)
  case atStart => exact ⟨0, Nat.zero_le _, rfl, AllHex.zero zs⟩
  case round =>
    obtain ⟨k, hk, rfl, hx⟩ := hrel
    by_cases hlt : k < 4
    · have hcell : w.cell? ⟨b, off + k, none⟩ = some (.int .u8 (zs.getD k 0)) := unhide HC k (by omega)
      have hbb := unhide HB k (by omega)
      have HX := hide hx
      have hsx := fun h => hide (hx.succ (k := k) h)
      clear hx
      generalize zs.getD k 0 = c at *
      go_wp2_with fail
      refine (hexDigit_any c w hbb.1 hbb.2).mono ?_
      rintro e w' ⟨rfl, hw⟩
      subst w'
      by_cases hd : hexd c < 0
      · go_wp2_with fail
        go_ret
        exact ⟨rfl, Below.refl _ _⟩
      · go_wp2_with fail
        go_round
        case rel => exact ⟨k + 1, by omega, by go_num, unhide (hsx (by omega))⟩
        case measure => simp [intOf]; omega
    · obtain rfl : k = 4 := by omega
      have HX := hide hx
      clear hx
      go_wp2_with fail
      refine (copyBytes_any b off len cap zs w h1 (unhide HC)).mono ?_
      rintro e w1 ⟨rfl, hb1, hbl⟩
      have HB1 := hide hb1
      have HBL := hide hbl
      clear hb1 hbl
      go_wp2_with fail
      go_loop [4, 5] (fun a i => ∃ k : Nat, k ≤ 4 ∧ i = .int .i64 k ∧ a = .int .i64 (acc zs k)) (fun _ i => 4 - (intOf i).toNat)
      case atStart => exact ⟨0, Nat.zero_le _, rfl, rfl⟩
      case round =>
        obtain ⟨k, hk, rfl, rfl⟩ := hrel
        have hbd := acc_bd zs k (fun i hi => unhide HX i (by omega))
        by_cases hlt : k < 4
        · have hcell : w1.cell? ⟨w.heap.size, 0 + k, none⟩ = some (.int .u8 (zs.getD k 0)) := unhide HB1 k (by omega)
          rw [Nat.zero_add] at hcell
          have hbb := unhide HB k (by omega)
          have hd := unhide HX k (by omega)
          have hd2 := hexd_le (zs.getD k 0)
          have HS := hide (show acc zs (k + 1) = acc zs k * 16 + hexd (zs.getD k 0) from rfl)
          have hA := pow_le k hlt
          obtain ⟨hA0, hA1⟩ := hbd
          have hA2 : acc zs k < 4096 := by omega
          clear hA hA1
          generalize acc zs k = A at *
          generalize zs.getD k 0 = c at *
          go_wp2_with fail
          refine (hexDigit_any c w1 hbb.1 hbb.2).mono ?_
          rintro e w' ⟨rfl, hw⟩
          subst w'
          go_wp2_with fail
          go_round
          case rel => exact ⟨k + 1, by omega, by go_num, val_int (unhide HS).symm⟩
          case measure => simp [intOf]; omega
        · obtain rfl : k = 4 := by omega
          go_wp2_with fail
          refine (zzCodeUnit_any w.heap.size 0 len len zs w1 h2 (Nat.le_refl _) (fun i hi => unhide HB1 i (by omega)) (unhide HX) (fun i hi => unhide HB i (by omega))).mono ?_
          rintro e w' ⟨rfl, hw⟩
          subst w'
          go_wp2
          go_ret
          exact ⟨rfl, unhide HBL⟩
end Go.Proofs.Qxb6003624a
