import Derived.Test.Qxb6003624aFill
import Derived.WalkKit
import Derived.WalkSpells
import Derived.WalkLawsBesides
namespace Go.Proofs.Qxb6003624a
open Go.RowKit
set_option linter.unusedVariables false
set_option linter.unusedSimpArgs false

/-- The value of a hex digit of either case, or -1. -/
def hexd (c : Int) : Int :=
  if 48 ≤ c ∧ c ≤ 57 then c - 48 else if 97 ≤ c ∧ c ≤ 102 then c - 87 else if 65 ≤ c ∧ c ≤ 70 then c - 55 else -1

/-- The k-th sign of the table. -/
def dig (k : Nat) : Int := if k < 10 then 48 + (k : Int) else 87 + (k : Int)

theorem ret_int {k : IntKind} {a b : Int} (h : a = b) : Ending.returned (.int k a) = .returned (.int k b) := by rw [h]

theorem hex_low {c : Int} {k : Nat} (hk : k < 16) (h : c = dig k) : (k : Int) = hexd c := by
  unfold dig at h; unfold hexd; split at h <;> split <;> (try split) <;> (try split) <;> omega
theorem hex_up {c : Int} {k : Nat} (hk : k < 16) (hk' : 10 ≤ k) (h : c = dig k - 32) : (k : Int) = hexd c := by
  unfold dig at h; unfold hexd; split at h <;> split <;> (try split) <;> (try split) <;> omega
theorem hex_step {c : Int} {k : Nat} (hk : k < 16) (h : hexd c = -1 ∨ (k : Int) ≤ hexd c) (h1 : c ≠ dig k) (h2 : 10 ≤ k → c ≠ dig k - 32) : hexd c = -1 ∨ ((k + 1 : Nat) : Int) ≤ hexd c := by
  unfold dig at h1 h2; unfold hexd at *; omega
theorem hex_end {c : Int} (h : hexd c = -1 ∨ ((16 : Nat) : Int) ≤ hexd c) : hexd c = -1 := by
  unfold hexd at *; omega

theorem dig_mod (k : Nat) (hk : k < 16) (h : 10 ≤ k) : (dig k - 32) % 256 = dig k - 32 := by unfold dig; omega

theorem index_tab0 (w : World) : (Instr.index 9 (.string { data := #[48, 49, 50, 51, 52, 53, 54, 55, 56, 57, 97, 98, 99, 100, 101, 102] }) (.int .i64 ((0 : Nat) : Int))).run Try.prog w = .ok (.int .u8 (dig 0)) w := by kernel_rfl
theorem index_tab1 (w : World) : (Instr.index 9 (.string { data := #[48, 49, 50, 51, 52, 53, 54, 55, 56, 57, 97, 98, 99, 100, 101, 102] }) (.int .i64 ((1 : Nat) : Int))).run Try.prog w = .ok (.int .u8 (dig 1)) w := by kernel_rfl
theorem index_tab2 (w : World) : (Instr.index 9 (.string { data := #[48, 49, 50, 51, 52, 53, 54, 55, 56, 57, 97, 98, 99, 100, 101, 102] }) (.int .i64 ((2 : Nat) : Int))).run Try.prog w = .ok (.int .u8 (dig 2)) w := by kernel_rfl
theorem index_tab3 (w : World) : (Instr.index 9 (.string { data := #[48, 49, 50, 51, 52, 53, 54, 55, 56, 57, 97, 98, 99, 100, 101, 102] }) (.int .i64 ((3 : Nat) : Int))).run Try.prog w = .ok (.int .u8 (dig 3)) w := by kernel_rfl
theorem index_tab4 (w : World) : (Instr.index 9 (.string { data := #[48, 49, 50, 51, 52, 53, 54, 55, 56, 57, 97, 98, 99, 100, 101, 102] }) (.int .i64 ((4 : Nat) : Int))).run Try.prog w = .ok (.int .u8 (dig 4)) w := by kernel_rfl
theorem index_tab5 (w : World) : (Instr.index 9 (.string { data := #[48, 49, 50, 51, 52, 53, 54, 55, 56, 57, 97, 98, 99, 100, 101, 102] }) (.int .i64 ((5 : Nat) : Int))).run Try.prog w = .ok (.int .u8 (dig 5)) w := by kernel_rfl
theorem index_tab6 (w : World) : (Instr.index 9 (.string { data := #[48, 49, 50, 51, 52, 53, 54, 55, 56, 57, 97, 98, 99, 100, 101, 102] }) (.int .i64 ((6 : Nat) : Int))).run Try.prog w = .ok (.int .u8 (dig 6)) w := by kernel_rfl
theorem index_tab7 (w : World) : (Instr.index 9 (.string { data := #[48, 49, 50, 51, 52, 53, 54, 55, 56, 57, 97, 98, 99, 100, 101, 102] }) (.int .i64 ((7 : Nat) : Int))).run Try.prog w = .ok (.int .u8 (dig 7)) w := by kernel_rfl
theorem index_tab8 (w : World) : (Instr.index 9 (.string { data := #[48, 49, 50, 51, 52, 53, 54, 55, 56, 57, 97, 98, 99, 100, 101, 102] }) (.int .i64 ((8 : Nat) : Int))).run Try.prog w = .ok (.int .u8 (dig 8)) w := by kernel_rfl
theorem index_tab9 (w : World) : (Instr.index 9 (.string { data := #[48, 49, 50, 51, 52, 53, 54, 55, 56, 57, 97, 98, 99, 100, 101, 102] }) (.int .i64 ((9 : Nat) : Int))).run Try.prog w = .ok (.int .u8 (dig 9)) w := by kernel_rfl
theorem index_tab10 (w : World) : (Instr.index 9 (.string { data := #[48, 49, 50, 51, 52, 53, 54, 55, 56, 57, 97, 98, 99, 100, 101, 102] }) (.int .i64 ((10 : Nat) : Int))).run Try.prog w = .ok (.int .u8 (dig 10)) w := by kernel_rfl
theorem index_tab11 (w : World) : (Instr.index 9 (.string { data := #[48, 49, 50, 51, 52, 53, 54, 55, 56, 57, 97, 98, 99, 100, 101, 102] }) (.int .i64 ((11 : Nat) : Int))).run Try.prog w = .ok (.int .u8 (dig 11)) w := by kernel_rfl
theorem index_tab12 (w : World) : (Instr.index 9 (.string { data := #[48, 49, 50, 51, 52, 53, 54, 55, 56, 57, 97, 98, 99, 100, 101, 102] }) (.int .i64 ((12 : Nat) : Int))).run Try.prog w = .ok (.int .u8 (dig 12)) w := by kernel_rfl
theorem index_tab13 (w : World) : (Instr.index 9 (.string { data := #[48, 49, 50, 51, 52, 53, 54, 55, 56, 57, 97, 98, 99, 100, 101, 102] }) (.int .i64 ((13 : Nat) : Int))).run Try.prog w = .ok (.int .u8 (dig 13)) w := by kernel_rfl
theorem index_tab14 (w : World) : (Instr.index 9 (.string { data := #[48, 49, 50, 51, 52, 53, 54, 55, 56, 57, 97, 98, 99, 100, 101, 102] }) (.int .i64 ((14 : Nat) : Int))).run Try.prog w = .ok (.int .u8 (dig 14)) w := by kernel_rfl
theorem index_tab15 (w : World) : (Instr.index 9 (.string { data := #[48, 49, 50, 51, 52, 53, 54, 55, 56, 57, 97, 98, 99, 100, 101, 102] }) (.int .i64 ((15 : Nat) : Int))).run Try.prog w = .ok (.int .u8 (dig 15)) w := by kernel_rfl
theorem index_tab (k : Nat) (hk : k < 16) (w : World) : (Instr.index 9 (.string { data := #[48, 49, 50, 51, 52, 53, 54, 55, 56, 57, 97, 98, 99, 100, 101, 102] }) (.int .i64 (k : Int))).run Try.prog w = .ok (.int .u8 (dig k)) w := by
  match k, hk with
  | 0, _ => exact index_tab0 w
  | 1, _ => exact index_tab1 w
  | 2, _ => exact index_tab2 w
  | 3, _ => exact index_tab3 w
  | 4, _ => exact index_tab4 w
  | 5, _ => exact index_tab5 w
  | 6, _ => exact index_tab6 w
  | 7, _ => exact index_tab7 w
  | 8, _ => exact index_tab8 w
  | 9, _ => exact index_tab9 w
  | 10, _ => exact index_tab10 w
  | 11, _ => exact index_tab11 w
  | 12, _ => exact index_tab12 w
  | 13, _ => exact index_tab13 w
  | 14, _ => exact index_tab14 w
  | 15, _ => exact index_tab15 w
  | n + 16, h => exact absurd h (by omega)

set_option maxHeartbeats 400000 in
theorem hexDigit_any (c : Int) (w : World) (h0 : 0 ≤ c) (h1 : c ≤ 255) :
    Calls Try.prog 8 #[.int .u8 c] w fun e w' => e = .returned (.int .i64 (hexd c)) ∧ w' = w := by
  go_enter Try.func8, Try.ntmps8
  go_wp2
  go_loop [3] (fun i => ∃ k : Nat, k ≤ 16 ∧ i = .int .i64 k ∧ (hexd c = -1 ∨ (k : Int) ≤ hexd c)) (fun i => 16 - (intOf i).toNat)
  case atStart => exact ⟨0, Nat.zero_le _, rfl, by unfold hexd; omega⟩
  case round =>
    obtain ⟨k, hk, rfl, hn⟩ := hrel
    have HN := hide hn
    clear hn
    by_cases hlt : k < 16
    · have hix := fun w => index_tab k hlt w
      go_wp2
      · have e : (c == dig k) = true := by assumption
        go_ret
        exact ⟨ret_int (hex_low hlt (by simpa using e)), rfl⟩
      · have e : (c == (dig k - 32) % 256) = true := by assumption
        go_ret
        exact ⟨ret_int (hex_up hlt (by omega) (by have hd := dig_mod k hlt (by omega); simp at e; omega)), rfl⟩
      · have e1 : (c == dig k) = false := by assumption
        have e2 : (c == (dig k - 32) % 256) = false := by assumption
        go_round
        case rel => exact ⟨k + 1, by omega, by go_num, hex_step hlt (unhide HN) (by simpa using e1) (fun h => by have hd := dig_mod k hlt h; simp at e2; omega)⟩
        case measure => simp [intOf]; omega
      · have e1 : (c == dig k) = false := by assumption
        go_round
        case rel => exact ⟨k + 1, by omega, by go_num, hex_step hlt (unhide HN) (by simpa using e1) (fun h => absurd h (by omega))⟩
        case measure => simp [intOf]; omega
    · obtain rfl : k = 16 := by omega
      go_wp2
      go_ret
      exact ⟨ret_int (hex_end (unhide HN)).symm, rfl⟩
end Go.Proofs.Qxb6003624a
