import Derived.Test.Qxb6601002aClone
import Derived.Test.Qxb6601002aHexVal
namespace Go.Proofs.Qxb6601002a
open Go.RowKit
set_option linter.unusedVariables false
set_option linter.unusedSimpArgs false

/-- The number that the first k digits write. -/
def acc (zs : List Int) : Nat → Int
  | 0 => 0
  | k + 1 => acc zs k * 16 + hexd (zs.getD k 0)

theorem hexd_le (c : Int) : hexd c ≤ 15 := by unfold hexd; omega
theorem acc_bd (zs : List Int) (k : Nat) (h : ∀ i, i < k → 0 ≤ hexd (zs.getD i 0)) : 0 ≤ acc zs k ∧ acc zs k < 16 ^ k := by
  induction k with
  | zero => simp [acc]
  | succ k ih =>
    obtain ⟨h1, h2⟩ := ih (fun i hi => h i (by omega))
    have h3 := h k (by omega)
    have h4 := hexd_le (zs.getD k 0)
    simp only [acc, Int.pow_succ]
    omega

theorem or4 (A d : Int) (h0 : 0 ≤ A) (h1 : A < 4096) (h2 : 0 ≤ d) (h3 : d < 16) : bits .or .i32 (A * 16) d = A * 16 + d :=
  bits_join .i32 31 (by decide) wraps_i32 4 (A * 16) d (by omega) (by omega) (by omega) h2 (by omega) (by omega)
theorem unit_num (A c : Int) (h0 : 0 ≤ A) (h1 : A < 4096) (hd : 0 ≤ hexd c) (h : c ≤ 57) : bits .or .i32 (A * 16) ((c - 48) % 256) = A * 16 + hexd c := by
  have e : (c - 48) % 256 = hexd c := by unfold hexd at *; omega
  rw [e]; exact or4 A _ h0 h1 hd (by have := hexd_le c; omega)
theorem unit_low (A c : Int) (h0 : 0 ≤ A) (h1 : A < 4096) (hd : 0 ≤ hexd c) (h : 97 ≤ c) : bits .or .i32 (A * 16) (c - 87) = A * 16 + hexd c := by
  have e : c - 87 = hexd c := by unfold hexd at *; omega
  rw [e]; exact or4 A _ h0 h1 hd (by have := hexd_le c; omega)
theorem unit_up (A c : Int) (h0 : 0 ≤ A) (h1 : A < 4096) (hd : 0 ≤ hexd c) (h : 57 < c) (h' : c < 97) : bits .or .i32 (A * 16) (c - 55) = A * 16 + hexd c := by
  have e : c - 55 = hexd c := by unfold hexd at *; omega
  rw [e]; exact or4 A _ h0 h1 hd (by have := hexd_le c; omega)
theorem val_int {k : IntKind} {a b : Int} (h : a = b) : Value.int k a = .int k b := by rw [h]

set_option maxHeartbeats 400000 in
theorem hex4_any (b off len cap : Nat) (zs : List Int) (w : World) (hl : 4 ≤ len) (hcap : len ≤ cap) (hc : Bytes w b off 4 zs) (hx : ∀ i, i < 4 → 0 ≤ hexd (zs.getD i 0)) (hb : ∀ i, i < 4 → 0 ≤ zs.getD i 0 ∧ zs.getD i 0 ≤ 255) :
    Calls Try.prog 25 #[.slice (some ⟨b, off, none⟩) len cap] w fun e w' => e = .returned (.int .i32 (acc zs 4)) ∧ w' = w := by
  go_enter Try.func25, Try.ntmps25
  go_wp2
  go_loop [3, 9] (fun r i => ∃ k : Nat, k ≤ 4 ∧ i = .int .i64 k ∧ r = .int .i32 (acc zs k)) (fun _ i => 4 - (intOf i).toNat)
  case atStart => exact ⟨0, Nat.zero_le _, rfl, rfl⟩
  case round =>
    obtain ⟨k, hk, rfl, rfl⟩ := hrel
    by_cases hlt : k < 4
    · have hcell := hc k hlt
      unfold byteAt at hcell
      have hr := acc_bd zs k (fun i hi => hx i (by omega))
      have hd := hx k hlt
      have hbb := hb k hlt
      have Hs : acc zs (k + 1) = acc zs k * 16 + hexd (zs.getD k 0) := rfl
      have HS := hide Hs
      clear Hs hc hx hb
      generalize acc zs k = A at *
      generalize zs.getD k 0 = c at *
      have hp : (16 : Int) ^ k ≤ 4096 := by
        match k, hlt with
        | 0, _ => decide
        | 1, _ => decide
        | 2, _ => decide
        | 3, _ => decide
      have hA : A < 4096 := by omega
      obtain ⟨hA0, _⟩ := hr
      clear hp
      go_wp2
      · go_round
        case rel => exact ⟨k + 1, by omega, by go_num, val_int ((unit_num A c hA0 hA hd (by assumption)).trans (unhide HS).symm)⟩
        case measure => simp [intOf]; omega
      · go_round
        case rel => exact ⟨k + 1, by omega, by go_num, val_int ((unit_low A c hA0 hA hd (by assumption)).trans (unhide HS).symm)⟩
        case measure => simp [intOf]; omega
      · go_round
        case rel => exact ⟨k + 1, by omega, by go_num, val_int ((unit_up A c hA0 hA hd (by assumption) (by assumption)).trans (unhide HS).symm)⟩
        case measure => simp [intOf]; omega
    · obtain rfl : k = 4 := by omega
      clear hc hx hb
      go_wp2
      go_ret
      exact ⟨rfl, rfl⟩

set_option maxHeartbeats 400000 in
theorem zzHex4_any (b off len cap : Nat) (zs : List Int) (w : World) (hl : 4 ≤ len) (hcap : len ≤ cap) (hc : Bytes w b off 4 zs) (hx : ∀ i, i < 4 → 0 ≤ hexd (zs.getD i 0)) (hb : ∀ i, i < 4 → 0 ≤ zs.getD i 0 ∧ zs.getD i 0 ≤ 255) :
    Calls Try.prog 13 #[.slice (some ⟨b, off, none⟩) len cap] w fun e w' => e = .returned (.int .i32 (acc zs 4)) ∧ w' = w := by
  have h := hide (hex4_any b off len cap zs w hl hcap hc hx hb)
  clear hc hx hb
  generalize acc zs 4 = A at *
  go_enter Try.func13, Try.ntmps13
  go_wp2_with fail
  refine (unhide h).mono ?_
  rintro e w' ⟨rfl, hw⟩
  subst w'
  go_wp2
  go_ret
  exact ⟨rfl, rfl⟩
end Go.Proofs.Qxb6601002a
