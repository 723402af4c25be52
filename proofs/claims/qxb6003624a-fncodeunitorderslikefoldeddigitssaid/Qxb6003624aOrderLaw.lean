import Derived.Test.Qxb6003624aUnitLaw
namespace Go.Proofs.Qxb6003624a
open Go.RowKit
set_option linter.unusedVariables false
set_option linter.unusedSimpArgs false

/-! ### The plain law -/
def foldHex (c : Int) : Int := if 65 ≤ c ∧ c ≤ 70 then c + 32 else c
theorem fold_lt {x y : Int} (hx : 0 ≤ hexd x) (hy : 0 ≤ hexd y) (h : foldHex x < foldHex y) : hexd x < hexd y := by unfold hexd foldHex at *; omega
theorem fold_eq {x y : Int} (hx : 0 ≤ hexd x) (hy : 0 ≤ hexd y) (h1 : ¬ foldHex x < foldHex y) (h2 : ¬ foldHex y < foldHex x) : hexd x = hexd y := by unfold hexd foldHex at *; omega

def EqUpTo (xs ys : List Int) (k : Nat) : Prop := acc xs k = acc ys k
theorem EqUpTo.zero (xs ys : List Int) : EqUpTo xs ys 0 := rfl
theorem EqUpTo.succ {xs ys : List Int} {k : Nat} (h : EqUpTo xs ys k) (hd : hexd (xs.getD k 0) = hexd (ys.getD k 0)) : EqUpTo xs ys (k + 1) := by
  unfold EqUpTo at *
  simp only [acc, h, hd]

theorem acc_lt {xs ys : List Int} {k : Nat} (h : EqUpTo xs ys k) (hd : hexd (xs.getD k 0) < hexd (ys.getD k 0)) (n : Nat) (hx : AllHex xs n) (hy : AllHex ys n) (hk : k < n) : acc xs n < acc ys n := by
  induction n with
  | zero => omega
  | succ n ih =>
    by_cases e : k = n
    · subst e
      unfold EqUpTo at h
      simp only [acc]
      omega
    · have := ih (fun i hi => hx i (by omega)) (fun i hi => hy i (by omega)) (by omega)
      have h1 := hexd_le (xs.getD n 0)
      have h2 := hy n (by omega)
      simp only [acc]
      omega

theorem bytes_later {W wr : World} {b off n : Nat} {zs : List Int} (hs : Bytes W b off n zs) (hb : Below W.heap.size W wr) : Bytes wr b off n zs := by
  intro i hi
  have h := hs i hi
  exact (hb.cell (World.block_lt_of_cell? _ _ h)).trans h

/-! ### The callees -/
set_option maxHeartbeats 400000 in
theorem foldHex_any (c : Int) (w : World) (h0 : 0 ≤ c) (h1 : c ≤ 255) :
    Calls Try.prog 12 #[.int .u8 c] w fun e w' => e = .returned (.int .u8 (foldHex c)) ∧ w' = w := by
  by_cases h : 65 ≤ c ∧ c ≤ 70
  · obtain ⟨h2, h3⟩ := h
    have HE := hide (show c + 32 = foldHex c by unfold foldHex; omega)
    go_enter Try.func12, Try.ntmps12
    go_wp2
    go_ret
    exact ⟨ret_int (by have := unhide HE; omega), rfl⟩
  · have HE := hide (show c = foldHex c by unfold foldHex; omega)
    by_cases h2 : 65 ≤ c
    · have h3 : 70 < c := by omega
      clear h
      go_enter Try.func12, Try.ntmps12
      go_wp2
      go_ret
      exact ⟨ret_int (unhide HE), rfl⟩
    · clear h
      go_enter Try.func12, Try.ntmps12
      go_wp2
      go_ret
      exact ⟨ret_int (unhide HE), rfl⟩

set_option maxHeartbeats 400000 in
theorem bytes11_yes (a0 a1 : Option Addr) (len0 cap0 len1 cap1 : Nat) (w : World) (h : len0 ≤ 524288) (h' : len1 ≤ 524288) :
    Calls Try.prog 11 #[.slice a0 len0 cap0, .slice a1 len1 cap1] w fun e w' => e = .returned (.bool true) ∧ w' = w := by
  go_enter Try.func11, Try.ntmps11
  go_wp2
  go_ret
  exact ⟨rfl, rfl⟩

set_option maxHeartbeats 400000 in
theorem orderLaw_short (a0 a1 : Option Addr) (len0 cap0 len1 cap1 : Nat) (w : World) (h : 524288 < len0 ∨ 524288 < len1 ∨ len0 < 4 ∨ len1 < 4) (hm0 : len0 ≤ maxLen) (hm1 : len1 ≤ maxLen) :
    Calls Try.prog 4 #[.slice a0 len0 cap0, .slice a1 len1 cap1] w fun e w' => e = .returned (.bool true) ∧ Below w.heap.size w w' := by
  unfold maxLen at hm0 hm1
  rcases h with h | h | h | h
  all_goals
    go_enter Try.func4, Try.ntmps4
    go_wp2
    all_goals
      go_ret
      exact ⟨rfl, Below.refl _ _⟩
end Go.Proofs.Qxb6003624a
