import Derived.Test.Qxb6003624aCopyStr
namespace Go.Proofs.Qxb6003624a
open Go.RowKit
set_option linter.unusedVariables false
set_option linter.unusedSimpArgs false

/-- The call answered true or false. (Behind a name: the walk would take the bare 'exists' apart.) -/
def SomeBool (e : Ending) : Prop := ∃ b, e = .returned (.bool b)

set_option maxHeartbeats 1000000 in
theorem bytes_any (s0 s2 s5 s8 : ByteArray) (n1 n4 n6 n7 : Int) (b3 : Bool) (a0 : Option Addr) (len cap : Nat) (ss : List ByteArray) (w : World) (hm : len ≤ maxLen) (hc : Strs w a0 len ss) :
    Calls Try.prog 16 #[.string s0, .int .i64 n1, .string s2, .bool b3, .int .i64 n4, .string s5, .int .i64 n6, .int .i64 n7, .string s8, .slice a0 len cap] w fun e w' => SomeBool e ∧ w' = w := by
  unfold maxLen at hm
  go_enter Try.func16, Try.ntmps16
  go_wp2
  · go_ret; exact ⟨⟨_, rfl⟩, rfl⟩
  · go_ret; exact ⟨⟨_, rfl⟩, rfl⟩
  · go_ret; exact ⟨⟨_, rfl⟩, rfl⟩
  · go_ret; exact ⟨⟨_, rfl⟩, rfl⟩
  · go_ret; exact ⟨⟨_, rfl⟩, rfl⟩
  · go_ret; exact ⟨⟨_, rfl⟩, rfl⟩
  · go_ret; exact ⟨⟨_, rfl⟩, rfl⟩
  · go_ret; exact ⟨⟨_, rfl⟩, rfl⟩
  · go_ret; exact ⟨⟨_, rfl⟩, rfl⟩
  go_loop [21, 22] (fun z i => ∃ (q : Int) (k : Nat), k ≤ len ∧ i = .int .i64 k ∧ z = .int .i64 q) (fun _ i => len - (intOf i).toNat)
  case atStart => exact ⟨_, 0, Nat.zero_le _, rfl, rfl⟩
  case round =>
    obtain ⟨q, k, hk, rfl, rfl⟩ := hrel
    by_cases hlt : k < len
    · obtain ⟨b, off, rfl, hcell⟩ := hc k hlt
      obtain ⟨s, hs⟩ : ∃ s, strAt ss k = .string s := ⟨_, rfl⟩
      rw [hs] at hcell
      clear hc hs
      go_wp2
      · go_ret; exact ⟨⟨_, rfl⟩, rfl⟩
      · go_ret; exact ⟨⟨_, rfl⟩, rfl⟩
      · go_round
        case rel => exact ⟨_, k + 1, by omega, by go_num, rfl⟩
        case measure => simp [intOf]; omega
    · clear hc
      go_wp2
      go_ret
      exact ⟨⟨_, rfl⟩, rfl⟩
end Go.Proofs.Qxb6003624a
