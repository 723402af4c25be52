import Derived.Test.Qxb6003624aCopyStr
namespace Go.Proofs.Qxb6003624a
open Go.RowKit
set_option linter.unusedVariables false
set_option linter.unusedSimpArgs false

set_option maxHeartbeats 400000 in
theorem take_any (B : Nat) (t h hash : ByteArray) (ev sq : Int) (w : World)
    (c1 : w.cell? ⟨B, 1, none⟩ = some (.int .i64 ev)) (c2 : w.cell? ⟨B, 2, none⟩ = some (.string h)) (c4 : w.cell? ⟨B, 4, none⟩ = some (.int .i64 sq)) (hf : ∀ o, w.frozen? ⟨B, o, none⟩ = false) :
    Calls Try.prog 18 #[.pointer (some ⟨B, 0, none⟩), .string hash] w fun e w' => e = .returned (.tuple #[]) ∧ w' = ((w.setCell ⟨B, 4, none⟩ (.int .i64 (wrap64 (sq + 1)))).setCell ⟨B, 1, none⟩ (.int .i64 (wrap64 (ev + 1)))).setCell ⟨B, 2, none⟩ (.string hash) := by
  have f1 := hf 1
  have f2 := hf 2
  have f4 := hf 4
  clear hf
  go_enter Try.func18, Try.ntmps18
  go_wp2
  go_end0
  exact ⟨rfl, rfl⟩
end Go.Proofs.Qxb6003624a
