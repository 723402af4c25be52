import Derived.Test.Qxb6003624aRows
import Derived.LaidEql
namespace Go.Proofs.Qxb6003624a
set_option linter.unusedVariables false
set_option linter.unusedSimpArgs false

theorem run_equalIn_ptr_same (w : World) (d : Nat) {tp te : TypeId} {j : TypeInfo} (a : Addr) (hp : Try.prog.underlying tp = some (.pointer te)) (hj : Try.prog.info? te = some j) :
    (Op.equalIn (d + 1) tp (.pointer (some a)) (.pointer (some a))).run Try.prog w = .ok true w := by
  simp [Op.equalIn, run_underlying hp, sizeOf, typeInfo, hj, run_sameAddr_same]

/-- 'p == p' of a pointer that is not nil. -/
theorem run_eql_ptr_same (w : World) {tp te : TypeId} {j : TypeInfo} (a : Addr) (hp : Try.prog.underlying tp = some (.pointer te)) (hj : Try.prog.info? te = some j) :
    (binOp .eql tp (.pointer (some a)) (.pointer (some a))).run Try.prog w = .ok (.bool true) w := by
  simp only [binOp]
  simp [Op.equal, Op.maxDepth, run_equalIn_ptr_same w 9999 a hp hj]

theorem Try.info37 : (Try.prog.info? 37).map (fun i => i.size) = some 2 := by kernel_rfl

theorem eql35 (w : World) (a : Addr) : (binOp .eql 35 (.pointer (some a)) (.pointer (some a))).run Try.prog w = .ok (.bool true) w := by
  obtain ⟨i, hi, hz⟩ := Option.map_eq_some_iff.1 Try.info37
  exact run_eql_ptr_same w a Try.underlying35 hi
end Go.Proofs.Qxb6003624a
