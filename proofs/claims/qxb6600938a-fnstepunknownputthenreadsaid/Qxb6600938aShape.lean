import Derived.Test.Qxb6600938aRows
import Derived.ProofKit
import Derived.OpenShut
import Derived.ShutString
import Derived.ChangeOld
namespace Go.Proofs.Qxb6600938a
open Go.ChangeShapes Go.WideShapes Go.ChangeAt Go.RowKit
set_option linter.unusedVariables false
set_option linter.unusedSimpArgs false

theorem own : ownKnob Try.prog.godebug = none := by kernel_rfl
theorem laidOut : laidOutB Try.prog = true := by kernel_rfl
theorem Try.cells24 : Try.prog.cellsOf 24 = 5 := by kernel_rfl
theorem Try.cells26 : Try.prog.cellsOf 26 = 4 := by kernel_rfl
theorem Try.cells3 : Try.prog.cellsOf 3 = 1 := by kernel_rfl
theorem Try.cells4 : Try.prog.cellsOf 4 = 1 := by kernel_rfl
theorem Try.cells9 : Try.prog.cellsOf 9 = 1 := by kernel_rfl
theorem Try.cells22 : Try.prog.cellsOf 22 = 1 := by kernel_rfl

/-- A struct's cells, written out, by their number. -/
theorem four_of (cs : Array Value) (h : cs.size = 4) : ∃ a b c d, cs = #[a, b, c, d] :=
  ⟨cs[0], cs[1], cs[2], cs[3], by apply Array.ext' ; match cs, h with | ⟨[_, _, _, _]⟩, _ => rfl⟩
theorem five_of (cs : Array Value) (h : cs.size = 5) : ∃ a b c d e, cs = #[a, b, c, d, e] :=
  ⟨cs[0], cs[1], cs[2], cs[3], cs[4], by apply Array.ext' ; match cs, h with | ⟨[_, _, _, _, _]⟩, _ => rfl⟩

section
variable {H : Type} {enc : TypeId × Value → H} {w : World} {base : Nat} {spare : Nat → Bool} {held : Bool}

/-- A Reg that came in, written out. -/
theorem open_reg {r : Reach} {b0 : Nat} {v : Value} {d : DataW H} {p : List MemPlace} (hv : Value.okWide Try.prog w r b0 24 v) (h : DataW.Trod enc Try.prog w base spare held 24 v d p) :
    ∃ k s n q c, v = .agg #[.bool k, .string s, .int .u64 n, .bool q, .int .i64 c] := by
  obtain ⟨cs, rfl, hsz⟩ := okWide_struct Try.underlying24 hv
  obtain ⟨c0, c1, c2, c3, c4, rfl⟩ := five_of cs (hsz.trans Try.cells24)
  obtain ⟨fuel, hf⟩ := h
  obtain ⟨xs, n, _, _, _, hlen, hf⟩ := DataW.trod_struct Try.underlying24 hf
  match xs, hlen with
  | [y0, y1, y2, y3, y4], _ =>
    obtain ⟨k, e0, _⟩ := DataW.trod_bool Try.underlying4 (by simpa [Value.cells, Try.cells4] using hf 0 _ rfl)
    obtain ⟨s, e1, _⟩ := DataW.trod_string Try.underlying9 (by simpa [Value.cells, Try.cells9] using hf 1 _ rfl)
    obtain ⟨m, e2, _⟩ := DataW.trod_int Try.underlying22 (by simpa [Value.cells, Try.cells22] using hf 2 _ rfl)
    obtain ⟨q, e3, _⟩ := DataW.trod_bool Try.underlying4 (by simpa [Value.cells, Try.cells4] using hf 3 _ rfl)
    obtain ⟨c, e4, _⟩ := DataW.trod_int Try.underlying3 (by simpa [Value.cells, Try.cells3] using hf 4 _ rfl)
    simp at e0 e1 e2 e3 e4
    subst e0 e1 e2 e3 e4
    exact ⟨k, s, m, q, c, rfl⟩

/-- An In that came in, written out. -/
theorem open_in {r : Reach} {b0 : Nat} {v : Value} {d : DataW H} {p : List MemPlace} (hv : Value.okWide Try.prog w r b0 26 v) (h : DataW.Trod enc Try.prog w base spare held 26 v d p) :
    ∃ k s s' n, v = .agg #[.int .i64 k, .string s, .string s', .int .u64 n] := by
  obtain ⟨cs, rfl, hsz⟩ := okWide_struct Try.underlying26 hv
  obtain ⟨c0, c1, c2, c3, rfl⟩ := four_of cs (hsz.trans Try.cells26)
  obtain ⟨fuel, hf⟩ := h
  obtain ⟨xs, n, _, _, _, hlen, hf⟩ := DataW.trod_struct Try.underlying26 hf
  match xs, hlen with
  | [y0, y1, y2, y3], _ =>
    obtain ⟨k, e0, _⟩ := DataW.trod_int Try.underlying3 (by simpa [Value.cells, Try.cells3] using hf 0 _ rfl)
    obtain ⟨s, e1, _⟩ := DataW.trod_string Try.underlying9 (by simpa [Value.cells, Try.cells9] using hf 1 _ rfl)
    obtain ⟨s', e2, _⟩ := DataW.trod_string Try.underlying9 (by simpa [Value.cells, Try.cells9] using hf 2 _ rfl)
    obtain ⟨m, e3, _⟩ := DataW.trod_int Try.underlying22 (by simpa [Value.cells, Try.cells22] using hf 3 _ rfl)
    simp at e0 e1 e2 e3
    subst e0 e1 e2 e3
    exact ⟨k, s, s', m, rfl⟩
end
end Go.Proofs.Qxb6600938a
