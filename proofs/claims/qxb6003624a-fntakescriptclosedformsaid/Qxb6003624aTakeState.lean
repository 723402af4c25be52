import Derived.Test.Qxb6003624aTake
namespace Go.Proofs.Qxb6003624a
open Go.RowKit
set_option linter.unusedVariables false
set_option linter.unusedSimpArgs false

/-- The walk that the law makes, as it lies in block B. -/
def WalkAt (w : World) (B : Nat) (t : ByteArray) (ev : Int) (h : ByteArray) (bk : Value) (sq asq : Int) (ah : ByteArray) : Prop :=
  w.heap[B]? = some (.cells #[.string t, .int .i64 ev, .string h, bk, .int .i64 sq, .int .i64 asq, .string ah] 42 (0, 0))

/-- The head behind k hashes. -/
def headAt (h : ByteArray) (ss : List ByteArray) : Nat → ByteArray
  | 0 => h
  | k + 1 => ss.getD k ByteArray.empty

theorem wrap64_step (n : Int) (k : Nat) : wrap64 (wrap64 (n + (k : Int)) + 1) = wrap64 (n + ((k + 1 : Nat) : Int)) := by unfold wrap64; omega

theorem WalkAt.cell {w : World} {B : Nat} {t h ah : ByteArray} {ev sq asq : Int} {bk : Value} (H : WalkAt w B t ev h bk sq asq ah) :
    w.cell? ⟨B, 0, none⟩ = some (.string t) ∧ w.cell? ⟨B, 1, none⟩ = some (.int .i64 ev) ∧ w.cell? ⟨B, 2, none⟩ = some (.string h) ∧ w.cell? ⟨B, 3, none⟩ = some bk ∧
    w.cell? ⟨B, 4, none⟩ = some (.int .i64 sq) ∧ w.cell? ⟨B, 5, none⟩ = some (.int .i64 asq) ∧ w.cell? ⟨B, 6, none⟩ = some (.string ah) := by
  refine ⟨?_, ?_, ?_, ?_, ?_, ?_, ?_⟩ <;> (rw [cell_of_row w B _ _ _ _ H]; rfl)

theorem WalkAt.taken {w w0 : World} {B : Nat} {t h ah : ByteArray} {ev sq asq : Int} {bk : Value} (H : WalkAt w B t ev h bk sq asq ah) (hb : Below B w0 w) (ev' sq' : Int) (h' : ByteArray) :
    WalkAt (((w.setCell ⟨B, 4, none⟩ (.int .i64 sq')).setCell ⟨B, 1, none⟩ (.int .i64 ev')).setCell ⟨B, 2, none⟩ (.string h')) B t ev' h' bk sq' asq ah ∧
    Below B w0 (((w.setCell ⟨B, 4, none⟩ (.int .i64 sq')).setCell ⟨B, 1, none⟩ (.int .i64 ev')).setCell ⟨B, 2, none⟩ (.string h')) := by
  constructor
  · have h1 := heap_setCell_same w B 4 _ _ (.int .i64 sq') H
    have h2 := heap_setCell_same _ B 1 _ _ (.int .i64 ev') h1
    have h3 := heap_setCell_same _ B 2 _ _ (.string h') h2
    exact h3
  · exact ((hb.setCell (p := ⟨B, 4, none⟩) (Nat.le_refl _) _).setCell (p := ⟨B, 1, none⟩) (Nat.le_refl _) _).setCell (p := ⟨B, 2, none⟩) (Nat.le_refl _) _

/-- One call of Take on the walk in block B. -/
theorem take_at (B : Nat) (t h ah : ByteArray) (ev sq asq : Int) (bk : Value) (hash : ByteArray) (w w0 : World) (H : WalkAt w B t ev h bk sq asq ah) (hb : Below B w0 w) :
    Calls Try.prog 18 #[.pointer (some ⟨B, 0, none⟩), .string hash] w fun e w' => e = .returned (.tuple #[]) ∧ WalkAt w' B t (wrap64 (ev + 1)) hash bk (wrap64 (sq + 1)) asq ah ∧ Below B w0 w' := by
  obtain ⟨_, c1, c2, _, c4, _, _⟩ := H.cell
  refine (take_any B t h hash ev sq w c1 c2 c4 (fun o => frozen_of_row w B o _ _ H)).mono ?_
  rintro e w' ⟨rfl, hw⟩
  subst hw
  exact ⟨rfl, H.taken hb _ _ _⟩

theorem strs_later {W wr : World} {a : Option Addr} {len : Nat} {ss : List ByteArray} (hs : Strs W a len ss) (hb : Below W.heap.size W wr) : Strs wr a len ss := by
  intro i hi
  obtain ⟨b, off, ha, h⟩ := hs i hi
  exact ⟨b, off, ha, (hb.cell (World.block_lt_of_cell? _ _ h)).trans h⟩

theorem WalkAt.start (w : World) (t h ah : ByteArray) (ev sq asq : Int) (bk : Value) (he : wrap64 ev = ev) (hq : wrap64 sq = sq) :
    WalkAt (w.alloc (.cells #[.string t, .int .i64 ev, .string h, bk, .int .i64 sq, .int .i64 asq, .string ah] 42)) w.heap.size t (wrap64 (ev + ((0 : Nat) : Int))) h bk (wrap64 (sq + ((0 : Nat) : Int))) asq ah := by
  rw [show ev + ((0 : Nat) : Int) = ev by omega, show sq + ((0 : Nat) : Int) = sq by omega, he, hq]
  exact heap_alloc_new w _

/-- The break that the law makes. -/
def brkObj (n4 : Int) (s5 : ByteArray) : Obj := .cells #[.int .i64 n4, .string s5] 37

theorem brk_facts {w1 wr : World} {n4 : Int} {s5 : ByteArray} (hb : Below (w1.heap.size + 1) (w1.alloc (brkObj n4 s5)) wr) :
    Below w1.heap.size w1 wr ∧ wr.cell? ⟨w1.heap.size, 0, none⟩ = some (.int .i64 n4) ∧ wr.cell? ⟨w1.heap.size, 1, none⟩ = some (.string s5) := by
  have hn : (w1.alloc (brkObj n4 s5)).heap[w1.heap.size]? = some (.cells #[.int .i64 n4, .string s5] 37 (0, 0)) := heap_alloc_new w1 _
  refine ⟨((Below.refl _ _).alloc (Nat.le_refl _) _).trans (hb.mono (by omega)), ?_, ?_⟩
  · rw [hb.cell (p := ⟨w1.heap.size, 0, none⟩) (Nat.lt_succ_self _), cell_of_row _ _ _ _ _ _ hn]; rfl
  · rw [hb.cell (p := ⟨w1.heap.size, 1, none⟩) (Nat.lt_succ_self _), cell_of_row _ _ _ _ _ _ hn]; rfl

theorem WalkAt.start2 (w : World) (t h ah s5 : ByteArray) (ev sq asq n4 : Int) (bk : Value) (he : wrap64 ev = ev) (hq : wrap64 sq = sq) :
    WalkAt ((w.alloc (brkObj n4 s5)).alloc (.cells #[.string t, .int .i64 ev, .string h, bk, .int .i64 sq, .int .i64 asq, .string ah] 42)) (w.heap.size + 1) t (wrap64 (ev + ((0 : Nat) : Int))) h bk (wrap64 (sq + ((0 : Nat) : Int))) asq ah ∧
    Below (w.heap.size + 1) (w.alloc (brkObj n4 s5)) ((w.alloc (brkObj n4 s5)).alloc (.cells #[.string t, .int .i64 ev, .string h, bk, .int .i64 sq, .int .i64 asq, .string ah] 42)) := by
  have hs : (w.alloc (brkObj n4 s5)).heap.size = w.heap.size + 1 := by simp
  refine ⟨?_, (Below.refl _ _).alloc (by omega) _⟩
  have := WalkAt.start (w.alloc (brkObj n4 s5)) t h ah ev sq asq bk he hq
  rwa [hs] at this

end Go.Proofs.Qxb6003624a
