import Derived.Test.Qxb6003624aTakeBytes
import Derived.Test.Qxb6003624aTakeState
import Derived.Test.Qxb6003624aPtrLaw
namespace Go.Proofs.Qxb6003624a
open Go.RowKit
set_option linter.unusedVariables false
set_option linter.unusedSimpArgs false

set_option maxHeartbeats 1000000 in
set_option maxRecDepth 100000 in
theorem takeLaw_walk (s0 s2 s5 s8 : ByteArray) (n1 n4 n6 n7 : Int) (b3 : Bool) (a0 : Option Addr) (len cap : Nat) (ss : List ByteArray) (w : World) (hm : len ≤ maxLen) (hnil : a0 = none → len = 0 ∧ cap = 0) (hc : Strs w a0 len ss) (h1 : wrap64 n1 = n1) (h6 : wrap64 n6 = n6) :
    Calls Try.prog 6 #[.string s0, .int .i64 n1, .string s2, .bool b3, .int .i64 n4, .string s5, .int .i64 n6, .int .i64 n7, .string s8, .slice a0 len cap] w fun e w' => e = .returned (.bool true) ∧ Below w.heap.size w w' := by
  have hb := bytes_any s0 s2 s5 s8 n1 n4 n6 n7 b3 a0 len cap ss w hm hc
  have HB := hide hb
  have H1 := hide h1
  have H6 := hide h6
  clear hb h1 h6
  unfold maxLen at hm
  go_enter Try.func6, Try.ntmps6
  go_wp2_with fail
  refine (unhide HB).mono ?_
  rintro e w' ⟨⟨b, rfl⟩, hw⟩
  subst w'
  clear HB
  cases b
  · go_wp2
    go_ret
    exact ⟨rfl, Below.refl _ _⟩
  go_wp2
  rotate_left 3
  · go_ret; exact ⟨rfl, Below.refl _ _⟩
  · go_ret; exact ⟨rfl, Below.refl _ _⟩
  · go_ret; exact ⟨rfl, Below.refl _ _⟩
  · go_ret; exact ⟨rfl, Below.refl _ _⟩
  · go_ret; exact ⟨rfl, Below.refl _ _⟩
  go_loop [21, 22] (fun z i => ∃ (q : Int) (k : Nat), k ≤ len ∧ i = .int .i64 k ∧ z = .int .i64 q) (fun _ i => len - (intOf i).toNat)
  case atStart => exact ⟨_, 0, Nat.zero_le _, rfl, rfl⟩
  case round =>
    obtain ⟨q, k, hk, rfl, rfl⟩ := hrel
    by_cases hlt : k < len
    · obtain ⟨b, off, rfl, hcell⟩ := hc k hlt
      obtain ⟨s, hs⟩ : ∃ s, strAt ss k = .string s := ⟨_, rfl⟩
      rw [hs] at hcell
      clear hc hs hnil
      go_wp2
      · go_ret; exact ⟨rfl, Below.refl _ _⟩
      · go_ret; exact ⟨rfl, Below.refl _ _⟩
      · go_round
        case rel => exact ⟨_, k + 1, by omega, by go_num, rfl⟩
        case measure => simp [intOf]; omega
    · have HC := hide hc
      have HN := hide hnil
      clear hc hnil
      by_cases hbig : len ≤ 65536
      · go_wp2_with fail
        refine (copyStr_all a0 len cap ss w hbig (unhide HN) (unhide HC)).mono ?_
        rintro e w1 ⟨a1, rfl, ha1, hst, hb1⟩
        clear HN HC
        have HA := hide ha1
        have HS := hide hst
        have HB := hide hb1
        clear ha1 hst hb1
        clear hlt hk
        cases b3
        · go_wp2_with fail
          go_loopw [25] (fun i wr => ∃ k : Nat, k ≤ len ∧ i = .int .i64 k ∧ WalkAt wr w1.heap.size s0 (wrap64 (n1 + (k : Int))) (headAt s2 ss k) (.pointer none) (wrap64 (n6 + (k : Int))) n7 s8 ∧ Below w1.heap.size w1 wr) (fun i _ => len - (intOf i).toNat)
          case atStart => exact ⟨0, Nat.zero_le _, rfl, WalkAt.start w1 s0 s2 s8 n1 n6 n7 (.pointer none) (unhide H1) (unhide H6), (Below.refl _ _).alloc (Nat.le_refl _) _⟩
          case round =>
            obtain ⟨j, hj, rfl, hat, hbl⟩ := hrel
            have hsr := strs_later (unhide HS) hbl
            have HAT := hide hat
            have HBL := hide hbl
            clear hat hbl
            by_cases hlt : j < len
            · obtain ⟨b1, off1, rfl, hcell⟩ := hsr j hlt
              replace hcell : wr.cell? ⟨b1, off1 + j, none⟩ = some (.string (ss.getD j ByteArray.empty)) := hcell
              clear hsr
              go_wp2_with fail
              refine (take_at w1.heap.size s0 (headAt s2 ss j) s8 (wrap64 (n1 + (j : Int))) (wrap64 (n6 + (j : Int))) n7 (.pointer none) _ wr w1 (unhide HAT) (unhide HBL)).mono ?_
              rintro e w2 ⟨rfl, hat2, hbl2⟩
              rw [wrap64_step, wrap64_step] at hat2
              have HAT2 := hide hat2
              have HBL2 := hide hbl2
              clear hat2 hbl2
              go_wp2
              go_roundw
              case rel => exact ⟨j + 1, by omega, by go_num, unhide HAT2, unhide HBL2⟩
              case measure => simp [intOf]; omega
            · obtain rfl : j = len := by omega
              obtain ⟨c0, c1, c2, c3, c4, c5, c6⟩ := (unhide HAT).cell
              by_cases h0 : j = 0
              · subst h0
                clear hsr
                go_wp2
                go_ret
                exact ⟨rfl, (unhide HB).trans ((unhide HBL).mono (unhide HB).size)⟩
              · obtain ⟨m, rfl⟩ : ∃ m, j = m + 1 := ⟨j - 1, by omega⟩
                obtain ⟨b1, off1, rfl, hcell⟩ := hsr m (by omega)
                replace hcell : wr.cell? ⟨b1, off1 + m, none⟩ = some (.string (ss.getD m ByteArray.empty)) := hcell
                clear hsr
                replace c2 : wr.cell? ⟨w1.heap.size, 2, none⟩ = some (.string (ss.getD m ByteArray.empty)) := c2
                generalize ss.getD m ByteArray.empty = hd at hcell c2
                go_wp2
                go_ret
                exact ⟨rfl, (unhide HB).trans ((unhide HBL).mono (unhide HB).size)⟩
        · go_wp2_with fail
          go_loopw [25] (fun i wr => ∃ k : Nat, k ≤ len ∧ i = .int .i64 k ∧ WalkAt wr (w1.heap.size + 1) s0 (wrap64 (n1 + (k : Int))) (headAt s2 ss k) (.pointer (some ⟨w1.heap.size, 0, none⟩)) (wrap64 (n6 + (k : Int))) n7 s8 ∧ Below (w1.heap.size + 1) (w1.alloc (brkObj n4 s5)) wr) (fun i _ => len - (intOf i).toNat)
          case atStart => exact ⟨0, Nat.zero_le _, rfl, WalkAt.start2 w1 s0 s2 s8 s5 n1 n6 n7 n4 (.pointer (some ⟨w1.heap.size, 0, none⟩)) (unhide H1) (unhide H6)⟩
          case round =>
            obtain ⟨j, hj, rfl, hat, hbl⟩ := hrel
            obtain ⟨hbw, k0, k1⟩ := brk_facts hbl
            have hsr := strs_later (unhide HS) hbw
            have HBW := hide hbw
            clear hbw
            have HAT := hide hat
            have HBL := hide hbl
            clear hat hbl
            by_cases hlt : j < len
            · obtain ⟨b1, off1, rfl, hcell⟩ := hsr j hlt
              replace hcell : wr.cell? ⟨b1, off1 + j, none⟩ = some (.string (ss.getD j ByteArray.empty)) := hcell
              clear hsr k0 k1 HBW
              go_wp2_with fail
              refine (take_at (w1.heap.size + 1) s0 (headAt s2 ss j) s8 (wrap64 (n1 + (j : Int))) (wrap64 (n6 + (j : Int))) n7 (.pointer (some ⟨w1.heap.size, 0, none⟩)) _ wr (w1.alloc (brkObj n4 s5)) (unhide HAT) (unhide HBL)).mono ?_
              rintro e w2 ⟨rfl, hat2, hbl2⟩
              rw [wrap64_step, wrap64_step] at hat2
              have HAT2 := hide hat2
              have HBL2 := hide hbl2
              clear hat2 hbl2
              go_wp2
              go_roundw
              case rel => exact ⟨j + 1, by omega, by go_num, unhide HAT2, unhide HBL2⟩
              case measure => simp [intOf]; omega
            · obtain rfl : j = len := by omega
              obtain ⟨c0, c1, c2, c3, c4, c5, c6⟩ := (unhide HAT).cell
              have hpp := fun w a => eql35 w a
              by_cases h0 : j = 0
              · subst h0
                clear hsr
                go_wp2
                go_ret
                exact ⟨rfl, (unhide HB).trans ((unhide HBW).mono (unhide HB).size)⟩
              · obtain ⟨m, rfl⟩ : ∃ m, j = m + 1 := ⟨j - 1, by omega⟩
                obtain ⟨b1, off1, rfl, hcell⟩ := hsr m (by omega)
                replace hcell : wr.cell? ⟨b1, off1 + m, none⟩ = some (.string (ss.getD m ByteArray.empty)) := hcell
                clear hsr
                replace c2 : wr.cell? ⟨w1.heap.size + 1, 2, none⟩ = some (.string (ss.getD m ByteArray.empty)) := c2
                generalize ss.getD m ByteArray.empty = hd at hcell c2
                go_wp2
                go_ret
                exact ⟨rfl, (unhide HB).trans ((unhide HBW).mono (unhide HB).size)⟩
      · go_wp2_with fail
        go_ret; exact ⟨rfl, Below.refl _ _⟩
end Go.Proofs.Qxb6003624a
