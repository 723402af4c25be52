import Derived.Test.Qxb6601002aHex4
namespace Go.Proofs.Qxb6601002a
open Go.RowKit
set_option linter.unusedVariables false
set_option linter.unusedSimpArgs false

/-- A slice that may be nil or empty: what a walk is told of its elements. -/
def Rowy (w : World) (a0 : Option Addr) (len : Nat) (zs : List Int) : Prop :=
  ∀ i, i < len → ∃ b off, a0 = some ⟨b, off, none⟩ ∧ w.cell? ⟨b, off + i, none⟩ = some (byteAt zs i)

theorem clone_all (a0 : Option Addr) (len cap : Nat) (zs : List Int) (w : World) (hle : len ≤ 1048576) (hnil : a0 = none → len = 0 ∧ cap = 0) (hc : Rowy w a0 len zs) :
    Calls Try.prog 8 #[.slice a0 len cap] w fun e w' => ∃ a1, e = .returned (.slice a1 len len) ∧ (a1 = none → len = 0) ∧ Rowy w' a1 len zs ∧ Below w.heap.size w w' := by
  cases a0 with
  | none =>
    obtain ⟨rfl, rfl⟩ := hnil rfl
    refine (clone_none w).mono ?_
    rintro e w' ⟨rfl, hw⟩
    subst w'
    exact ⟨none, rfl, fun _ => rfl, fun i hi => absurd hi (by omega), Below.refl _ _⟩
  | some a =>
    by_cases h0 : len = 0
    · subst h0
      refine (clone_empty a cap w).mono ?_
      rintro e w' ⟨rfl, hb⟩
      exact ⟨_, rfl, fun _ => rfl, fun i hi => absurd hi (by omega), hb⟩
    · obtain ⟨b, off, ha, _⟩ := hc 0 (by omega)
      obtain rfl : a = ⟨b, off, none⟩ := by simpa using ha
      refine (clone_any b off len cap zs w hle ?_).mono ?_
      · intro i hi
        obtain ⟨b', off', ha', h⟩ := hc i hi
        simp at ha'
        obtain ⟨rfl, rfl⟩ := ha'
        exact h
      · rintro e w' ⟨rfl, hbs, hb⟩
        exact ⟨_, rfl, fun h => absurd h (by simp), fun i hi => ⟨_, _, rfl, hbs i hi⟩, hb⟩

theorem Rowy.cells {w : World} {a : Option Addr} {len : Nat} {zs : List Int} (h : Rowy w a len zs) : ∀ ad, a = some ad → ∀ j u, ((List.range len).map (byteAt zs))[j]? = some u → w.cell? (ad.add j) = some u := by
  intro ad had j u hu
  have hj : j < len := by
    have := (List.getElem?_eq_some_iff.1 hu).1
    simpa using this
  obtain ⟨b, off, ha, hcell⟩ := h j hj
  rw [had] at ha
  simp at ha
  subst ha
  rw [Go.WideShapes.add_plain, hcell]
  simp [hj] at hu
  rw [hu]

theorem Rowy.later {w w' : World} {a : Option Addr} {len : Nat} {zs : List Int} (h : Rowy w a len zs) (hb : Below w.heap.size w w') : Rowy w' a len zs := by
  intro i hi
  obtain ⟨b, off, ha, hcell⟩ := h i hi
  exact ⟨b, off, ha, cell_later hb hcell⟩

theorem bytes_one (zs : List Int) (n : Nat) : ∀ u ∈ (List.range n).map (byteAt zs), u.oneCell' = true := by
  intro u hu
  obtain ⟨i, _, rfl⟩ := List.mem_map.1 hu
  rfl

/-! ### The plain law -/
/-- The i-th of four hex digits of n. -/
def nib (n : Int) : Nat → Int
  | 0 => n / 4096 % 16
  | 1 => n / 256 % 16
  | 2 => n / 16 % 16
  | _ => n % 16

/-- zs spells the first k digits of n. -/
def Spelled (n : Int) (k : Nat) (zs : List Int) : Prop := zs.length = k ∧ ∀ i, i < k → hexd (zs.getD i 0) = nib n i ∧ 0 ≤ zs.getD i 0 ∧ zs.getD i 0 ≤ 255
theorem Spelled.zero (n : Int) : Spelled n 0 [] := ⟨rfl, fun i hi => absurd hi (Nat.not_lt_zero _)⟩
theorem Spelled.snoc {n : Int} {k : Nat} {zs : List Int} {c : Int} (h : Spelled n k zs) (hc : hexd c = nib n k) (h0 : 0 ≤ c) (h1 : c ≤ 255) : Spelled n (k + 1) (zs ++ [c]) := by
  obtain ⟨hl, hs⟩ := h
  refine ⟨by simp [hl], fun i hi => ?_⟩
  by_cases e : i < k
  · have : (zs ++ [c]).getD i 0 = zs.getD i 0 := by simp [List.getD, List.getElem?_append_left (show i < zs.length by omega)]
    rw [this]; exact hs i e
  · obtain rfl : i = k := by omega
    have : (zs ++ [c]).getD i 0 = c := by simp [List.getD, hl]
    rw [this]; exact ⟨hc, h0, h1⟩
theorem Spelled.value {n : Int} {zs : List Int} (h : Spelled n 4 zs) (h0 : 0 ≤ n) (h1 : n ≤ 65535) : acc zs 4 = n := by
  have e0 := (h.2 0 (by omega)).1
  have e1 := (h.2 1 (by omega)).1
  have e2 := (h.2 2 (by omega)).1
  have e3 := (h.2 3 (by omega)).1
  simp only [acc, e0, e1, e2, e3, nib]
  omega
theorem nib_bd (n : Int) (i : Nat) : 0 ≤ nib n i ∧ nib n i < 16 := by
  match i with
  | 0 => simp only [nib]; omega
  | 1 => simp only [nib]; omega
  | 2 => simp only [nib]; omega
  | _ + 3 => simp only [nib]; omega

theorem wraps_i64 (n : Int) (h₀ : 0 ≤ n) (h₁ : n < 2 ^ 63) : IntKind.i64.wrap n = n := by rw [IntKind.wrap_i64]; omega
theorem and15 (x : Int) (h0 : 0 ≤ x) (h1 : x ≤ 65535) : bits .and .i64 x 15 = x % 16 := bits_mask .i64 63 (by decide) wraps_i64 4 (by decide) x h0 (by omega)
theorem nib_nat (n : Int) (k : Nat) : ∃ q : Nat, q < 16 ∧ nib n k = (q : Int) := by
  have := nib_bd n k
  exact ⟨(nib n k).toNat, by omega, by omega⟩

set_option maxHeartbeats 400000 in
theorem bytes14 (n m : Int) (a0 : Option Addr) (len cap : Nat) (w : World) (h : len ≤ 65536) :
    Calls Try.prog 14 #[.int .u16 n, .int .u8 m, .slice a0 len cap] w fun e w' => e = .returned (.bool true) ∧ w' = w := by
  go_enter Try.func14, Try.ntmps14
  go_wp2
  go_ret
  exact ⟨rfl, rfl⟩

set_option maxHeartbeats 400000 in
theorem invLaw_long (n m : Int) (a0 : Option Addr) (len cap : Nat) (w : World) (h : 65536 < len) (hm : len ≤ maxLen) :
    Calls Try.prog 5 #[.int .u16 n, .int .u8 m, .slice a0 len cap] w fun e w' => e = .returned (.bool true) ∧ Below w.heap.size w w' := by
  unfold maxLen at hm
  go_enter Try.func5, Try.ntmps5
  go_wp2
  all_goals
    go_ret
    exact ⟨rfl, Below.refl _ _⟩

theorem one_u8 (c : Int) : ∀ u ∈ [Value.int .u8 c], u.oneCell' = true := by
  intro u hu
  simp at hu
  subst hu
  rfl

/-- One digit more: what the round leaves. -/
theorem inv_step {n c : Int} {k len : Nat} {ys : List Int} {w1 wr w3 : World} {o : Obj} (hown : wr.ownsRow w1.heap.size 5 1 (.slice (some ⟨w1.heap.size, 0, none⟩) k (4 + len)) k (ys.map (Value.int .u8))) (hsp : Spelled n k ys) (hbl : Below w1.heap.size w1 wr)
    (hc : hexd c = nib n k) (hbd : 0 ≤ c ∧ c ≤ 255) (hown3 : w3.ownsRow w1.heap.size 5 1 (.slice (some ⟨w1.heap.size, 0, none⟩) (k + 1) (4 + len)) (k + 1) (ys.map (Value.int .u8) ++ [.int .u8 c])) (hgrow : (wr.alloc o).grownBy w3 (some w1.heap.size)) :
    w3.ownsRow w1.heap.size 5 1 (.slice (some ⟨w1.heap.size, 0, none⟩) (k + 1) (4 + len)) (k + 1) ((ys ++ [c]).map (Value.int .u8)) ∧ Spelled n (k + 1) (ys ++ [c]) ∧ Below w1.heap.size w1 w3 := by
  refine ⟨by simpa using hown3, hsp.snoc hc hbd.1 hbd.2, ?_⟩
  have := hbl.size
  exact (hbl.alloc hbl.size o).grown hgrow (by simp; omega) (fun j hj => by simp at hj; omega)

/-- What the whole spelling, its tail behind it, hands to the reader. -/
theorem inv_end {n : Int} {len B : Nat} {ys : List Int} {vs : List Value} {w3 : World} (hsp : Spelled n 4 ys) (hown : w3.ownsRow B 5 1 (.slice (some ⟨B, 0, none⟩) (4 + len) (4 + len)) (4 + len) (ys.map (Value.int .u8) ++ vs)) :
    Bytes w3 B 0 4 ys ∧ (∀ i, i < 4 → 0 ≤ hexd (ys.getD i 0)) ∧ ∀ i, i < 4 → 0 ≤ ys.getD i 0 ∧ ys.getD i 0 ≤ 255 := by
  refine ⟨fun i hi => ?_, fun i hi => ?_, fun i hi => (hsp.2 i hi).2⟩
  · have hl : i < ys.length := by rw [hsp.1]; exact hi
    rw [Nat.zero_add, hown.cellAt i (by omega), List.getElem?_append_left (by simpa using hl)]
    simp [byteAt, hl]
  · rw [(hsp.2 i hi).1]
    exact (nib_bd n i).1

set_option maxHeartbeats 2000000 in
theorem invLaw_walk (n m : Int) (a0 : Option Addr) (len cap : Nat) (zs : List Int) (w : World) (hle : len ≤ 65536) (hnil : a0 = none → len = 0 ∧ cap = 0) (hc : Rowy w a0 len zs) (hn0 : 0 ≤ n) (hn1 : n ≤ 65535) (hm0 : 0 ≤ m) (hm1 : m ≤ 255) :
    Calls Try.prog 5 #[.int .u16 n, .int .u8 m, .slice a0 len cap] w fun e w' => e = .returned (.bool true) ∧ Below w.heap.size w w' := by
  obtain ⟨i0, hi, hz0, hz1, hz2⟩ := info_parts Try.info5
  have HC := hide hc
  have HN := hide hnil
  clear hc hnil
  go_enter Try.func5, Try.ntmps5
  go_wp2_with fail
  refine (bytes14 n m a0 len cap w hle).mono ?_
  rintro e w' ⟨rfl, hw⟩
  subst w'
  go_wp2_with fail
  refine (clone_all a0 len cap zs w (by omega) (unhide HN) (unhide HC)).mono ?_
  rintro e w1 ⟨a1, rfl, ha1, hr1, hb1⟩
  have HA := hide ha1
  have HR := hide hr1
  have HB := hide hb1
  clear ha1 hr1 hb1 HC HN
  go_wp2_with (at_make; refine wpList_make_own _ rfl _ _ 22 rfl w1.heap.size 5 i0 (.int .u8 0) 1 Try.underlying22 hi hz0 hz1 .i64 .i64 _ (4 + len) rfl rfl (by omega) (by rw [hz2]; omega) (by unfold maxLen; omega) (Nat.le_refl _) ?_; intro w2 hown hgrow)
  have HO := hide hown
  have HG := hide hgrow
  clear hown hgrow
  go_loopw [7, 8] (fun bv i wr => ∃ (k : Nat) (ys : List Int), k ≤ 4 ∧ i = .int .i64 k ∧ bv = .slice (some ⟨w1.heap.size, 0, none⟩) k (4 + len) ∧
      wr.ownsRow w1.heap.size 5 1 (.slice (some ⟨w1.heap.size, 0, none⟩) k (4 + len)) k (ys.map (Value.int .u8)) ∧ Spelled n k ys ∧ Below w1.heap.size w1 wr) (fun _ i _ => 4 - (intOf i).toNat)
  case atStart => exact ⟨0, [], Nat.zero_le _, rfl, rfl, unhide HO, Spelled.zero n, (Below.refl _ _).grown (unhide HG) (Nat.le_refl _) (by simp)⟩
  case round =>
    obtain ⟨k, ys, hk, rfl, rfl, hown, hsp, hbl⟩ := hrel
    have HO2 := hide hown
    have HS := hide hsp
    have HBL := hide hbl
    clear hown hsp hbl
    by_cases hlt : k < 4
    · have hk4 : k = 0 ∨ k = 1 ∨ k = 2 ∨ k = 3 := by omega
      rcases hk4 with rfl | rfl | rfl | rfl
      · obtain ⟨q, hq, hqe⟩ := nib_nat n 0
        have hbits : bits .and .i64 (n / 4096) 15 = (q : Int) := by rw [and15 _ (by omega) (by omega), ← hqe]; rfl
        have HQ := hide hqe
        clear hqe
        have hix := fun w => index_low q hq w
        have hiu := fun w => index_up q hq w
        go_wp2_with (first | (at_builtin; refine wpList_append_fits _ rfl (.tmp 44) (.tmp 47) 22 rfl w1.heap.size 5 i0 1 Try.underlying22 hi hz1 w1.heap.size 0 (4 + len) _ rfl ((unhide HO2).alloc _) ⟨wr.heap.size, 0, none⟩ 1 1 [.int .u8 (digU q)] rfl rfl (cell_one_new _ _ _) (one_u8 _) (by omega) ?_; intro w3 hown3 hgrow3) | (at_builtin; refine wpList_append_fits _ rfl (.tmp 49) (.tmp 52) 22 rfl w1.heap.size 5 i0 1 Try.underlying22 hi hz1 w1.heap.size 0 (4 + len) _ rfl ((unhide HO2).alloc _) ⟨wr.heap.size, 0, none⟩ 1 1 [.int .u8 (dig q)] rfl rfl (cell_one_new _ _ _) (one_u8 _) (by omega) ?_; intro w3 hown3 hgrow3))
        · have R := inv_step (unhide HO2) (unhide HS) (unhide HBL) ((hexd_digU q hq).trans (unhide HQ).symm) (digU_bd q hq) hown3 hgrow3
          clear hown3 hgrow3
          have HRR := hide R
          clear R
          go_roundw
          case rel => exact ⟨1, _, by omega, by go_num, rfl, (unhide HRR).1, (unhide HRR).2.1, (unhide HRR).2.2⟩
          case measure => simp [intOf]
        · have R := inv_step (unhide HO2) (unhide HS) (unhide HBL) ((hexd_dig q hq).trans (unhide HQ).symm) (dig_bd q hq) hown3 hgrow3
          clear hown3 hgrow3
          have HRR := hide R
          clear R
          go_roundw
          case rel => exact ⟨1, _, by omega, by go_num, rfl, (unhide HRR).1, (unhide HRR).2.1, (unhide HRR).2.2⟩
          case measure => simp [intOf]
      · obtain ⟨q, hq, hqe⟩ := nib_nat n 1
        have hbits : bits .and .i64 (n / 256) 15 = (q : Int) := by rw [and15 _ (by omega) (by omega), ← hqe]; rfl
        have HQ := hide hqe
        clear hqe
        have hix := fun w => index_low q hq w
        have hiu := fun w => index_up q hq w
        go_wp2_with (first | (at_builtin; refine wpList_append_fits _ rfl (.tmp 44) (.tmp 47) 22 rfl w1.heap.size 5 i0 1 Try.underlying22 hi hz1 w1.heap.size 1 (4 + len) _ rfl ((unhide HO2).alloc _) ⟨wr.heap.size, 0, none⟩ 1 1 [.int .u8 (digU q)] rfl rfl (cell_one_new _ _ _) (one_u8 _) (by omega) ?_; intro w3 hown3 hgrow3) | (at_builtin; refine wpList_append_fits _ rfl (.tmp 49) (.tmp 52) 22 rfl w1.heap.size 5 i0 1 Try.underlying22 hi hz1 w1.heap.size 1 (4 + len) _ rfl ((unhide HO2).alloc _) ⟨wr.heap.size, 0, none⟩ 1 1 [.int .u8 (dig q)] rfl rfl (cell_one_new _ _ _) (one_u8 _) (by omega) ?_; intro w3 hown3 hgrow3))
        · have R := inv_step (unhide HO2) (unhide HS) (unhide HBL) ((hexd_digU q hq).trans (unhide HQ).symm) (digU_bd q hq) hown3 hgrow3
          clear hown3 hgrow3
          have HRR := hide R
          clear R
          go_roundw
          case rel => exact ⟨2, _, by omega, by go_num, rfl, (unhide HRR).1, (unhide HRR).2.1, (unhide HRR).2.2⟩
          case measure => simp [intOf]
        · have R := inv_step (unhide HO2) (unhide HS) (unhide HBL) ((hexd_dig q hq).trans (unhide HQ).symm) (dig_bd q hq) hown3 hgrow3
          clear hown3 hgrow3
          have HRR := hide R
          clear R
          go_roundw
          case rel => exact ⟨2, _, by omega, by go_num, rfl, (unhide HRR).1, (unhide HRR).2.1, (unhide HRR).2.2⟩
          case measure => simp [intOf]
      · obtain ⟨q, hq, hqe⟩ := nib_nat n 2
        have hbits : bits .and .i64 (n / 16) 15 = (q : Int) := by rw [and15 _ (by omega) (by omega), ← hqe]; rfl
        have HQ := hide hqe
        clear hqe
        have hix := fun w => index_low q hq w
        have hiu := fun w => index_up q hq w
        go_wp2_with (first | (at_builtin; refine wpList_append_fits _ rfl (.tmp 44) (.tmp 47) 22 rfl w1.heap.size 5 i0 1 Try.underlying22 hi hz1 w1.heap.size 2 (4 + len) _ rfl ((unhide HO2).alloc _) ⟨wr.heap.size, 0, none⟩ 1 1 [.int .u8 (digU q)] rfl rfl (cell_one_new _ _ _) (one_u8 _) (by omega) ?_; intro w3 hown3 hgrow3) | (at_builtin; refine wpList_append_fits _ rfl (.tmp 49) (.tmp 52) 22 rfl w1.heap.size 5 i0 1 Try.underlying22 hi hz1 w1.heap.size 2 (4 + len) _ rfl ((unhide HO2).alloc _) ⟨wr.heap.size, 0, none⟩ 1 1 [.int .u8 (dig q)] rfl rfl (cell_one_new _ _ _) (one_u8 _) (by omega) ?_; intro w3 hown3 hgrow3))
        · have R := inv_step (unhide HO2) (unhide HS) (unhide HBL) ((hexd_digU q hq).trans (unhide HQ).symm) (digU_bd q hq) hown3 hgrow3
          clear hown3 hgrow3
          have HRR := hide R
          clear R
          go_roundw
          case rel => exact ⟨3, _, by omega, by go_num, rfl, (unhide HRR).1, (unhide HRR).2.1, (unhide HRR).2.2⟩
          case measure => simp [intOf]
        · have R := inv_step (unhide HO2) (unhide HS) (unhide HBL) ((hexd_dig q hq).trans (unhide HQ).symm) (dig_bd q hq) hown3 hgrow3
          clear hown3 hgrow3
          have HRR := hide R
          clear R
          go_roundw
          case rel => exact ⟨3, _, by omega, by go_num, rfl, (unhide HRR).1, (unhide HRR).2.1, (unhide HRR).2.2⟩
          case measure => simp [intOf]
      · obtain ⟨q, hq, hqe⟩ := nib_nat n 3
        have hbits : bits .and .i64 (n) 15 = (q : Int) := by rw [and15 _ (by omega) (by omega), ← hqe]; rfl
        have HQ := hide hqe
        clear hqe
        have hix := fun w => index_low q hq w
        have hiu := fun w => index_up q hq w
        go_wp2_with (first | (at_builtin; refine wpList_append_fits _ rfl (.tmp 44) (.tmp 47) 22 rfl w1.heap.size 5 i0 1 Try.underlying22 hi hz1 w1.heap.size 3 (4 + len) _ rfl ((unhide HO2).alloc _) ⟨wr.heap.size, 0, none⟩ 1 1 [.int .u8 (digU q)] rfl rfl (cell_one_new _ _ _) (one_u8 _) (by omega) ?_; intro w3 hown3 hgrow3) | (at_builtin; refine wpList_append_fits _ rfl (.tmp 49) (.tmp 52) 22 rfl w1.heap.size 5 i0 1 Try.underlying22 hi hz1 w1.heap.size 3 (4 + len) _ rfl ((unhide HO2).alloc _) ⟨wr.heap.size, 0, none⟩ 1 1 [.int .u8 (dig q)] rfl rfl (cell_one_new _ _ _) (one_u8 _) (by omega) ?_; intro w3 hown3 hgrow3))
        · have R := inv_step (unhide HO2) (unhide HS) (unhide HBL) ((hexd_digU q hq).trans (unhide HQ).symm) (digU_bd q hq) hown3 hgrow3
          clear hown3 hgrow3
          have HRR := hide R
          clear R
          go_roundw
          case rel => exact ⟨4, _, by omega, by go_num, rfl, (unhide HRR).1, (unhide HRR).2.1, (unhide HRR).2.2⟩
          case measure => simp [intOf]
        · have R := inv_step (unhide HO2) (unhide HS) (unhide HBL) ((hexd_dig q hq).trans (unhide HQ).symm) (dig_bd q hq) hown3 hgrow3
          clear hown3 hgrow3
          have HRR := hide R
          clear R
          go_roundw
          case rel => exact ⟨4, _, by omega, by go_num, rfl, (unhide HRR).1, (unhide HRR).2.1, (unhide HRR).2.2⟩
          case measure => simp [intOf]
    · obtain rfl : k = 4 := by omega
      have HR2 := hide ((unhide HR).later (unhide HBL))
      go_wp2_with (at_builtin; refine wpList_append_fits_any _ rfl (.tmp 54) (.tmp 55) 22 rfl w1.heap.size 5 i0 1 Try.underlying22 hi hz1 w1.heap.size 4 (4 + len) _ rfl (unhide HO2) a1 len len ((List.range len).map (byteAt zs)) rfl (by simp) (fun h => ⟨unhide HA h, unhide HA h⟩) (unhide HR2).cells (bytes_one zs len) (Nat.le_refl _) ?_; intro w3 hown3 hgrow3)
      have HE := hide (inv_end (unhide HS) hown3)
      have HB3 := hide (((unhide HB).trans ((unhide HBL).mono (unhide HB).size)).trans ((Below.refl _ _).grown hgrow3 (Nat.le_trans (unhide HB).size (unhide HBL).size) (fun j hj => by have := (unhide HB).size; simp at hj; omega)))
      clear hown3 hgrow3
      refine (zzHex4_any w1.heap.size 0 (4 + len) (4 + len) ys w3 (by omega) (Nat.le_refl _) (unhide HE).1 (unhide HE).2.1 (unhide HE).2.2).mono ?_
      rintro e w' ⟨rfl, hw⟩
      subst w'
      have hv := (unhide HS).value hn0 hn1
      rw [hv]
      clear hv
      go_wp2
      go_ret
      exact ⟨rfl, unhide HB3⟩
end Go.Proofs.Qxb6601002a
