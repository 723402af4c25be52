import Derived.Test.Qxb6003624aOrderLaw
namespace Go.Proofs.Qxb6003624a
open Go.RowKit
set_option linter.unusedVariables false
set_option linter.unusedSimpArgs false

set_option maxHeartbeats 2000000 in
theorem orderLaw_long (b off len cap b' off' len' cap' : Nat) (xs ys : List Int) (w : World) (h1 : len ≤ 524288) (h2 : 4 ≤ len) (hcap : len ≤ cap) (h1' : len' ≤ 524288) (h2' : 4 ≤ len') (hcap' : len' ≤ cap')
    (hc : Bytes w b off len xs) (hc' : Bytes w b' off' len' ys) (hb : ∀ i, i < len → 0 ≤ xs.getD i 0 ∧ xs.getD i 0 ≤ 255) (hb' : ∀ i, i < len' → 0 ≤ ys.getD i 0 ∧ ys.getD i 0 ≤ 255) :
    Calls Try.prog 4 #[.slice (some ⟨b, off, none⟩) len cap, .slice (some ⟨b', off', none⟩) len' cap'] w fun e w' => e = .returned (.bool true) ∧ Below w.heap.size w w' := by
  have HC := hide hc
  have HB := hide hb
  have HC' := hide hc'
  have HB' := hide hb'
  clear hc hb hc' hb'
  go_enter Try.func4, Try.ntmps4
  go_wp2_with fail
  refine (bytes11_yes (some ⟨b, off, none⟩) (some ⟨b', off', none⟩) len cap len' cap' w h1 h1').mono ?_
  rintro e w' ⟨rfl, hw⟩
  subst w'
  go_wp2_with fail
  go_loop [5] (fun i => ∃ k : Nat, k ≤ 4 ∧ i = .int .i64 k ∧ AllHex xs k ∧ AllHex ys k) (fun i => 4 - (intOf i).toNat)
  case atStart => exact ⟨0, Nat.zero_le _, rfl, AllHex.zero xs, AllHex.zero ys⟩
  case round =>
    obtain ⟨k, hk, rfl, hx, hy⟩ := hrel
    by_cases hlt : k < 4
    · have hcell : w.cell? ⟨b, off + k, none⟩ = some (.int .u8 (xs.getD k 0)) := unhide HC k (by omega)
      have hcell' : w.cell? ⟨b', off' + k, none⟩ = some (.int .u8 (ys.getD k 0)) := unhide HC' k (by omega)
      have hbb := unhide HB k (by omega)
      have hbb' := unhide HB' k (by omega)
      have hsx := fun h => hide (hx.succ (k := k) h)
      have hsy := fun h => hide (hy.succ (k := k) h)
      clear hx hy
      generalize xs.getD k 0 = c at *
      generalize ys.getD k 0 = c' at *
      go_wp2_with fail
      refine (hexDigit_any c w hbb.1 hbb.2).mono ?_
      rintro e w' ⟨rfl, hw⟩
      subst w'
      by_cases hd : hexd c < 0
      · go_wp2_with fail
        go_ret
        exact ⟨rfl, Below.refl _ _⟩
      · go_wp2_with fail
        refine (hexDigit_any c' w hbb'.1 hbb'.2).mono ?_
        rintro e w' ⟨rfl, hw⟩
        subst w'
        by_cases hd' : hexd c' < 0
        · go_wp2_with fail
          go_ret
          exact ⟨rfl, Below.refl _ _⟩
        · go_wp2_with fail
          go_round
          case rel => exact ⟨k + 1, by omega, by go_num, unhide (hsx (by omega)), unhide (hsy (by omega))⟩
          case measure => simp [intOf]; omega
    · obtain rfl : k = 4 := by omega
      have HX := hide hx
      have HY := hide hy
      clear hx hy
      go_wp2_with fail
      refine (copyBytes_any b off len cap xs w (by omega) (unhide HC)).mono ?_
      rintro e w1 ⟨rfl, hb1, hbl⟩
      have HB1 := hide hb1
      have HBL := hide hbl
      have HC1 := hide (bytes_later (unhide HC') hbl)
      clear hb1 hbl
      go_wp2_with fail
      refine (copyBytes_any b' off' len' cap' ys w1 (by omega) (unhide HC1)).mono ?_
      rintro e w2 ⟨rfl, hb2, hbl2⟩
      have HB2 := hide hb2
      have HB3 := hide (bytes_later (unhide HB1) hbl2)
      have HBL2 := hide ((unhide HBL).trans (hbl2.mono (unhide HBL).size))
      clear hb2 hbl2 HC1 HB1 HBL
      go_wp2_with fail
      go_loop [6, 7] (fun z i => ∃ k : Nat, k ≤ 4 ∧ i = .int .i64 k ∧ z = .int .i64 0 ∧ EqUpTo xs ys k) (fun _ i => 4 - (intOf i).toNat)
      case atStart => exact ⟨0, Nat.zero_le _, rfl, rfl, EqUpTo.zero xs ys⟩
      case round =>
        obtain ⟨k, hk, rfl, rfl, heq⟩ := hrel
        by_cases hlt : k < 4
        · have hcell : w2.cell? ⟨w.heap.size, 0 + k, none⟩ = some (.int .u8 (xs.getD k 0)) := unhide HB3 k (by omega)
          have hcell' : w2.cell? ⟨w1.heap.size, 0 + k, none⟩ = some (.int .u8 (ys.getD k 0)) := unhide HB2 k (by omega)
          rw [Nat.zero_add] at hcell hcell'
          have hbb := unhide HB k (by omega)
          have hbb' := unhide HB' k (by omega)
          have hx := unhide HX k (by omega)
          have hy := unhide HY k (by omega)
          have hsucc := fun h => hide (heq.succ h)
          have hless := fun h => hide (acc_lt heq h 4 (unhide HX) (unhide HY) hlt)
          have hmore := fun h => hide (acc_lt (show EqUpTo ys xs k from heq.symm) h 4 (unhide HY) (unhide HX) hlt)
          clear heq
          generalize xs.getD k 0 = c at *
          generalize ys.getD k 0 = c' at *
          go_wp2_with fail
          refine (foldHex_any c w2 hbb.1 hbb.2).mono ?_
          rintro e w' ⟨rfl, hw⟩
          subst w'
          go_wp2_with fail
          refine (foldHex_any c' w2 hbb'.1 hbb'.2).mono ?_
          rintro e w' ⟨rfl, hw⟩
          subst w'
          have Hlt := fun h => hide (fold_lt hx hy h)
          have Hgt := fun h => hide (fold_lt hy hx h)
          have Heq := fun h h' => hide (fold_eq hx hy h h')
          by_cases hf : foldHex c < foldHex c'
          · have hA := unhide (hless (unhide (Hlt hf)))
            clear hless hmore hsucc Hlt Hgt Heq
            go_wp2_with fail
            refine (zzCodeUnit_any w.heap.size 0 len len xs w2 h2 (Nat.le_refl _) (fun i hi => unhide HB3 i (by omega)) (unhide HX) (fun i hi => unhide HB i (by omega))).mono ?_
            rintro e w' ⟨rfl, hw⟩
            subst w'
            go_wp2_with fail
            refine (zzCodeUnit_any w1.heap.size 0 len' len' ys w2 h2' (Nat.le_refl _) (fun i hi => unhide HB2 i (by omega)) (unhide HY) (fun i hi => unhide HB' i (by omega))).mono ?_
            rintro e w' ⟨rfl, hw⟩
            subst w'
            go_wp2
            go_ret
            exact ⟨rfl, unhide HBL2⟩
          · by_cases hf' : foldHex c' < foldHex c
            · have hA := unhide (hmore (unhide (Hgt hf')))
              clear hless hmore hsucc Hlt Hgt Heq
              go_wp2_with fail
              refine (zzCodeUnit_any w.heap.size 0 len len xs w2 h2 (Nat.le_refl _) (fun i hi => unhide HB3 i (by omega)) (unhide HX) (fun i hi => unhide HB i (by omega))).mono ?_
              rintro e w' ⟨rfl, hw⟩
              subst w'
              go_wp2_with fail
              refine (zzCodeUnit_any w1.heap.size 0 len' len' ys w2 h2' (Nat.le_refl _) (fun i hi => unhide HB2 i (by omega)) (unhide HY) (fun i hi => unhide HB' i (by omega))).mono ?_
              rintro e w' ⟨rfl, hw⟩
              subst w'
              go_wp2
              go_ret
              exact ⟨rfl, unhide HBL2⟩
            · have hn := hide (unhide (hsucc (unhide (Heq hf hf'))))
              clear hless hmore hsucc Hlt Hgt Heq
              go_wp2_with fail
              go_round
              case rel => exact ⟨k + 1, by omega, by go_num, rfl, unhide hn⟩
              case measure => simp [intOf]; omega
        · obtain rfl : k = 4 := by omega
          have hA : acc xs 4 = acc ys 4 := heq
          clear heq
          go_wp2_with fail
          refine (zzCodeUnit_any w.heap.size 0 len len xs w2 h2 (Nat.le_refl _) (fun i hi => unhide HB3 i (by omega)) (unhide HX) (fun i hi => unhide HB i (by omega))).mono ?_
          rintro e w' ⟨rfl, hw⟩
          subst w'
          go_wp2_with fail
          refine (zzCodeUnit_any w1.heap.size 0 len' len' ys w2 h2' (Nat.le_refl _) (fun i hi => unhide HB2 i (by omega)) (unhide HY) (fun i hi => unhide HB' i (by omega))).mono ?_
          rintro e w' ⟨rfl, hw⟩
          subst w'
          go_wp2
          go_ret
          exact ⟨rfl, unhide HBL2⟩
end Go.Proofs.Qxb6003624a
