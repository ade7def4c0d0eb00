/-
  The walk of LawS0248AAligned.
-/
import Derived.Test.YbulkecoColumns
import Derived.Deep.QuietTactic
import Derived.BigQuiet
namespace Go.Proofs.Ybulkeco
open Go.RowKit

set_option maxHeartbeats 1600000 in
set_option maxRecDepth 100000 in
theorem aligned_walk (a0 : Option Addr) (bm om R cap : Nat) (A : Nat → Option Addr) (L C Ab Ao : Nat → Nat) (Z : Nat → Nat → Int) (w : World) (hI : Inp w a0 bm om R A L C Ab Ao Z) (hR : R ≤ 1024) :
    Calls Yba.prog 4 #[.slice a0 R cap] w fun e w' => e = .returned (.bool true) ∧ Below w.heap.size w w' := by
  go_enter Yba.func4, Yba.ntmps4
  go_wp2_with fail
  refine (guard_any a0 bm om R cap A L C w hR hI.addr hI.max hI.row).mono ?_
  rintro e w1 ⟨b, rfl, rfl, hb⟩
  cases b with
  | false =>
    clear hb
    go_wp2_with fail
    go_ret
    exact ⟨rfl, Below.refl _ _⟩
  | true =>
    have hL := hb rfl
    clear hb
    go_wp2_with fail
    refine (build_any a0 bm om R cap A L C Ab Ao Z _ hR hL hI.addr hI.row hI.cell hI.byte).mono ?_
    rintro e w1 ⟨bf, bs, n, cp, pA, pb, pC, rfl, hb1, hready⟩
    go_wp2_with fail
    refine (padWidths_any hready hR hL).mono ?_
    rintro e w2 ⟨rfl, hM⟩
    have hb2 := hb1.trans (hM.below.mono hb1.size)
    have hI2 := hI.later hb2
    clear hready hb1 hI
    generalize hN : w1.heap.size = N at *
    go_wp2_with fail
    go_loopw [28] (fun i wr => ∃ (k nq : Nat), k ≤ R ∧ i = .int .i64 k ∧ wr = w2.drewN nq) (fun i _ => R - (intOf i).toNat)
    case atStart => exact ⟨0, 0, Nat.zero_le _, rfl, rfl⟩
    case round =>
      obtain ⟨i, nq, hi, rfl, rfl⟩ := hrel
      by_cases hlt : i < R
      · obtain rfl := hI2.addr (by omega)
        have hrow := hI2.row i hlt
        have htop := hM.topCell hlt
        rw [hN] at htop
        have hLi := hL i hlt
        have hAi : 0 < L i → A i = some ⟨Ab i, Ao i, none⟩ := fun h => (hI2.cell i hlt 0 h).1
        generalize A i = ai at hrow hAi
        go_wp2_with fail
        go_loopw [43] (fun x wr => ∃ (j nq : Nat), j ≤ L i ∧ x = .int .i64 j ∧ wr = w2.drewN nq) (fun x _ => L i - (intOf x).toNat)
        case atStart => exact ⟨0, _, Nat.zero_le _, rfl, rfl⟩
        case round =>
          obtain ⟨j, nq, hj, rfl, rfl⟩ := hrel
          by_cases hjlt : j < L i
          · obtain rfl := hAi (by omega)
            have hcz := hI2.at hlt hjlt
            have hval := hM.valCell hlt hjlt
            rw [hN] at hval
            have hzb := hI2.byte i j hlt hjlt
            have hzw := wd_cast (Z i j)
            have hwd := Pl.wd_le (Z i j)
            have hge := Pl.wide_ge L Z R i j
            have hle := Pl.wide_le L Z R i j
            have hv : Pl.val L Z R i j = ((Pl.wide L Z R i j : Nat) : Int) + 1 - ((Pl.wd (Z i j) : Nat) : Int) := rfl
            rw [hv] at hval
            clear hv
            by_cases hgo : i + 1 < R ∧ j < L (i + 1)
            · obtain ⟨hin, hjn⟩ := hgo
              have hinz : (i : Int) + 1 < (R : Int) := by omega
              have hrow2 := hI2.row' hin hjn
              have hcz2 := hI2.at hin hjn
              have htop2 := hM.topCell hin
              have hval2 := hM.valCell hin hjn
              rw [hN] at htop2 hval2
              have hzb2 := hI2.byte (i + 1) j hin hjn
              have hzw2 := wd_cast (Z (i + 1) j)
              have hwd2 := Pl.wd_le (Z (i + 1) j)
              have hge2 := Pl.wide_ge L Z R (i + 1) j
              have hLn := hL (i + 1) hin
              have hv2 : Pl.val L Z R (i + 1) j = ((Pl.wide L Z R i j : Nat) : Int) + 1 - ((Pl.wd (Z (i + 1) j) : Nat) : Int) := by
                unfold Pl.val
                rw [Pl.wide_next L Z R i j hin hjlt hjn]
              rw [hv2] at hval2
              rw [Pl.wide_next L Z R i j hin hjlt hjn] at hge2
              clear hv2
              go_wp2_with fail
              go_quiet (fail)
              go_wp2_with fail
              go_roundw
              case rel => exact ⟨j + 1, _, by omega, by go_num, rfl⟩
              case measure => simp [intOf]; omega
            · have hways : (((i : Int) + 1 < (R : Int)) ∧ ¬ j < L (i + 1) ∧ w2.cell? ⟨bm, om + (i + 1), none⟩ = some (.slice (A (i + 1)) (L (i + 1)) (C (i + 1))) ∧ L (i + 1) ≤ 1024) ∨ ¬ ((i : Int) + 1 < (R : Int)) := by
                by_cases e : i + 1 < R
                · exact .inl ⟨by omega, fun hh => hgo ⟨e, hh⟩, hI2.row (i + 1) e, hL (i + 1) e⟩
                · exact .inr (by omega)
              clear hgo
              rcases hways with ⟨hin, hnn, hrn, hLn⟩ | hin
              all_goals
                go_wp2_with fail
                go_roundw
                case rel => exact ⟨j + 1, _, by omega, by go_num, rfl⟩
                case measure => simp [intOf]; omega
          · go_wp2_with fail
            go_roundw
            case rel => exact ⟨i + 1, _, by omega, by go_num, rfl⟩
            case measure => simp [intOf]; omega
      · go_wp2_with fail
        go_ret
        exact ⟨rfl, below_drewN hb2 _⟩

set_option maxHeartbeats 400000 in
theorem aligned_wide (a0 : Option Addr) (R cap : Nat) (w : World) (hR : 1024 < R) (hR63 : R ≤ 9223372036854775807) :
    Calls Yba.prog 4 #[.slice a0 R cap] w fun e w' => e = .returned (.bool true) ∧ Below w.heap.size w w' := by
  go_enter Yba.func4, Yba.ntmps4
  go_wp2_with fail
  refine (guard_wide a0 R cap hR hR63 w).mono ?_
  rintro e w1 ⟨rfl, rfl⟩
  go_wp2_with fail
  go_ret
  exact ⟨rfl, Below.refl _ _⟩

end Go.Proofs.Ybulkeco
