/-
  The walk of LawS0248AColumns.
-/
import Derived.Test.YbulkecoGuard
import Derived.Test.YbulkecoBuild
import Derived.Test.YbulkecoPad
namespace Go.Proofs.Ybulkeco
open Go.RowKit

/-- The argument: a slice of slices of bytes. -/
structure Inp (w : World) (a0 : Option Addr) (bm om R : Nat) (A : Nat → Option Addr) (L C Ab Ao : Nat → Nat) (Z : Nat → Nat → Int) : Prop where
  addr : 0 < R → a0 = some ⟨bm, om, none⟩
  row : ∀ r, r < R → w.cell? ⟨bm, om + r, none⟩ = some (.slice (A r) (L r) (C r))
  cell : ∀ r, r < R → ∀ c, c < L r → A r = some ⟨Ab r, Ao r, none⟩ ∧ w.cell? ⟨Ab r, Ao r + c, none⟩ = some (.int .u8 (Z r c))
  byte : ∀ r c, r < R → c < L r → 0 ≤ Z r c ∧ Z r c < 256
  max : ∀ r, r < R → L r ≤ 9223372036854775807

section
variable {w : World} {a0 : Option Addr} {bm om R : Nat} {A : Nat → Option Addr} {L C Ab Ao : Nat → Nat} {Z : Nat → Nat → Int}

theorem Inp.later {w' : World} (h : Inp w a0 bm om R A L C Ab Ao Z) (hb : Below w.heap.size w w') : Inp w' a0 bm om R A L C Ab Ao Z :=
  ⟨h.addr, fun r hr => cell_later hb (h.row r hr), fun r hr c hc => ⟨(h.cell r hr c hc).1, cell_later hb (h.cell r hr c hc).2⟩, h.byte, h.max⟩

theorem Inp.row' (h : Inp w a0 bm om R A L C Ab Ao Z) {r c : Nat} (hr : r < R) (hc : c < L r) : w.cell? ⟨bm, om + r, none⟩ = some (.slice (some ⟨Ab r, Ao r, none⟩) (L r) (C r)) := by
  rw [h.row r hr, (h.cell r hr c hc).1]

theorem Inp.at (h : Inp w a0 bm om R A L C Ab Ao Z) {r c : Nat} (hr : r < R) (hc : c < L r) : w.cell? ⟨Ab r, Ao r + c, none⟩ = some (.int .u8 (Z r c)) := (h.cell r hr c hc).2
end

theorem wd_cast (z : Int) : z % 5 = ((Pl.wd z : Nat) : Int) := by unfold Pl.wd; omega

section
variable {w wx : World} {R : Nat} {L : Nat → Nat} {Z : Nat → Nat → Int}
theorem Main.topCell (h : Main w wx R L Z (fun _ _ => true)) {i : Nat} (hi : i < R) : wx.cell? ⟨w.heap.size, i, none⟩ = some (.slice (some ⟨w.heap.size + 2 + 2 * i, 0, none⟩) (L i) (L i)) := by
  have := h.top.cell hi
  simpa [topAt, hi] using this
theorem Main.valCell (h : Main w wx R L Z (fun _ _ => true)) {i c : Nat} (hi : i < R) (hc : c < L i) : wx.cell? ⟨w.heap.size + 2 + 2 * i, c, none⟩ = some (.int .i64 (Pl.val L Z R i c)) := by
  have := (h.rows i hi).cell hc
  simpa using this
end

set_option maxHeartbeats 1600000 in
set_option maxRecDepth 100000 in
theorem columns_walk (a0 : Option Addr) (bm om R cap : Nat) (A : Nat → Option Addr) (L C Ab Ao : Nat → Nat) (Z : Nat → Nat → Int) (w : World) (hI : Inp w a0 bm om R A L C Ab Ao Z) (hR : R ≤ 1024) :
    Calls Yba.prog 3 #[.slice a0 R cap] w fun e w' => e = .returned (.bool true) ∧ Below w.heap.size w w' := by
  go_enter Yba.func3, Yba.ntmps3
  go_wp2_with fail
  refine (guard_any a0 bm om R cap A L C w hR hI.addr hI.max hI.row).mono ?_
  rintro e w1 ⟨b, rfl, rfl, hb⟩
  cases b with
  | false =>
    clear hb
    go_wp2_with fail
    go_ret
    exact ⟨rfl, Below.refl _ _⟩
  | true =>
    have hL := hb rfl
    clear hb
    go_wp2_with fail
    refine (build_any a0 bm om R cap A L C Ab Ao Z _ hR hL hI.addr hI.row hI.cell hI.byte).mono ?_
    rintro e w1 ⟨bf, bs, n, cp, pA, pb, pC, rfl, hb1, hready⟩
    go_wp2_with fail
    refine (padWidths_any hready hR hL).mono ?_
    rintro e w2 ⟨rfl, hM⟩
    have hb2 := hb1.trans (hM.below.mono hb1.size)
    have hI2 := hI.later hb2
    clear hready hb1 hI
    generalize hN : w1.heap.size = N at *
    go_wp2_with fail
    go_loop [33] (fun i => ∃ k : Nat, k ≤ R ∧ i = .int .i64 k) (fun i => R - (intOf i).toNat)
    case atStart => exact ⟨0, Nat.zero_le _, rfl⟩
    case round =>
      obtain ⟨i, hi, rfl⟩ := hrel
      by_cases hlt : i < R
      · obtain rfl := hI2.addr (by omega)
        have hrow := hI2.row i hlt
        have htop := hM.topCell hlt
        rw [hN] at htop
        have hLi := hL i hlt
        have hAi : 0 < L i → A i = some ⟨Ab i, Ao i, none⟩ := fun h => (hI2.cell i hlt 0 h).1
        generalize A i = ai at hrow hAi
        go_wp2_with fail
        go_loop [48] (fun x => ∃ j : Nat, j ≤ L i ∧ x = .int .i64 j) (fun x => L i - (intOf x).toNat)
        case atStart => exact ⟨0, Nat.zero_le _, rfl⟩
        case round =>
          obtain ⟨j, hj, rfl⟩ := hrel
          by_cases hjlt : j < L i
          · obtain rfl := hAi (by omega)
            have hcz := hI2.at hlt hjlt
            have hval := hM.valCell hlt hjlt
            rw [hN] at hval
            have hzb := hI2.byte i j hlt hjlt
            have hzw := wd_cast (Z i j)
            have hwd := Pl.wd_le (Z i j)
            go_wp2_with fail
            go_loop [10] (fun x => ∃ l : Nat, l ≤ i ∧ x = .int .i64 l ∧ Run L j l i) (fun x => (intOf x).toNat)
            case atStart => exact ⟨i, Nat.le_refl _, rfl, fun k a b => by omega⟩
            case round =>
              obtain ⟨l, hl, rfl, hrun⟩ := hrel
              by_cases hgo : 0 < l ∧ j < L (l - 1)
              · obtain ⟨hl0, hjl⟩ := hgo
                have hrl := hI2.row' (show l - 1 < R by omega) hjl
                have hLl := hL (l - 1) (by omega)
                go_wp2_with fail
                go_round
                case rel =>
                  refine ⟨l - 1, by omega, by go_num, fun k a b => ?_⟩
                  by_cases e : k = l - 1
                  · subst e; exact hjl
                  · exact hrun k (by omega) b
                case measure => simp [intOf]; omega
              · have HLo : Hid (Pl.lo L j i = l) := Pl.lo_eq L j l (by
                  by_cases e : l = 0
                  · exact .inl e
                  · exact .inr (fun hh => hgo ⟨by omega, hh⟩)) i hl hrun
                have hways : (0 < l ∧ ¬ j < L (l - 1) ∧ w2.cell? ⟨bm, om + (l - 1), none⟩ = some (.slice (A (l - 1)) (L (l - 1)) (C (l - 1))) ∧ L (l - 1) ≤ 1024) ∨ ¬ 0 < l := by
                  by_cases e : 0 < l
                  · exact .inl ⟨e, fun hh => hgo ⟨e, hh⟩, hI2.row (l - 1) (by omega), hL (l - 1) (by omega)⟩
                  · exact .inr e
                clear hgo
                rcases hways with ⟨hl0, hnl, hrl, hLl⟩ | hl0
                all_goals
                  go_wp2_with fail
                  go_loop [11] (fun x => ∃ h : Nat, i ≤ h ∧ h < R ∧ x = .int .i64 h ∧ Run L j i (h + 1)) (fun x => R - (intOf x).toNat)
                  case atStart => exact ⟨i, Nat.le_refl _, hlt, rfl, fun k a b => by have : k = i := by omega
                                                                                     subst this; exact hjlt⟩
                  case round =>
                    obtain ⟨h, hh1, hh2, rfl, hrun2⟩ := hrel
                    by_cases hgo : h + 1 < R ∧ j < L (h + 1)
                    · obtain ⟨hin, hjh⟩ := hgo
                      have hrh := hI2.row' hin hjh
                      have hLh := hL (h + 1) hin
                      go_wp2_with fail
                      go_round
                      case rel =>
                        refine ⟨h + 1, by omega, by omega, by go_num, fun k a b => ?_⟩
                        by_cases e : k = h + 1
                        · subst e; exact hjh
                        · exact hrun2 k a (by omega)
                      case measure => simp [intOf]; omega
                    · have HHi : Hid (Pl.hi L R j i = h + 1) := Pl.hi_eq L R j (h + 1) i (by omega) (by omega) (fun k a b => hrun2 k (by omega) b) (by
                        by_cases e : h + 1 = R
                        · exact .inl e
                        · exact .inr (fun hh => hgo ⟨by omega, hh⟩))
                      have hways : (((h : Int) + 1 < (R : Int)) ∧ ¬ j < L (h + 1) ∧ w2.cell? ⟨bm, om + (h + 1), none⟩ = some (.slice (A (h + 1)) (L (h + 1)) (C (h + 1))) ∧ L (h + 1) ≤ 1024) ∨ ¬ ((h : Int) + 1 < (R : Int)) := by
                        by_cases e : h + 1 < R
                        · exact .inl ⟨by omega, fun hh => hgo ⟨e, hh⟩, hI2.row (h + 1) e, hL (h + 1) e⟩
                        · exact .inr (by omega)
                      clear hgo
                      rcases hways with ⟨hin, hnh, hrh, hLh⟩ | hin
                      all_goals
                        go_wp2_with fail
                        go_loop [12, 13] (fun m x => ∃ q : Nat, l ≤ q ∧ q ≤ h + 1 ∧ x = .int .i64 q ∧ m = .int .i64 (Pl.mx (fun k => Pl.wd (Z k j)) l (q - l))) (fun _ x => h + 1 - (intOf x).toNat)
                        case atStart => exact ⟨l, Nat.le_refl _, by omega, rfl, by simp [Pl.mx]⟩
                        case round =>
                          obtain ⟨q, hq1, hq2, rfl, rfl⟩ := hrel
                          have hmx := Pl.mx_le (fun k => Pl.wd (Z k j)) l (q - l) 4 (fun _ => Pl.wd_le _)
                          by_cases hq : q < h + 1
                          · have hjq : j < L q := by
                              by_cases e : q < i
                              · exact hrun q hq1 e
                              · exact hrun2 q (by omega) hq
                            have hrq := hI2.row' (show q < R by omega) hjq
                            have hcq := hI2.at (show q < R by omega) hjq
                            have hbq := hI2.byte q j (by omega) hjq
                            have hwq := wd_cast (Z q j)
                            have hwdq := Pl.wd_le (Z q j)
                            have hLq := hL q (by omega)
                            have hqh : q ≤ h := by omega
                            go_wp2_with fail
                            all_goals
                              go_round
                              case rel =>
                                refine ⟨q + 1, by omega, by omega, by go_num, ?_⟩
                                rw [mx_step _ _ _ hq1]
                                congr 1
                                omega
                              case measure => simp [intOf]; omega
                          · obtain rfl : q = h + 1 := by omega
                            have hv : Pl.val L Z R i j = ((Pl.mx (fun k => Pl.wd (Z k j)) l (h + 1 - l) : Nat) : Int) + 1 - ((Pl.wd (Z i j) : Nat) : Int) := by
                              unfold Pl.val Pl.wide
                              rw [HLo.out, HHi.out]
                            rw [hv] at hval
                            clear hv
                            go_wp2_with fail
                            go_round
                            case rel => exact ⟨j + 1, by omega, by go_num⟩
                            case measure => simp [intOf]; omega
          · go_wp2_with fail
            go_round
            case rel => exact ⟨i + 1, by omega, by go_num⟩
            case measure => simp [intOf]; omega
      · go_wp2_with fail
        go_ret
        exact ⟨rfl, hb2⟩

set_option maxHeartbeats 400000 in
theorem columns_wide (a0 : Option Addr) (R cap : Nat) (w : World) (hR : 1024 < R) (hR63 : R ≤ 9223372036854775807) :
    Calls Yba.prog 3 #[.slice a0 R cap] w fun e w' => e = .returned (.bool true) ∧ Below w.heap.size w w' := by
  go_enter Yba.func3, Yba.ntmps3
  go_wp2_with fail
  refine (guard_wide a0 R cap hR hR63 w).mono ?_
  rintro e w1 ⟨rfl, rfl⟩
  go_wp2_with fail
  go_ret
  exact ⟨rfl, Below.refl _ _⟩

end Go.Proofs.Ybulkeco
