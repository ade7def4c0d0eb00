/-
  The walk of zzs0248aguard.
-/
import Derived.Test.YbulkecoRows
import Derived.WalkKit
import Derived.WalkSpells
import Derived.WalkLawsBesides
import Derived.Deep.LoopGhost
namespace Go.Proofs.Ybulkeco
open Go.RowKit

set_option maxHeartbeats 400000 in
theorem guard_wide (a0 : Option Addr) (R cap : Nat) (hR : 1024 < R) (hR63 : R ≤ 9223372036854775807) (w : World) :
    Calls Yba.prog 6 #[.slice a0 R cap] w fun e w' => e = .returned (.bool false) ∧ w' = w := by
  go_enter Yba.func6, Yba.ntmps6
  go_wp2
  go_ret
  exact ⟨rfl, rfl⟩

def GuardPost (R : Nat) (L : Nat → Nat) (w : World) (e : Ending) (w' : World) : Prop :=
  ∃ b : Bool, e = .returned (.bool b) ∧ w' = w ∧ (b = true → ∀ i, i < R → L i ≤ 1024)

set_option maxHeartbeats 800000 in
theorem guard_any (a0 : Option Addr) (bm om R cap : Nat) (A : Nat → Option Addr) (L C : Nat → Nat) (w : World) (hR : R ≤ 1024)
    (ha : 0 < R → a0 = some ⟨bm, om, none⟩) (hL : ∀ i, i < R → L i ≤ 9223372036854775807)
    (hrow : ∀ r, r < R → w.cell? ⟨bm, om + r, none⟩ = some (.slice (A r) (L r) (C r))) :
    Calls Yba.prog 6 #[.slice a0 R cap] w (GuardPost R L w) := by
  have hR' : ¬ 1024 < R := by omega
  go_enter Yba.func6, Yba.ntmps6
  go_wp2
  go_loop [10] (fun i => ∃ k : Nat, k ≤ R ∧ i = .int .i64 k ∧ ∀ j, j < k → L j ≤ 1024) (fun i => R - (intOf i).toNat)
  case atStart => exact ⟨0, Nat.zero_le _, rfl, fun j hj => absurd hj (Nat.not_lt_zero _)⟩
  case round =>
    obtain ⟨k, hk, rfl, hall⟩ := hrel
    by_cases hlt : k < R
    · have hcell := hrow k hlt
      have hLk := hL k hlt
      obtain rfl := ha (by omega)
      clear hrow hL ha
      by_cases hw : 1024 < L k
      · clear hall
        go_wp2
        go_ret
        exact ⟨false, rfl, rfl, fun h => by cases h⟩
      · have HA := hall
        clear hall
        go_wp2
        go_round
        case rel => exact ⟨k + 1, by omega, by go_num, fun j hj => by
          by_cases e : j = k
          · subst e; omega
          · exact HA j (by omega)⟩
        case measure => simp [intOf]; omega
    · have HA := hall
      clear hall hrow hL ha
      go_wp2
      go_ret
      exact ⟨true, rfl, rfl, fun _ i hi => HA i (by omega)⟩

end Go.Proofs.Ybulkeco
