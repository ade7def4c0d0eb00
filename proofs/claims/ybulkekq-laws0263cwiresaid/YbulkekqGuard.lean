/-
  zzs0263cguard.
-/
import Derived.Test.YbulkekqOf
namespace Go.Proofs.Ybulkekq
open Go.RowKit
open Pk

/-- The offers as they came in. -/
structure Inp (w : World) (a : Option Addr) (b o n : Nat) (O : Nat → OfD) (SA : Nat → Option Addr) (SB SO SC : Nat → Nat) : Prop where
  addr : 0 < n → a = some ⟨b, o, none⟩
  of_ : ∀ i, i < n → OfAt w b (o + i * 72) (O i) (SA i) (SB i) (SO i) (SC i)
  ok : ∀ i, i < n → OfOk (O i)
  len : ∀ i, i < n → (O i).S.length ≤ 4611686018427387904

/-- What the guard answers. -/
def gd (np n : Nat) (O : Nat → OfD) : Bool := decide (np ≤ 1024 ∧ n ≤ 256 ∧ tot O n ≤ 1024)

set_option maxHeartbeats 800000 in
theorem guard_any (a0 a1 : Option Addr) (np c0 b o n c1 : Nat) (O : Nat → OfD) (SA : Nat → Option Addr) (SB SO SC : Nat → Nat) (w : World) (hI : Inp w a1 b o n O SA SB SO SC) :
    Calls Yba.prog 5 #[.slice a0 np c0, .slice a1 n c1] w fun e w' => e = .returned (.bool (gd np n O)) ∧ w' = w := by
  have HI : Hid (Inp w a1 b o n O SA SB SO SC) := hI
  clear hI
  by_cases h1 : 1024 < np
  · have e : gd np n O = false := by unfold gd; exact decide_eq_false (by omega)
    rw [e]
    go_enter Yba.func5, Yba.ntmps5
    go_wp2
    go_ret
    exact ⟨rfl, rfl⟩
  · by_cases h2 : 256 < n
    · have e : gd np n O = false := by unfold gd; exact decide_eq_false (by omega)
      rw [e]
      go_enter Yba.func5, Yba.ntmps5
      go_wp2
      go_ret
      exact ⟨rfl, rfl⟩
    · obtain ⟨g, hg⟩ : ∃ g, g = gd np n O := ⟨_, rfl⟩
      rw [← hg]
      have HG : Hid (g = gd np n O) := hg
      clear hg
      go_enter Yba.func5, Yba.ntmps5
      go_wp2_with fail
      go_loopw [5, 17] (fun t k wr => ∃ i : Nat, k = .int .i64 i ∧ i ≤ n ∧ t = .int .i64 (tot O i) ∧ tot O i ≤ 1024 ∧ wr = w) (fun _ k _ => n - (intOf k).toNat)
      case atStart => exact ⟨0, rfl, Nat.zero_le _, rfl, by simp [tot], rfl⟩
      case round =>
        obtain ⟨i, rfl, hin, rfl, hti, hw⟩ := hrel
        have hw := hw.symm
        subst hw
        by_cases hlt : i < n
        · have hlt' : (i : Int) < (n : Int) := by omega
          obtain rfl := HI.out.addr (by omega)
          have c := (HI.out.of_ i hlt).sl
          have hl := HI.out.len i hlt
          have HTn : Hid (tot O (i + 1) = tot O i + (O i).S.length) := rfl
          have HTm : Hid (tot O (i + 1) ≤ tot O n) := tot_mono O (by omega)
          generalize (O i).S.length = l at *
          generalize tot O i = t at *
          by_cases hbig : 1024 < t + l
          · have hbig' : (1024 : Int) < (t : Int) + (l : Int) := by omega
            have e : g = false := by
              rw [HG.out]; unfold gd
              have h1 := HTn.out
              have h2 := HTm.out
              exact decide_eq_false (by omega)
            subst e
            go_wp2_with fail
            go_ret
            exact ⟨rfl, rfl⟩
          · have hbig' : ¬ (1024 : Int) < (t : Int) + (l : Int) := by omega
            go_wp2_with fail
            go_roundw
            case rel => exact ⟨i + 1, by go_num, by omega, by rw [HTn.out]; go_num, by rw [HTn.out]; omega, by first | rfl | trivial⟩
            case measure => simp [intOf]; omega
        · have hlt' : ¬ (i : Int) < (n : Int) := by omega
          have e : g = true := by
            rw [HG.out]; unfold gd
            obtain rfl : i = n := by omega
            exact decide_eq_true ⟨by omega, by omega, hti⟩
          subst e
          go_wp2_with fail
          go_ret
          exact ⟨rfl, rfl⟩

end Go.Proofs.Ybulkekq
