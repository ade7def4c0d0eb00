/-
  zzs0263cbe.
-/
import Derived.Test.YbulkekqBe
namespace Go.Proofs.Ybulkekq
open Go.RowKit
open Pk

/-- j bytes are still to come. -/
structure Zi (base : Nat) (w wr : World) (v : Value) (X : List Int) (z : Int) (n j : Nat) : Prop where
  le : j ≤ n
  ow : ∃ P, P ++ be j z = be n z ∧ Ow base wr v (X ++ P)
  below : Below base w wr

set_option maxHeartbeats 800000 in
theorem zbe_any (base : Nat) (w : World) (v : Value) (X : List Int) (z : Int) (n : Nat) (_hz : 0 ≤ z ∧ z < 18446744073709551616) (hn : n ≤ 8) (hO : Ow base w v X) (hb : X.length + n ≤ 1000000) :
    Calls Yba.prog 8 #[v, .int .u64 z, .int .i64 n] w (App base w (X ++ be n z)) := by
  have h0 : Zi base w w v X z n n := ⟨Nat.le_refl _, ⟨[], rfl, by simpa using hO⟩, Below.refl _ _⟩
  clear hO
  go_enter Yba.func8, Yba.ntmps8
  go_wp2_with fail
  go_loopw [0, 7] (fun v k wr => ∃ j : Nat, k = .int .i64 ((j : Int) - 1) ∧ Zi base w wr v X z n j) (fun _ k _ => (intOf k + 1).toNat)
  case atStart => exact ⟨n, rfl, h0⟩
  case round =>
    clear h0
    obtain ⟨w1, ew⟩ : ∃ x, x = wr := ⟨_, rfl⟩
    subst ew
    obtain ⟨j, rfl, hZ⟩ := hrel
    have HZ : Hid (Zi base w w1 u0 X z n j) := hZ
    have hjn := hZ.le
    clear hZ
    cases j with
    | zero =>
      have hk : ¬ (0 : Int) ≤ ((0 : Nat) : Int) - 1 := by omega
      go_wp2_with fail
      go_ret
      obtain ⟨⟨P, hP, hO⟩, hB⟩ := (⟨HZ.out.ow, HZ.out.below⟩ : _ ∧ _)
      refine ⟨_, rfl, ?_, hB⟩
      have e : P = be n z := by simpa [be] using hP
      rw [← e]
      exact hO
    | succ j =>
      have e1 : ((j + 1 : Nat) : Int) - 1 = (j : Int) := by omega
      rw [e1]
      obtain ⟨⟨P, hP, hO⟩, hB⟩ := (⟨HZ.out.ow, HZ.out.below⟩ : _ ∧ _)
      have HO : Hid (∀ o, Ow base (w1.alloc o) u0 (X ++ P)) := fun o => hO.alloc o
      have HB : Hid (∀ o, Below base w (w1.alloc o)) := fun o => hB.alloc hO.le _
      have HL : Hid ((X ++ P).length + 1 ≤ 1000000) := by
        show _ ≤ _
        have := congrArg List.length hP
        simp only [List.length_append, be_len] at this ⊢
        omega
      have HP : Hid ((P ++ [z / 2 ^ (8 * j) % 256]) ++ be j z = be n z) := by
        show _ = _
        rw [List.append_assoc]; exact hP
      clear HZ hP hO hB
      go_wp2_with (at_builtin; refine wpList_app (by rfl) (.tmp 14) (.tmp 21) (by rfl) base _ (X ++ P) [z / 2 ^ (8 * j) % 256] (by rfl) (HO.out _) ⟨w1.heap.size, 0, none⟩ 1 1 (by rfl) (by rfl) (new_bytes w1 [z / 2 ^ (8 * j) % 256] 5) HL.out ?_; intro v' w' hO' hb')
      go_roundw
      case rel => exact ⟨j, by go_num, by omega, ⟨P ++ [z / 2 ^ (8 * j) % 256], HP.out, by rw [← List.append_assoc]; exact hO'⟩, (HB.out _).trans hb'⟩
      case measure => simp [intOf]
end Go.Proofs.Ybulkekq
