/-
  The argument of the two laws, opened: a slice of slices of bytes as it came in.
-/
import Derived.Test.YbulkecoColumns
import Derived.ProofKit
import Derived.OpenShut
import Derived.ShutString
import Derived.ChangeOld
import Derived.Deep.Matrix
namespace Go.Proofs.Ybulkeco
open Go.ChangeShapes Go.WideShapes Go.ChangeAt Go.RowKit Go.Deep

theorem Yba.own : ownKnob Yba.prog.godebug = none := by kernel_rfl
theorem Yba.laidOut : laidOutB Yba.prog = true := by kernel_rfl
theorem Yba.cells30 : Yba.prog.cellsOf 30 = 1 := by kernel_rfl
theorem Yba.cells5 : Yba.prog.cellsOf 5 = 1 := by kernel_rfl

def adB : Option Addr → Nat | some a => a.block | none => 0
def adO : Option Addr → Nat | some a => a.off | none => 0

set_option maxRecDepth 100000 in
theorem open_inp {H : Type} {enc : TypeId × Value → H} {W : World} {base : Nat} {v : Value} {d : DataW H} {ps : List MemPlace} (hok : Value.okWide Yba.prog W .any base 22 v) (h0 : DataW.Trod enc Yba.prog W 0 (fun _ => true) true 22 v d ps) :
    ∃ (a0 : Option Addr) (bm om R cap : Nat) (A : Nat → Option Addr) (L C Ab Ao : Nat → Nat) (Z : Nat → Nat → Int), v = .slice a0 R cap ∧ R ≤ 9223372036854775807 ∧ Inp W a0 bm om R A L C Ab Ao Z := by
  obtain ⟨a0, len, cap, rfl⟩ := okWide_slice Yba.underlying22 hok
  obtain ⟨fuel, hf⟩ := h0
  rcases open_int_rows Yba.underlying22 Yba.underlying30 Yba.underlying5 Yba.cells30 Yba.cells5 hf with ⟨hcs, _⟩ | ⟨a, len', cap', A, L, C, Z, hcs, _, hl, hm, _, hrows⟩
  · simp [Value.cells] at hcs
    obtain ⟨rfl, rfl, rfl⟩ := hcs
    exact ⟨none, 0, 0, 0, 0, fun _ => none, fun _ => 0, fun _ => 0, fun _ => 0, fun _ => 0, fun _ _ => 0, rfl, by omega, ⟨fun h => absurd h (Nat.lt_irrefl _), fun r h => absurd h (Nat.not_lt_zero _), fun r h => absurd h (Nat.not_lt_zero _), fun r _ h => absurd h (Nat.not_lt_zero _), fun r h => absurd h (Nat.not_lt_zero _)⟩⟩
  simp [Value.cells] at hcs
  obtain ⟨rfl, rfl, rfl⟩ := hcs
  unfold maxLen at hm
  have hspot : 0 < len → a = ⟨a.block, a.off, none⟩ := fun h => by
    obtain ⟨b, o, s⟩ := a
    have : s = none := by simpa [Addr.add] using World.cell?_spot (hrows 0 (by omega)).1
    rw [this]
  refine ⟨some a, a.block, a.off, len, cap, A, L, C, fun r => adB (A r), fun r => adO (A r), fun r c => (Z r).getD c 0, rfl, by omega, ⟨fun h => by rw [← hspot h], fun r hr => ?_, fun r hr c hc => ?_, fun r c hr hc => ?_, fun r hr => ?_⟩⟩
  · have h := (hrows r (by omega)).1
    rw [hspot (by omega), add_plain] at h
    exact h
  · obtain ⟨_, h1, _, h2, _, h3, h4⟩ := hrows r (by omega)
    cases hA : A r with
    | none => have := h3 hA; omega
    | some a' =>
      obtain ⟨_, h5⟩ := h4 a' hA
      obtain ⟨b, o, s⟩ := a'
      have hs : s = none := by simpa [Addr.add] using World.cell?_spot (h5 0 (by omega))
      subst hs
      have h6 := h5 c (by omega)
      rw [add_plain] at h6
      exact ⟨rfl, h6⟩
  · obtain ⟨_, h1, _, h2, h3, _⟩ := hrows r (by omega)
    have := range_u8 h3 c
    simp only [List.getD]
    omega
  · obtain ⟨_, h1, h2, _⟩ := hrows r (by omega)
    unfold maxLen at h2
    omega

end Go.Proofs.Ybulkeco
