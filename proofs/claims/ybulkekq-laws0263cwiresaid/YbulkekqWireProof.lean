/-
  'Rows.LawS0263CWireSaid', proved.
-/
import Derived.Test.YbulkekqOpen
import Derived.ShutString
import Derived.ChangeOld
import Derived.Below
namespace Go.Proofs.Ybulkekq
open Go.ChangeShapes Go.WideShapes Go.ChangeAt Go.RowKit
open Pk

theorem Yba.own : ownKnob Yba.prog.godebug = none := by kernel_rfl
theorem Yba.laidOut : laidOutB Yba.prog = true := by kernel_rfl

set_option maxRecDepth 100000 in
theorem wire_lifted (os : Os) (started : os.Started) (H : Type) (enc : TypeId × Value → H) :
    ReturnsInHanded {} Yba.checked os 3 .any (Rows.lawS0263CWireSpec.pre6 enc Yba.prog Yba.f3 Rows.lawS0263CWireRow.domain false) (Rows.lawS0263CWireSpec.post enc Yba.prog Yba.f3 false true false false) := by
  refine returnsInHanded_of_change_sized (C := Yba.checked) Yba.own started (by kernel_rfl) Yba.func3
    (ChangeSpec.witness6 (enc := enc) (C := Yba.checked) false ⟨#[], #[.slice none 0 0, .slice none 0 0], []⟩ 8 (by kernel_rfl) (by kernel_rfl) (by kernel_rfl) (by kernel_rfl)) ?_
  intro W base args ds gs before hval0 hW _ hsz0 _
  have hsz : (DataW.weightsEach Yba.prog (Yba.f3.params.toList ++ Rows.lawS0263CWireSpec.plain.varTypes Yba.prog) (ds ++ gs)).all (· ≤ reachBytes) = true := hsz0
  clear hsz0
  have hval : ∀ (j : Nat) t v, Yba.f3.params[j]? = some t → args[j]? = some v → Value.okWide Yba.prog W .any base t v := hval0
  have hW' := hW
  obtain ⟨p, q, hA0, hV, rfl, _, _⟩ := hW
  have hA : DataW.TrodAll enc Yba.prog W 0 (fun _ => true) true Yba.f3.params.toList args.toList ds p := hA0
  rw [Yba.params3] at hA hval hsz
  obtain ⟨v0, v1, d0, d1, p0, p1, rfl, rfl, rfl, h0, h1⟩ := trodAll_two hA
  obtain ⟨rfl, rfl⟩ := trodVars_none hV
  have lt0 : ∀ x ∈ p0, x.block < W.heap.size := by obtain ⟨m, hm⟩ := h0; exact DataW.trod_lt m _ _ _ hm
  have lt1 : ∀ x ∈ p1, x.block < W.heap.size := by obtain ⟨m, hm⟩ := h1; exact DataW.trod_lt m _ _ _ hm
  have hs1 : ∀ m ∈ d1.weights Yba.prog 23, m ≤ reachBytes := fun m hm => by
    have := List.all_eq_true.1 hsz m (DataW.weights_mem_each (j := 1) (t := 23) rfl rfl m hm)
    simpa using this
  obtain ⟨a0, np, c0, X, rfl, hP⟩ := open_pre (hval 0 22 v0 rfl rfl) h0
  obtain ⟨a1, b, o, n, c1, O, SA, SB, SO, SC, rfl, hI⟩ := open_inp (hval 1 23 v1 rfl rfl) h1 hs1
  clear hA0 hval0
  refine (wire_any a0 a1 np c0 b o n c1 X O SA SB SO SC W hI hP).mono fun e W' ⟨he, bel⟩ => ?_
  subst he
  exact ⟨_, rfl, _, _, _, [], _, [], hW', trodAll_mk1 (shut_bool Yba.underlying4 _), trodAll_cons_mk (Below.trod Yba.laidOut (by kernel_rfl) (of_decide_eq_true (by kernel_rfl)) h0 bel lt0) (trodAll_cons_mk (Below.trod Yba.laidOut (by kernel_rfl) (of_decide_eq_true (by kernel_rfl)) h1 bel lt1) trodAll_mk0), rfl, bel.frame _, fun h => by cases h⟩

theorem wire_over : Rows.lawS0263CWireRow.holds Yba.pinned (OpenSpec.ofChange Rows.lawS0263CWireSpec) :=
  OpenClaim.holds_of_wide 3 Yba.f3 rfl rfl rfl rfl rfl rfl rfl ⟨rfl, rfl, rfl, rfl, rfl⟩ rfl rfl rfl rfl rfl (by kernel_rfl) Yba.func3 (by kernel_rfl)
    (of_decide_eq_true (by kernel_rfl)) (by unfold Func.isWrapper; first | (rw [if_pos (by decide +kernel)]; kernel_rfl) | (rw [if_neg (by decide +kernel)]; exact ⟨rfl, rfl⟩))
    (fun os started H enc _ => wire_lifted os started H enc)

/-- THE STATEMENT. -/
theorem wire_proved : Rows.LawS0263CWireSaid := wire_over
#print axioms wire_proved
end Go.Proofs.Ybulkekq
