/-
  'Rows.LawS0254CWholeInputCardSaid', proved: the row by the walk of YbulkefuDoorWhole, the card by the builder's one call and the given tie.
-/
import Derived.Test.YbulkefuDoorRows
import Derived.Test.YbulkefuDoorCards
import Derived.Test.YbulkefuDoorTie
import Derived.Test.YbulkefuDoorWhole
import Derived.ProofKit
import Derived.LaidMore
import Derived.OpenShut
import Derived.ShutString
import Derived.ChangeOld
import Derived.Below
import Derived.SevenTiedAt
import Derived.Stop.Joined
namespace Go.Proofs.YbulkefuDoor.Whole
open Go.ChangeShapes Go.WideShapes Go.ChangeAt Go.RowKit

theorem own : ownKnob Ybad.prog.godebug = none := by kernel_rfl
theorem laidOut : laidOutB Ybad.prog = true := by kernel_rfl

/-- The door's own heap meets the condition. -/
theorem door_met (os : Os) (args : Array Value) : laidMetH Ybad.prog Rows.lawS0254CWholeInputRow.laid ((World.doorLaid Ybad.prog 47 os).forCall (fun _ _ => 0) ⟨#[], args, []⟩).memory :=
  laidMetH_of_parts3 (fuel := 8) (laidMet_of_run' 8 (by kernel_rfl) (by kernel_rfl)) (by kernel_rfl) (by kernel_rfl)

/-- A slice of bytes as it came in. -/
theorem open_bs {H : Type} {enc : TypeId × Value → H} {W : World} {base : Nat} {v : Value} {d : DataW H} {ps : List MemPlace} (hok : Value.okWide Ybad.prog W .any base 22 v) (h0 : DataW.Trod enc Ybad.prog W 0 (fun _ => true) true 22 v d ps) :
    ∃ (a : Option Addr) (b o n c : Nat) (Z : Nat → Int), v = .slice a n c ∧ Bs W a b o n Z := by
  obtain ⟨a, n, c, rfl⟩ := okWide_slice Ybad.underlying22 hok
  obtain ⟨fuel, hf⟩ := h0
  rcases open_ints Ybad.underlying22 Ybad.underlying5 (by kernel_rfl) hf with ⟨hcs, _⟩ | ⟨x, l, c', zs, hcs, _, hl, hm, hz, _, hcell, hwz⟩
  · simp [Value.cells] at hcs
    obtain ⟨rfl, rfl, rfl⟩ := hcs
    exact ⟨none, 0, 0, 0, 0, fun _ => 0, rfl, ⟨fun h => absurd h (Nat.lt_irrefl _), fun _ h => absurd h (Nat.not_lt_zero _), fun _ h => absurd h (Nat.not_lt_zero _)⟩⟩
  · simp [Value.cells] at hcs
    obtain ⟨rfl, rfl, rfl⟩ := hcs
    have hz' : zs.length = c := by simpa using hz
    by_cases h0 : 0 < n
    · obtain ⟨b, o, s⟩ := x
      have hs : s = none := by simpa [Addr.add] using World.cell?_spot (hcell 0 (by omega))
      subst hs
      refine ⟨_, b, o, n, c, fun i => zs.getD i 0, rfl, ⟨fun _ => rfl, fun i hi => ?_, fun i hi => ?_⟩⟩
      · have := hcell i (by omega)
        rw [add_plain] at this
        exact this
      · have := range_u8 hwz i
        simp only [List.getD]
        omega
    · exact ⟨_, 0, 0, n, c, fun _ => 0, rfl, ⟨fun h => absurd h h0, fun i h => absurd h (by omega), fun i h => absurd h (by omega)⟩⟩

set_option maxRecDepth 100000 in
theorem lifted (os : Os) (started : os.Started) (H : Type) (enc : TypeId × Value → H) :
    ReturnsInHanded {} Ybad.checked os 3 .any (fun w args => (Rows.lawS0254CWholeInputSpec.pre enc Ybad.prog Ybad.f3 [] false w args ∧ laidMetH Ybad.prog Rows.lawS0254CWholeInputRow.laid w) ∧ sizedMet enc Ybad.prog Ybad.f3 (OpenSpec.ofChange Rows.lawS0254CWholeInputSpec) false w args)
      (Rows.lawS0254CWholeInputSpec.post enc Ybad.prog Ybad.f3 false true false false) := by
  refine returnsInHanded_of_change_and (C := Ybad.checked) (X := fun w _ => laidMetH Ybad.prog Rows.lawS0254CWholeInputRow.laid w) (fun _ _ _ hh h => h.of_heap hh) own started (by kernel_rfl) Ybad.func3
    (ChangeSpec.witness_shaped (enc := enc) (C := Ybad.checked) (os := os) (X := fun w _ => laidMetH Ybad.prog Rows.lawS0254CWholeInputRow.laid w) false (World.doorLaid Ybad.prog 47 os) #[.slice none 0 0, .int .u16 0] 8 rfl (World.shaped_of_RefB (by kernel_rfl) (by kernel_rfl)) (by kernel_rfl) (by kernel_rfl) (by kernel_rfl) (door_met os _)) ?_
  intro W base args ds gs before hval0 hW _ _ hL _
  have hval : ∀ (j : Nat) t v, Ybad.f3.params[j]? = some t → args[j]? = some v → Value.okWide Ybad.prog W .any base t v := hval0
  have hW' := hW
  obtain ⟨p, q, hA0, hV, rfl, _, _⟩ := hW
  have hA : DataW.TrodAll enc Ybad.prog W 0 (fun _ => true) true Ybad.f3.params.toList args.toList ds p := hA0
  rw [Ybad.params3] at hA hval
  obtain ⟨v0, v1, d0, d1, p0, p1, rfl, rfl, rfl, h0, h1⟩ := trodAll_two hA
  obtain ⟨rfl, rfl⟩ := trodVars_none hV
  have lt0 : ∀ x ∈ p0, x.block < W.heap.size := by obtain ⟨m, hm⟩ := h0; exact DataW.trod_lt m _ _ _ hm
  obtain ⟨a, b, o, n, c, Z, rfl, hB⟩ := open_bs (hval 0 22 v0 rfl rfl) h0
  obtain ⟨x, rfl, rfl, rfl, wx⟩ := open_int Ybad.underlying23 (hval 1 23 v1 rfl rfl) h1
  clear hA0 hval0 hL
  have walk : Calls Ybad.prog 3 #[.slice a n c, .int .u16 x] W fun e w' => e = .returned (.bool true) ∧ Below W.heap.size W w' := by
    by_cases h : n ≤ 1024
    · exact whole_walk a b o n c Z x W (bounds_u16 wx) hB h
    · exact whole_long a n c x W (by omega)
  refine walk.mono fun e W' ⟨he, bel⟩ => ?_
  subst he
  exact ⟨_, rfl, _, _, _, [], _, [], hW', trodAll_mk1 (shut_bool Ybad.underlying4 _), trodAll_cons_mk (Below.trod laidOut (by kernel_rfl) (of_decide_eq_true (by kernel_rfl)) h0 bel lt0) (trodAll_cons_mk (shut_int Ybad.underlying23 wx) trodAll_mk0), rfl, bel.frame _, fun h => by cases h⟩

theorem over : Rows.LawS0254CWholeInputSaid :=
  OpenClaim.holds_of_wide 3 Ybad.f3 rfl rfl rfl rfl rfl rfl rfl ⟨rfl, rfl, rfl, rfl, rfl⟩ rfl rfl rfl rfl rfl (by kernel_rfl) Ybad.func3 (by kernel_rfl)
    (of_decide_eq_true (by kernel_rfl)) (by unfold Func.isWrapper; first | (rw [if_pos (by decide +kernel)]; kernel_rfl) | (rw [if_neg (by decide +kernel)]; exact ⟨rfl, rfl⟩))
    (fun os started H enc _ => lifted os started H enc)

/-- THE STATEMENT. -/
theorem proved : Rows.LawS0254CWholeInputCardSaid :=
  Claim7.holds_tied_plain_at .later [] [.sentinel, .sentinel] true (true, "e821e5d0ac0c65255334ffa16688e2372e1696db414167bd1cff037f1283db12") true
    over (fun _ h => by cases h) (by kernel_rfl) (fun _ h => by cases h) lawS0254CWholeInput_row_tie rfl ⟨rfl, rfl⟩ (by kernel_rfl) rfl
    (fun f fn hf hfn => by
      obtain rfl : f = 3 := Option.some.inj ((show Ybad.prog.funcNamed Rows.lawS0254CWholeInputRow.func = some 3 by kernel_rfl).symm.trans hf) |>.symm
      obtain rfl : fn = Ybad.f3 := (Option.some.inj (Ybad.func3.symm.trans hfn)).symm
      exact ⟨by kernel_rfl, fun j t ht => by
        rw [Ybad.params3] at ht
        have h3 : t = 22 ∨ t = 23 := by
          rcases j with _ | _ | j
          · left; simpa using ht.symm
          · right; simpa using ht.symm
          · simp at ht
        rcases h3 with rfl | rfl
        · exact (show Ybad.prog.wantsStandIn 22 = false by kernel_rfl)
        · exact (show Ybad.prog.wantsStandIn 23 = false by kernel_rfl)⟩)
    (by kernel_rfl)
#print axioms proved
end Go.Proofs.YbulkefuDoor.Whole
