/-
  'Rows.LawS0254CFromReaderCardSaid', proved: the row by the walk of YbulkefuDoorFr, the card by the builder's one call and the given tie.
-/
import Derived.Test.YbulkefuDoorRows
import Derived.Test.YbulkefuDoorCards
import Derived.Test.YbulkefuDoorTie
import Derived.Test.YbulkefuDoorFr
import Derived.ProofKit
import Derived.LaidMore
import Derived.OpenShut
import Derived.ShutString
import Derived.ChangeOld
import Derived.Below
import Derived.SevenTiedAt
import Derived.Stop.Joined
import Derived.Stop.LaidErr
import Derived.Deep.Matrix
namespace Go.Proofs.YbulkefuDoor.Reader
open Go.ChangeShapes Go.WideShapes Go.ChangeAt Go.RowKit Go.Deep

theorem own : ownKnob Ybad.prog.godebug = none := by kernel_rfl
theorem laidOut : laidOutB Ybad.prog = true := by kernel_rfl
theorem cells22 : Ybad.prog.cellsOf 22 = 1 := by kernel_rfl
theorem cells5 : Ybad.prog.cellsOf 5 = 1 := by kernel_rfl
theorem cells9 : Ybad.prog.cellsOf 9 = 1 := by kernel_rfl
theorem cells70 : Ybad.prog.cellsOf 70 = 1 := by kernel_rfl
theorem gEof : Ybad.prog.globalNamed "io.EOF" = some 0 := by kernel_rfl
theorem gEofType : (Ybad.prog.globals[0]?).map (·.type) = some 28 := by kernel_rfl
/-- The type's name, as the row spells it. -/
def eofName : String := match (Rows.laid_io_EOF : DataW Unit) with
  | .iface nm _ => nm
  | _ => ""
theorem star (s : String) (h : s = String.singleton '*') : s ++ "errors.errorString" = eofName := by subst h; decide
theorem row48 (u : TypeId) (h : Ybad.prog.typeName? 3 u = some eofName) : u = 48 :=
  typeName_ptr_named (nm := "errors.errorString") (by rw [star _ (by decide)]; kernel_rfl) (by kernel_rfl) (by decide) u (by rw [star _ (by decide)]; exact h)

/-- The door's own heap meets the condition. -/
theorem door_met (os : Os) (args : Array Value) : laidMetH Ybad.prog Rows.lawS0254CFromReaderRow.laid ((World.doorLaid Ybad.prog 47 os).forCall (fun _ _ => 0) ⟨#[], args, []⟩).memory :=
  laidMetH_of_parts3 (fuel := 8) (laidMet_of_run' 8 (by kernel_rfl) (by kernel_rfl)) (by kernel_rfl) (by kernel_rfl)

/-- What the condition gives the walk: io.EOF's cell. -/
theorem eof_of_laid {W : World} (h : laidMetH Ybad.prog Rows.lawS0254CFromReaderRow.laid W) : ∃ ea : Addr, W.cell? ⟨0, 0, none⟩ = some (.iface 48 (.pointer (some ea))) := by
  rw [MakeChecks.laidMetH_plain _ _ _ (by kernel_rfl)] at h
  have h' : laidMet Ybad.prog (("io.EOF", .iface eofName (.ptr (.agg [.lit (.string [69, 79, 70])]))) :: [("io.ErrNoProgress", Rows.laid_io_ErrNoProgress)]) W := h
  obtain ⟨a, s, hv, _, _, _⟩ := laid_sentinel h' gEof gEofType Ybad.underlying28 row48 Ybad.underlying48 Ybad.underlying70 rfl rfl Ybad.underlying9 cells70 cells9
  exact ⟨a, by simpa using World.var?_cell gEof hv 0⟩

/-- A slice of bytes as it came in. -/
theorem open_bs {H : Type} {enc : TypeId × Value → H} {W : World} {base : Nat} {v : Value} {d : DataW H} {ps : List MemPlace} (hok : Value.okWide Ybad.prog W .any base 22 v) (h0 : DataW.Trod enc Ybad.prog W 0 (fun _ => true) true 22 v d ps) :
    ∃ (a : Option Addr) (b o n c : Nat) (Z : Nat → Int), v = .slice a n c ∧ Bs W a b o n Z := by
  obtain ⟨a, n, c, rfl⟩ := okWide_slice Ybad.underlying22 hok
  obtain ⟨fuel, hf⟩ := h0
  rcases open_ints Ybad.underlying22 Ybad.underlying5 (by kernel_rfl) hf with ⟨hcs, _⟩ | ⟨x, l, c', zs, hcs, _, hl, hm, hz, _, hcell, hwz⟩
  · simp [Value.cells] at hcs
    obtain ⟨rfl, rfl, rfl⟩ := hcs
    exact ⟨none, 0, 0, 0, 0, fun _ => 0, rfl, ⟨fun h => absurd h (Nat.lt_irrefl _), fun _ h => absurd h (Nat.not_lt_zero _), fun _ h => absurd h (Nat.not_lt_zero _)⟩⟩
  · simp [Value.cells] at hcs
    obtain ⟨rfl, rfl, rfl⟩ := hcs
    have hz' : zs.length = c := by simpa using hz
    by_cases h0 : 0 < n
    · obtain ⟨b, o, s⟩ := x
      have hs : s = none := by simpa [Addr.add] using World.cell?_spot (hcell 0 (by omega))
      subst hs
      refine ⟨_, b, o, n, c, fun i => zs.getD i 0, rfl, ⟨fun _ => rfl, fun i hi => ?_, fun i hi => ?_⟩⟩
      · have := hcell i (by omega)
        rw [add_plain] at this
        exact this
      · have := range_u8 hwz i
        simp only [List.getD]
        omega
    · exact ⟨_, 0, 0, n, c, fun _ => 0, rfl, ⟨fun h => absurd h h0, fun i h => absurd h (by omega), fun i h => absurd h (by omega)⟩⟩

def adB : Option Addr → Nat | some a => a.block | none => 0
def adO : Option Addr → Nat | some a => a.off | none => 0

/-- The chunks as they came in. -/
theorem open_cks {H : Type} {enc : TypeId × Value → H} {W : World} {base : Nat} {v : Value} {d : DataW H} {ps : List MemPlace} (hok : Value.okWide Ybad.prog W .any base 39 v) (h0 : DataW.Trod enc Ybad.prog W 0 (fun _ => true) true 39 v d ps) :
    ∃ (a : Option Addr) (b o nc c : Nat) (A : Nat → Option Addr) (L C Ab Ao : Nat → Nat) (Z : Nat → Nat → Int), v = .slice a nc c ∧ Cks W a b o nc A L C Ab Ao Z := by
  obtain ⟨a0, len, cap, rfl⟩ := okWide_slice Ybad.underlying39 hok
  obtain ⟨fuel, hf⟩ := h0
  rcases open_int_rows Ybad.underlying39 Ybad.underlying22 Ybad.underlying5 cells22 cells5 hf with ⟨hcs, _⟩ | ⟨a, len', cap', A, L, C, Z, hcs, _, hl, hm, _, hrows⟩
  · simp [Value.cells] at hcs
    obtain ⟨rfl, rfl, rfl⟩ := hcs
    exact ⟨none, 0, 0, 0, 0, fun _ => none, fun _ => 0, fun _ => 0, fun _ => 0, fun _ => 0, fun _ _ => 0, rfl, ⟨fun h => absurd h (Nat.lt_irrefl _), fun r h => absurd h (Nat.not_lt_zero _), fun r h => absurd h (Nat.not_lt_zero _)⟩⟩
  simp [Value.cells] at hcs
  obtain ⟨rfl, rfl, rfl⟩ := hcs
  have hspot : 0 < len → a = ⟨a.block, a.off, none⟩ := fun h => by
    obtain ⟨b, o, s⟩ := a
    have : s = none := by simpa [Addr.add] using World.cell?_spot (hrows 0 (by omega)).1
    rw [this]
  refine ⟨some a, a.block, a.off, len, cap, A, L, C, fun r => adB (A r), fun r => adO (A r), fun r c => (Z r).getD c 0, rfl, ⟨fun h => by rw [← hspot h], fun r hr => ?_, fun r hr => ?_⟩⟩
  · have h := (hrows r (by omega)).1
    rw [hspot (by omega), add_plain] at h
    exact h
  · obtain ⟨_, h1, _, h2, h2', h3, h4⟩ := hrows r (by omega)
    cases hA : A r with
    | none =>
      have := h3 hA
      exact ⟨fun h => by omega, fun i h => by omega, fun i h => by omega⟩
    | some a' =>
      obtain ⟨_, h5⟩ := h4 a' hA
      by_cases hz : 0 < L r
      · obtain ⟨b, o, s⟩ := a'
        have hs : s = none := by simpa [Addr.add] using World.cell?_spot (h5 0 (by omega))
        subst hs
        refine ⟨fun _ => rfl, fun i hi => ?_, fun i hi => ?_⟩
        · have h6 := h5 i (by omega)
          rw [add_plain] at h6
          exact h6
        · have := range_u8 h2' i
          simp only [List.getD]
          omega
      · exact ⟨fun h => absurd h hz, fun i h => by omega, fun i h => by omega⟩

set_option maxRecDepth 100000 in
theorem lifted (os : Os) (started : os.Started) (H : Type) (enc : TypeId × Value → H) :
    ReturnsInHanded {} Ybad.checked os 4 .any (fun w args => (Rows.lawS0254CFromReaderSpec.pre enc Ybad.prog Ybad.f4 [] false w args ∧ laidMetH Ybad.prog Rows.lawS0254CFromReaderRow.laid w) ∧ sizedMet enc Ybad.prog Ybad.f4 (OpenSpec.ofChange Rows.lawS0254CFromReaderSpec) false w args)
      (Rows.lawS0254CFromReaderSpec.post enc Ybad.prog Ybad.f4 false true false false) := by
  refine returnsInHanded_of_change_and (C := Ybad.checked) (X := fun w _ => laidMetH Ybad.prog Rows.lawS0254CFromReaderRow.laid w) (fun _ _ _ hh h => h.of_heap hh) own started (by kernel_rfl) Ybad.func4
    (ChangeSpec.witness_shaped (enc := enc) (C := Ybad.checked) (os := os) (X := fun w _ => laidMetH Ybad.prog Rows.lawS0254CFromReaderRow.laid w) false (World.doorLaid Ybad.prog 47 os) #[.slice none 0 0, .slice none 0 0, .int .u16 0] 8 rfl (World.shaped_of_RefB (by kernel_rfl) (by kernel_rfl)) (by kernel_rfl) (by kernel_rfl) (by kernel_rfl) (door_met os _)) ?_
  intro W base args ds gs before hval0 hW _ _ hL _
  have hval : ∀ (j : Nat) t v, Ybad.f4.params[j]? = some t → args[j]? = some v → Value.okWide Ybad.prog W .any base t v := hval0
  have hW' := hW
  obtain ⟨p, q, hA0, hV, rfl, _, _⟩ := hW
  have hA : DataW.TrodAll enc Ybad.prog W 0 (fun _ => true) true Ybad.f4.params.toList args.toList ds p := hA0
  rw [Ybad.params4] at hA hval
  obtain ⟨v0, vs0, d0, ds0, p0, q0, hargs, rfl, rfl, h0, r0⟩ := trodAll_cons hA
  obtain ⟨v1, vs1, d1, ds1, p1, q1, rfl, rfl, rfl, h1, r1⟩ := trodAll_cons r0
  obtain ⟨v2, vs2, d2, ds2, p2, q2, rfl, rfl, rfl, h2, r2⟩ := trodAll_cons r1
  obtain ⟨rfl, rfl, rfl⟩ := trodAll_nil r2
  obtain rfl : args = #[v0, v1, v2] := by cases args; simp_all
  obtain ⟨rfl, rfl⟩ := trodVars_none hV
  have lt0 : ∀ x ∈ p0, x.block < W.heap.size := by obtain ⟨m, hm⟩ := h0; exact DataW.trod_lt m _ _ _ hm
  have lt1 : ∀ x ∈ p1, x.block < W.heap.size := by obtain ⟨m, hm⟩ := h1; exact DataW.trod_lt m _ _ _ hm
  obtain ⟨a, b, o, n, c, Zp, rfl, hB⟩ := open_bs (hval 0 22 v0 rfl rfl) h0
  obtain ⟨a1, b1, o1, nc, c1, A, L, C, Ab, Ao, Z, rfl, hC⟩ := open_cks (hval 1 39 v1 rfl rfl) h1
  obtain ⟨x, rfl, rfl, rfl, wx⟩ := open_int Ybad.underlying23 (hval 2 23 v2 rfl rfl) h2
  obtain ⟨ea, hE⟩ := eof_of_laid hL
  clear hA0 hval0 hL
  have walk : Calls Ybad.prog 4 #[.slice a n c, .slice a1 nc c1, .int .u16 x] W fun e w' => e = .returned (.bool true) ∧ Below W.heap.size W w' := by
    by_cases h : n ≤ 1024 ∧ nc ≤ 64
    · exact fr_walk a b o n c Zp a1 b1 o1 nc c1 A L C Ab Ao Z x ea W hB hC (bounds_u16 wx) h.1 h.2 hE
    · exact fr_long a a1 n c nc c1 x W (by omega)
  refine walk.mono fun e W' ⟨he, bel⟩ => ?_
  subst he
  exact ⟨_, rfl, _, _, _, [], _, [], hW', trodAll_mk1 (shut_bool Ybad.underlying4 _), trodAll_cons_mk (Below.trod laidOut (by kernel_rfl) (of_decide_eq_true (by kernel_rfl)) h0 bel lt0) (trodAll_cons_mk (Below.trod laidOut (by kernel_rfl) (of_decide_eq_true (by kernel_rfl)) h1 bel lt1) (trodAll_cons_mk (shut_int Ybad.underlying23 wx) trodAll_mk0)), rfl, bel.frame _, fun h => by cases h⟩

theorem over : Rows.LawS0254CFromReaderSaid :=
  OpenClaim.holds_of_wide 4 Ybad.f4 rfl rfl rfl rfl rfl rfl rfl ⟨rfl, rfl, rfl, rfl, rfl⟩ rfl rfl rfl rfl rfl (by kernel_rfl) Ybad.func4 (by kernel_rfl)
    (of_decide_eq_true (by kernel_rfl)) (by unfold Func.isWrapper; first | (rw [if_pos (by decide +kernel)]; kernel_rfl) | (rw [if_neg (by decide +kernel)]; exact ⟨rfl, rfl⟩))
    (fun os started H enc _ => lifted os started H enc)

/-- THE STATEMENT. -/
theorem proved : Rows.LawS0254CFromReaderCardSaid :=
  Claim7.holds_tied_plain_at .later [] [.sentinel, .sentinel] true (true, "e821e5d0ac0c65255334ffa16688e2372e1696db414167bd1cff037f1283db12") true
    over (fun _ h => by cases h) (by kernel_rfl) (fun _ h => by cases h) lawS0254CFromReader_row_tie rfl ⟨rfl, rfl⟩ (by kernel_rfl) rfl
    (fun f fn hf hfn => by
      obtain rfl : f = 4 := Option.some.inj ((show Ybad.prog.funcNamed Rows.lawS0254CFromReaderRow.func = some 4 by kernel_rfl).symm.trans hf) |>.symm
      obtain rfl : fn = Ybad.f4 := (Option.some.inj (Ybad.func4.symm.trans hfn)).symm
      exact ⟨by kernel_rfl, fun j t ht => by
        rw [Ybad.params4] at ht
        have h3 : t = 22 ∨ t = 39 ∨ t = 23 := by
          rcases j with _ | _ | _ | j
          · left; simpa using ht.symm
          · right; left; simpa using ht.symm
          · right; right; simpa using ht.symm
          · simp at ht
        rcases h3 with rfl | rfl | rfl
        · exact (show Ybad.prog.wantsStandIn 22 = false by kernel_rfl)
        · exact (show Ybad.prog.wantsStandIn 39 = false by kernel_rfl)
        · exact (show Ybad.prog.wantsStandIn 23 = false by kernel_rfl)⟩)
    (by kernel_rfl)
#print axioms proved
end Go.Proofs.YbulkefuDoor.Reader
