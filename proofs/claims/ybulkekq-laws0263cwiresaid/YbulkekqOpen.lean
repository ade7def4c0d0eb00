/-
  The arguments of LawS0263CWire, opened: the leading bytes to Pre, the offers to Inp.
-/
import Derived.Test.YbulkekqWire
import Derived.ProofKit
import Derived.SizedLaws
import Derived.OpenShut
import Derived.Deep.Slices
namespace Go.Proofs.Ybulkekq
open Go.ChangeShapes Go.WideShapes Go.ChangeAt Go.RowKit
open Pk

theorem Yba.cells5 : Yba.prog.cellsOf 5 = 1 := by kernel_rfl
theorem Yba.cells4 : Yba.prog.cellsOf 4 = 1 := by kernel_rfl
theorem Yba.cells3 : Yba.prog.cellsOf 3 = 1 := by kernel_rfl
theorem Yba.cells29 : Yba.prog.cellsOf 29 = 1 := by kernel_rfl
theorem Yba.cells31 : Yba.prog.cellsOf 31 = 32 := by kernel_rfl
theorem Yba.cells32 : Yba.prog.cellsOf 32 = 1 := by kernel_rfl
theorem Yba.cells34 : Yba.prog.cellsOf 34 = 72 := by kernel_rfl
theorem Yba.cells35 : Yba.prog.cellsOf 35 = 64 := by kernel_rfl
theorem Yba.cells37 : Yba.prog.cellsOf 37 = 65 := by kernel_rfl
theorem Yba.bytes37 : Yba.prog.bytesOf 37 = 72 := by kernel_rfl

def noOf : OfD := ⟨0, [], 0, 0, [], 0, 0, 0, false, []⟩

theorem first_of {cs : List Value} {k : Nat} {v : Value} (h : (cs.drop k).take 1 = [v]) : cs[k]? = some v := by
  have := congrArg (fun l => l[0]?) h
  simpa using this

section
variable {H : Type} {enc : TypeId × Value → H} {w : World} {base : Nat} {spare : Nat → Bool} {held : Bool} {fuel : Nat} {cs : List Value} {x : DataW H × List MemPlace}

theorem open_arr {t n : Nat} (ht : Yba.prog.underlying t = some (.array n 5)) (hc : Yba.prog.cellsOf t = n) (h : DataW.trod enc Yba.prog w base spare held fuel t cs = some x) :
    ∃ Y : List Int, Y.length = n ∧ cs = Y.map (Value.int .u8) := by
  obtain ⟨xs, m, _, _, hl, hxl, hel⟩ := DataW.trod_array ht h
  rw [hc] at hl
  obtain ⟨f, hf⟩ := Go.Deep.choose_lt (α := Int) (n := n) (p := fun i z => cs[i]? = some (.int .u8 z)) (fun i hi => by
    have h1 := hel i hi
    rw [Yba.cells5, Nat.mul_one, List.getElem?_eq_getElem (by omega)] at h1
    obtain ⟨z, h2, _, _⟩ := DataW.trod_int Yba.underlying5 h1
    exact ⟨z, first_of h2⟩)
  refine ⟨(List.range n).map f, by simp, List.ext_getElem? fun i => ?_⟩
  by_cases hi : i < n
  · rw [hf i hi]; simp [hi]
  · rw [List.getElem?_eq_none (by omega), List.getElem?_eq_none (by simp; omega)]

theorem fld_arr {t n k : Nat} (ht : Yba.prog.underlying t = some (.array n 5)) (hc : Yba.prog.cellsOf t = n) (h : DataW.trod enc Yba.prog w base spare held fuel t ((cs.drop k).take (Yba.prog.cellsOf t)) = some x) :
    ∃ Y : List Int, Y.length = n ∧ ∀ j v, (Y.map (Value.int .u8))[j]? = some v → cs[k + j]? = some v := by
  obtain ⟨Y, h1, h2⟩ := open_arr ht hc h
  refine ⟨Y, h1, fun j v hv => ?_⟩
  have hj := (List.getElem?_eq_some_iff.1 hv).1
  rw [List.length_map, h1] at hj
  rw [← h2, hc, List.getElem?_take_of_lt hj, List.getElem?_drop] at hv
  exact hv

theorem fld_int {t k : Nat} {kd : IntKind} (ht : Yba.prog.underlying t = some (.int kd)) (hc : Yba.prog.cellsOf t = 1) (h : DataW.trod enc Yba.prog w base spare held fuel t ((cs.drop k).take (Yba.prog.cellsOf t)) = some x) :
    ∃ z, cs[k]? = some (.int kd z) ∧ (Lit.int kd z).wf = true := by
  rw [hc] at h
  obtain ⟨z, h1, _, h2⟩ := DataW.trod_int ht h
  exact ⟨z, first_of h1, h2⟩

theorem fld_bool {t k : Nat} (ht : Yba.prog.underlying t = some .bool) (hc : Yba.prog.cellsOf t = 1) (h : DataW.trod enc Yba.prog w base spare held fuel t ((cs.drop k).take (Yba.prog.cellsOf t)) = some x) :
    ∃ z, cs[k]? = some (.bool z) := by
  rw [hc] at h
  obtain ⟨z, h1, _⟩ := DataW.trod_bool ht h
  exact ⟨z, first_of h1⟩

theorem open_sig {b p : Nat} (h : DataW.trod enc Yba.prog w base spare held fuel 37 cs = some x) (hcell : ∀ i, i < 65 → w.cell? ⟨b, p + i, none⟩ = cs[i]?) :
    ∃ s : SigD, SgAt w b p s ∧ s.sig.length = 64 ∧ -9223372036854775808 ≤ s.signer ∧ s.signer ≤ 9223372036854775807 := by
  obtain ⟨xs, m, _, _, _, hxl, hf⟩ := DataW.trod_struct Yba.underlying37 h
  have hxl' : xs.length = 2 := hxl
  have f0 := hf 0 _ rfl
  have f1 := hf 1 _ rfl
  rw [List.getElem?_eq_getElem (by omega)] at f0 f1
  obtain ⟨z, h0, hz⟩ := fld_int Yba.underlying3 Yba.cells3 f0
  obtain ⟨Y, hY, h1⟩ := fld_arr Yba.underlying35 Yba.cells35 f1
  refine ⟨⟨z, Y⟩, ⟨?_, fun j v hv => ?_⟩, hY, bounds_i64 hz⟩
  · exact (hcell 0 (by omega)).trans h0
  · have hj := (List.getElem?_eq_some_iff.1 hv).1
    rw [List.length_map] at hj
    have hj' : j < 64 := by rw [← hY]; exact hj
    have := (hcell (1 + j) (by omega)).trans (h1 j v hv)
    rw [Nat.add_assoc]
    exact this

theorem weightsAll_mem {P : Program} {e : TypeId} : ∀ {l : List (DataW H)} {d : DataW H}, d ∈ l → ∀ n ∈ d.weights P e, n ∈ DataW.weightsAll P e l
  | d' :: r, d, hd, n, hn => by
    simp only [DataW.weightsAll, List.mem_append]
    rcases List.mem_cons.1 hd with rfl | h
    · exact Or.inl hn
    · exact Or.inr (weightsAll_mem h n hn)

theorem spot_of {a : Addr} {n m : Nat} {cs' : List Value} (h : w.cells? base (a.add (0 * m)) n = some cs') (hn : 0 < n) : a = ⟨a.block, a.off, none⟩ := by
  obtain ⟨_, hl, hc⟩ := World.cells?_some h
  have h1 := hc 0 hn
  rw [List.getElem?_eq_getElem (by omega)] at h1
  have h2 := World.cell?_spot h1
  obtain ⟨b, o, s⟩ := a
  have hs : s = none := by simpa [Addr.add] using h2
  subst hs
  rfl

/-- The signatures of an offer. -/
theorem open_sigs {k : Nat} (h : DataW.trod enc Yba.prog w base spare held fuel 32 ((cs.drop k).take (Yba.prog.cellsOf 32)) = some x) :
    ∃ (S : List SigD) (sa : Option Addr) (sb so sc : Nat), cs[k]? = some (.slice sa S.length sc) ∧ (0 < S.length → sa = some ⟨sb, so, none⟩) ∧ (∀ j s, S[j]? = some s → SgAt w sb (so + 65 * j) s) ∧
      (∀ s ∈ S, s.sig.length = 64 ∧ -9223372036854775808 ≤ s.signer ∧ s.signer ≤ 9223372036854775807) ∧ ((∀ m ∈ x.1.weights Yba.prog 32, m ≤ reachBytes) → S.length ≤ 4611686018427387904) := by
  rw [Yba.cells32] at h
  rcases Go.Deep.open_slice Yba.underlying32 h with ⟨h1, _⟩ | ⟨a, len, cap, m, n, D, Pl, h1, _, hl, hm, hmm, rfl, hx⟩
  · exact ⟨[], none, 0, 0, 0, first_of h1, fun h => absurd h (Nat.lt_irrefl _), fun j s hs => by simp at hs, fun s hs => by simp at hs, fun _ => Nat.zero_le _⟩
  · have hlm : len ≤ m := by rw [hmm]; split <;> omega
    by_cases h0 : 0 < len
    · obtain ⟨c0, hc0, _⟩ := hx 0 (by omega)
      have ha := spot_of hc0 (by rw [Yba.cells37]; decide)
      obtain ⟨b, o, s0⟩ := a
      simp only [Addr.mk.injEq, true_and] at ha
      subst ha
      have inh : Inhabited SigD := ⟨⟨0, []⟩⟩
      obtain ⟨f, hf⟩ := Go.Deep.choose_lt (α := SigD) (n := len) (p := fun j s => SgAt w b (o + 65 * j) s ∧ s.sig.length = 64 ∧ -9223372036854775808 ≤ s.signer ∧ s.signer ≤ 9223372036854775807) (fun j hj => by
        obtain ⟨c', hc', ht'⟩ := hx j (by omega)
        rw [Yba.cells37, add_at, Nat.mul_comm j 65] at hc'
        obtain ⟨_, _, hcc⟩ := World.cells?_some hc'
        exact open_sig ht' (fun i hi => by rw [← hcc i hi, add_at]))
      refine ⟨(List.range len).map f, _, b, o, cap, by rw [List.length_map, List.length_range]; exact first_of h1, fun _ => rfl, fun j s hs => ?_, fun s hs => ?_, fun hw => ?_⟩
      · have hj := (List.getElem?_eq_some_iff.1 hs).1
        rw [List.length_map, List.length_range] at hj
        rw [List.getElem?_map, List.getElem?_range hj] at hs
        simp only [Option.map_some, Option.some.injEq] at hs
        subst hs
        exact (hf j hj).1
      · obtain ⟨j, hj, rfl⟩ := List.mem_map.1 hs
        exact (hf j (List.mem_range.1 hj)).2
      · have h2 := hw ((len + (m - len)) * 72) (by simp [DataW.weights, Yba.underlying32, Yba.bytes37])
        have h3 := reachBytes_lt
        rw [List.length_map, List.length_range]
        omega
    · obtain rfl : len = 0 := by omega
      exact ⟨[], _, 0, 0, cap, first_of h1, fun h => absurd h (Nat.lt_irrefl _), fun j s hs => by simp at hs, fun s hs => by simp at hs, fun _ => Nat.zero_le _⟩

theorem open_offer {b p : Nat} (h : DataW.trod enc Yba.prog w base spare held fuel 34 cs = some x) (hcell : ∀ i, i < 72 → w.cell? ⟨b, p + i, none⟩ = cs[i]?) :
    ∃ (O : OfD) (sa : Option Addr) (sb so sc : Nat), OfAt w b p O sa sb so sc ∧ OfOk O ∧ ((∀ m ∈ x.1.weights Yba.prog 34, m ≤ reachBytes) → O.S.length ≤ 4611686018427387904) := by
  obtain ⟨xs, m, _, rfl, _, hxl, hf⟩ := DataW.trod_struct Yba.underlying34 h
  have hxl' : xs.length = 10 := hxl
  have f0 := hf 0 _ rfl
  have f1 := hf 1 _ rfl
  have f2 := hf 2 _ rfl
  have f3 := hf 3 _ rfl
  have f4 := hf 4 _ rfl
  have f5 := hf 5 _ rfl
  have f6 := hf 6 _ rfl
  have f7 := hf 7 _ rfl
  have f8 := hf 8 _ rfl
  have f9 := hf 9 _ rfl
  rw [List.getElem?_eq_getElem (by omega)] at f0 f1 f2 f3 f4 f5 f6 f7 f8 f9
  obtain ⟨z0, h0, w0⟩ := fld_int Yba.underlying29 Yba.cells29 f0
  obtain ⟨Y1, l1, h1⟩ := fld_arr Yba.underlying31 Yba.cells31 f1
  obtain ⟨z2, h2, w2⟩ := fld_int Yba.underlying5 Yba.cells5 f2
  obtain ⟨z3, h3, w3⟩ := fld_int Yba.underlying29 Yba.cells29 f3
  obtain ⟨Y4, l4, h4⟩ := fld_arr Yba.underlying31 Yba.cells31 f4
  obtain ⟨z5, h5, w5⟩ := fld_int Yba.underlying29 Yba.cells29 f5
  obtain ⟨z6, h6, w6⟩ := fld_int Yba.underlying29 Yba.cells29 f6
  obtain ⟨z7, h7, w7⟩ := fld_int Yba.underlying29 Yba.cells29 f7
  obtain ⟨z8, h8⟩ := fld_bool Yba.underlying4 Yba.cells4 f8
  obtain ⟨S, sa, sb, so, sc, h9, hsa, hsg, hso, hsw⟩ := open_sigs f9
  have k0 := bounds_u64 w0
  have k2 := bounds_u8 w2
  have k3 := bounds_u64 w3
  have k5 := bounds_u64 w5
  have k6 := bounds_u64 w6
  have k7 := bounds_u64 w7
  have by_ : ∀ (k n : Nat) (Y : List Int), Y.length = n → k + n ≤ 72 → (∀ j v, (Y.map (Value.int .u8))[j]? = some v → cs[k + j]? = some v) → By w b (p + k) Y := fun k n Y hl hk hY j v hv => by
    have hj := (List.getElem?_eq_some_iff.1 hv).1
    rw [List.length_map, hl] at hj
    rw [Nat.add_assoc, hcell (k + j) (by omega)]
    exact hY j v hv
  refine ⟨⟨z0, Y1, z2, z3, Y4, z5, z6, z7, z8, S⟩, sa, sb, so, sc, ⟨(hcell 0 (by omega)).trans h0, by_ 1 32 Y1 l1 (by omega) h1, (hcell 33 (by omega)).trans h2, (hcell 34 (by omega)).trans h3, by_ 35 32 Y4 l4 (by omega) h4, (hcell 67 (by omega)).trans h5, (hcell 68 (by omega)).trans h6, (hcell 69 (by omega)).trans h7, (hcell 70 (by omega)).trans h8, (hcell 71 (by omega)).trans h9, hsa, hsg⟩,
    ⟨by show 0 ≤ z0 ∧ z0 < _; omega, l1, by show 0 ≤ z2 ∧ z2 < _; omega, by show 0 ≤ z3 ∧ z3 < _; omega, l4, by show 0 ≤ z5 ∧ z5 < _; omega, by show 0 ≤ z6 ∧ z6 < _; omega, by show 0 ≤ z7 ∧ z7 < _; omega, hso⟩, fun hw => hsw (fun n hn => hw n ?_)⟩
  have hd : (xs.map (·.1))[9]? = some xs[9].1 := by rw [List.getElem?_map, List.getElem?_eq_getElem (by omega)]; rfl
  simp only [DataW.weights, Yba.underlying34]
  exact DataW.weights_mem_each (j := 9) (t := 32) rfl hd n hn
end

section
variable {H : Type} {enc : TypeId × Value → H} {W : World} {base : Nat} {v : Value} {d : DataW H} {ps : List MemPlace}

/-- The leading bytes. -/
theorem open_pre (hok : Value.okWide Yba.prog W .any base 22 v) (h0 : DataW.Trod enc Yba.prog W 0 (fun _ => true) true 22 v d ps) : ∃ a n c X, v = .slice a n c ∧ Pre W a n c X := by
  obtain ⟨a, n, c, rfl⟩ := okWide_slice Yba.underlying22 hok
  obtain ⟨fuel, hf⟩ := h0
  rcases open_ints Yba.underlying22 Yba.underlying5 (by kernel_rfl) hf with ⟨hcs, _⟩ | ⟨x, l, c', zs, hcs, _, hl, hm, hz, _, hcell, hwz⟩
  · simp [Value.cells] at hcs
    obtain ⟨rfl, rfl, rfl⟩ := hcs
    exact ⟨none, 0, 0, [], rfl, ⟨rfl, Or.inl ⟨rfl, rfl, rfl⟩⟩⟩
  · simp [Value.cells] at hcs
    obtain ⟨rfl, rfl, rfl⟩ := hcs
    have hz' : zs.length = c := by simpa using hz
    refine ⟨_, n, c, zs.take n, rfl, ⟨by rw [List.length_take]; omega, Or.inr ?_⟩⟩
    refine ⟨x, rfl, fun j u hu => ?_⟩
    have hj := (List.getElem?_eq_some_iff.1 hu).1
    rw [List.length_map, List.length_take] at hj
    rw [hcell j (by omega), ← hu, List.getElem?_map, List.getElem?_take_of_lt (by omega), List.getElem?_eq_getElem (by omega)]
    simp only [List.getD, List.getElem?_eq_getElem (show j < zs.length by omega), Option.map_some, Option.getD_some]

/-- The offers. -/
theorem open_inp (hok : Value.okWide Yba.prog W .any base 23 v) (h0 : DataW.Trod enc Yba.prog W 0 (fun _ => true) true 23 v d ps) (hs : ∀ m ∈ d.weights Yba.prog 23, m ≤ reachBytes) :
    ∃ a b o n c O SA SB SO SC, v = .slice a n c ∧ Inp W a b o n O SA SB SO SC := by
  obtain ⟨a, n, c, rfl⟩ := okWide_slice Yba.underlying23 hok
  obtain ⟨fuel, hf⟩ := h0
  have nothing : ∀ a, Inp W a 0 0 0 (fun _ => noOf) (fun _ => none) (fun _ => 0) (fun _ => 0) (fun _ => 0) := fun a => ⟨fun h => absurd h (Nat.lt_irrefl _), fun _ h => absurd h (Nat.not_lt_zero _), fun _ h => absurd h (Nat.not_lt_zero _), fun _ h => absurd h (Nat.not_lt_zero _)⟩
  rcases Go.Deep.open_slice Yba.underlying23 hf with ⟨h1, _⟩ | ⟨x, len, cap, m, k, D, Pl, h1, _, hl, hm, hmm, hx, hel⟩
  · simp [Value.cells] at h1
    obtain ⟨rfl, rfl, rfl⟩ := h1
    exact ⟨_, _, _, 0, 0, _, _, _, _, _, rfl, nothing none⟩
  · simp [Value.cells] at h1
    obtain ⟨rfl, rfl, rfl⟩ := h1
    have hlm : n ≤ m := by rw [hmm]; split <;> omega
    by_cases h0 : 0 < n
    · obtain ⟨c0, hc0, _⟩ := hel 0 (by omega)
      have ha := spot_of hc0 (by rw [Yba.cells34]; decide)
      obtain ⟨b, o, s0⟩ := x
      simp only [Addr.mk.injEq, true_and] at ha
      subst ha
      have inh : Inhabited OfD := ⟨noOf⟩
      obtain ⟨f, hf'⟩ := Go.Deep.choose_lt (α := OfD × Option Addr × Nat × Nat × Nat) (n := n) (p := fun i q => OfAt W b (o + i * 72) q.1 q.2.1 q.2.2.1 q.2.2.2.1 q.2.2.2.2 ∧ OfOk q.1 ∧ q.1.S.length ≤ 4611686018427387904) (fun i hi => by
        obtain ⟨c', hc', ht'⟩ := hel i (by omega)
        rw [Yba.cells34, add_at] at hc'
        obtain ⟨_, _, hcc⟩ := World.cells?_some hc'
        obtain ⟨O, sa, sb, so, sc, g1, g2, g3⟩ := open_offer ht' (fun j hj => by rw [← hcc j hj, add_at])
        refine ⟨(O, sa, sb, so, sc), g1, g2, g3 (fun q hq => hs q ?_)⟩
        rw [Prod.mk.injEq] at hx
        rw [hx.1]
        simp only [DataW.weights, Yba.underlying23, List.mem_cons, List.mem_append]
        exact Or.inr (Or.inl (weightsAll_mem (List.mem_map.2 ⟨i, List.mem_range.2 hi, rfl⟩) q hq)))
      exact ⟨_, b, o, n, c, fun i => (f i).1, fun i => (f i).2.1, fun i => (f i).2.2.1, fun i => (f i).2.2.2.1, fun i => (f i).2.2.2.2, rfl, ⟨fun _ => rfl, fun i hi => (hf' i hi).1, fun i hi => (hf' i hi).2.1, fun i hi => (hf' i hi).2.2⟩⟩
    · obtain rfl : n = 0 := by omega
      exact ⟨_, _, _, 0, c, _, _, _, _, _, rfl, nothing (some x)⟩
end
end Go.Proofs.Ybulkekq
