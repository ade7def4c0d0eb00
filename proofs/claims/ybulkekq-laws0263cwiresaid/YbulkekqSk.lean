/-
  zzs0263cbuild: the signatures' row while it is filled. No walk.
-/
import Derived.Test.YbulkekqBuildInv
namespace Go.Proofs.Ybulkekq
open Go.RowKit
open Pk

/-- j signatures are copied into the row behind wE. -/
structure Sk (wE wr : World) (S : List SigD) (j : Nat) : Prop where
  below : Below wE.heap.size wE wr
  row : ∃ f, wr.rowIs wE.heap.size 55 (S.length * 65) f
  done : ∀ j' s, j' < j → S[j']? = some s → SgAt wr wE.heap.size (0 + 65 * j') s

section
variable {wE wr : World} {S : List SigD} {j : Nat}

theorem Sk.start (wE : World) (S : List SigD) (A : Array Value) (hA : A.size = S.length * 65) : Sk wE (wE.alloc (.cells A 55)) S 0 := by
  have h1 := World.rowIs_alloc wE A 55 (fun i => (A[i]?).getD (.bool false)) (fun i hi => by rw [Array.getElem?_eq_getElem hi]; rfl)
  rw [hA] at h1
  exact ⟨(Below.refl _ _).alloc (Nat.le_refl _) _, ⟨_, h1⟩, fun j' s h => absurd h (Nat.not_lt_zero _)⟩

theorem Sk.cell (h : Sk wE wr S j) {x : Nat} (hx : x < S.length * 65) : ∃ v, wr.cell? ⟨wE.heap.size, x, none⟩ = some v := by
  obtain ⟨f, hf⟩ := h.row
  exact ⟨_, hf.cell hx⟩

theorem Sk.frozen (h : Sk wE wr S j) (x : Nat) : wr.frozen? ⟨wE.heap.size, x, none⟩ = false := by
  obtain ⟨f, hf⟩ := h.row
  exact hf.frozen x

theorem Sk.lt (h : Sk wE wr S j) : wE.heap.size < wr.heap.size := by
  obtain ⟨f, hf⟩ := h.row
  exact hf.lt

theorem Sk.there1 (h : Sk wE wr S j) (hj : j < S.length) (v : Value) : (wr.setCell ⟨wE.heap.size, j * 65, none⟩ v).there wE.heap.size (j * 65 + 1) 64 := fun i hi => by
  obtain ⟨f, hf⟩ := h.row
  have hm : (j + 1) * 65 ≤ S.length * 65 := Nat.mul_le_mul_right _ hj
  have h1 := hf.set (j * 65) v
  rw [h1.cell (by omega)]
  exact ⟨rfl, h1.frozen _⟩

/-- The next one. -/
theorem Sk.next (h : Sk wE wr S j) {s : SigD} (hs : S[j]? = some s) (hok : ∀ x ∈ S, x.sig.length = 64) :
    Sk wE ((wr.setCell ⟨wE.heap.size, j * 65, none⟩ (.int .i64 s.signer)).setCells wE.heap.size (j * 65 + 1) (s.sig.map (Value.int .u8))) S (j + 1) := by
  obtain ⟨f, hf⟩ := h.row
  obtain ⟨hlt, _⟩ := List.getElem?_eq_some_iff.1 hs
  have hl : s.sig.length = 64 := hok s (List.mem_of_getElem? hs)
  have hm : (j + 1) * 65 ≤ S.length * 65 := Nat.mul_le_mul_right _ hlt
  have hrow := rowIs_setCells (s.sig.map (Value.int .u8)) (j * 65 + 1) _ _ (hf.set (j * 65) (.int .i64 s.signer))
  obtain ⟨h1, h2, h3, h4, h5⟩ := heap_setCells wE.heap.size (s.sig.map (Value.int .u8)) (j * 65 + 1) (wr.setCell ⟨wE.heap.size, j * 65, none⟩ (.int .i64 s.signer))
  rw [List.length_map, hl] at hrow
  refine ⟨(h.below.setCell (Nat.le_refl _) _).trans ⟨h2, h3, h4, Nat.le_of_eq h1.symm, fun b hb => h5 b (by omega)⟩, ⟨_, hrow⟩, fun j' s' hj' hs' => ?_⟩
  by_cases e : j' = j
  · subst e
    rw [hs] at hs'
    simp only [Option.some.injEq] at hs'
    subst hs'
    rw [show 0 + 65 * j' = j' * 65 by omega]
    refine ⟨?_, fun i v hv => ?_⟩
    · rw [hrow.cell (by omega), if_neg (by omega), if_pos rfl]
    · have hi := (List.getElem?_eq_some_iff.1 hv).1
      rw [List.length_map, hl] at hi
      rw [hrow.cell (by omega), if_pos (by omega), show j' * 65 + 1 + i - (j' * 65 + 1) = i by omega]
      simp only [List.getD, hv, Option.getD_some]
  · have h0 := h.done j' s' (by omega) hs'
    have hl' : s'.sig.length = 64 := hok s' (List.mem_of_getElem? hs')
    have hm' : (j' + 1) * 65 ≤ j * 65 := Nat.mul_le_mul_right _ (by omega)
    have hc : ∀ x, x < j * 65 → ((wr.setCell ⟨wE.heap.size, j * 65, none⟩ (.int .i64 s.signer)).setCells wE.heap.size (j * 65 + 1) (s.sig.map (Value.int .u8))).cell? ⟨wE.heap.size, x, none⟩ = wr.cell? ⟨wE.heap.size, x, none⟩ := fun x hx => by
      rw [hrow.cell (by omega), if_neg (by omega), if_neg (by omega), hf.cell (by omega)]
    exact ⟨(hc _ (by omega)).trans h0.signer, h0.sig.of_cells (fun x h1 h2 => hc x (by omega))⟩

theorem Sk.sig {wE wr : World} {S : List SigD} (h : Sk wE wr S S.length) : ∀ j s, S[j]? = some s → SgAt wr wE.heap.size (0 + 65 * j) s :=
  fun j s hs => h.done j s (List.getElem?_eq_some_iff.1 hs).1 hs
end

/-- The cells of an offer that has all but its signatures. -/
structure Fl (g : Nat → Value) (O : OfD) : Prop where
  h : g 0 = .int .u64 O.H
  d : ∀ i v, (O.D.map (Value.int .u8))[i]? = some v → g (1 + i) = v
  k : g 33 = .int .u8 O.K
  v : g 34 = .int .u64 O.V
  hs : ∀ i v, (O.Hs.map (Value.int .u8))[i]? = some v → g (35 + i) = v
  bv : g 67 = .int .u64 O.BV
  pv : g 68 = .int .u64 O.PV
  bh : g 69 = .int .u64 O.BH
  vt : g 70 = .bool O.Vt

theorem Bk.offer {w wr wE : World} {F n : Nat} {O : Nat → OfD} {SB : Nat → Nat} {k : Nat} {g : Nat → Value} (h : Bk w wr F n O SB k g) (hok : ∀ i, i < n → OfOk (O i)) (hk : k < n) (hf : Fl g (O k)) (hs : Sk wE wr (O k).S (O k).S.length) (hE : F + 1 < wE.heap.size) :
    ∃ SB2 g2, Bk w (wr.setCell ⟨F, k * 72 + 71, none⟩ (.slice (some ⟨wE.heap.size, 0, none⟩) (O k).S.length (O k).S.length)) F n O SB2 (k + 1) g2 := by
  have h' := h.set (fun i hi => hok i (by omega)) hk 71 (.slice (some ⟨wE.heap.size, 0, none⟩) (O k).S.length (O k).S.length)
  have hd := (hok k hk).d
  have hh := (hok k hk).hs
  refine ⟨_, h'.next (s := wE.heap.size) ⟨?_, ?_, ?_, ?_, ?_, ?_, ?_, ?_, ?_, ?_, fun _ => rfl, ?_⟩ ⟨hE, ?_⟩⟩
  · have := h'.cell hk 0 (by decide)
    rw [if_neg (by decide), hf.h] at this; exact this
  · intro i v hv
    have hi := (List.getElem?_eq_some_iff.1 hv).1
    rw [List.length_map, hd] at hi
    have := h'.cell hk (1 + i) (by omega)
    rw [if_neg (by omega), hf.d i v hv] at this
    rw [Nat.add_assoc]; exact this
  · have := h'.cell hk 33 (by decide)
    rw [if_neg (by decide), hf.k] at this; exact this
  · have := h'.cell hk 34 (by decide)
    rw [if_neg (by decide), hf.v] at this; exact this
  · intro i v hv
    have hi := (List.getElem?_eq_some_iff.1 hv).1
    rw [List.length_map, hh] at hi
    have := h'.cell hk (35 + i) (by omega)
    rw [if_neg (by omega), hf.hs i v hv] at this
    rw [Nat.add_assoc]; exact this
  · have := h'.cell hk 67 (by decide)
    rw [if_neg (by decide), hf.bv] at this; exact this
  · have := h'.cell hk 68 (by decide)
    rw [if_neg (by decide), hf.pv] at this; exact this
  · have := h'.cell hk 69 (by decide)
    rw [if_neg (by decide), hf.bh] at this; exact this
  · have := h'.cell hk 70 (by decide)
    rw [if_neg (by decide), hf.vt] at this; exact this
  · have := h'.cell hk 71 (by decide)
    rw [if_pos rfl] at this; exact this
  · intro j s hj
    have h0 := hs.sig j s hj
    have hc : ∀ x, (wr.setCell ⟨F, k * 72 + 71, none⟩ (.slice (some ⟨wE.heap.size, 0, none⟩) (O k).S.length (O k).S.length)).cell? ⟨wE.heap.size, x, none⟩ = wr.cell? ⟨wE.heap.size, x, none⟩ := fun x =>
      World.cell?_of_block (w := wr) (Below.heap_setCell _ _ _ _ (by show wE.heap.size ≠ F; omega))
    exact ⟨(hc _).trans h0.signer, h0.sig.of_cells (fun x _ _ => hc x)⟩
  · have := hs.lt
    simpa using this
end Go.Proofs.Ybulkekq
