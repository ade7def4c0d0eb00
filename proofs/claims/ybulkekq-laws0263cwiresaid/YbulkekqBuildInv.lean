/-
  zzs0263cbuild: what lies in memory while it builds. No walk.
-/
import Derived.Test.YbulkekqGuard
namespace Go.Proofs.Ybulkekq
open Go.RowKit
open Pk

theorem rowIs_setCells {b : Nat} {t : TypeId} {n : Nat} : ∀ (vs : List Value) (o : Nat) (w : World) (f : Nat → Value), w.rowIs b t n f → (w.setCells b o vs).rowIs b t n (fun x => if o ≤ x ∧ x < o + vs.length then vs.getD (x - o) (.bool false) else f x)
  | [], o, w, f, h => h.congr (fun x _ => by rw [if_neg (by simp)])
  | v :: vs, o, w, f, h => by
    refine (rowIs_setCells vs (o + 1) (w.setCell ⟨b, o, none⟩ v) _ (h.set o v)).congr (fun x _ => ?_)
    by_cases e : x = o
    · subst e
      rw [if_neg (by omega), if_pos rfl, if_pos (by simp), Nat.sub_self]
      rfl
    · by_cases h2 : o + 1 ≤ x ∧ x < o + 1 + vs.length
      · rw [if_pos h2, if_pos (by simp only [List.length_cons]; omega), show x - o = (x - (o + 1)) + 1 by omega]
        rfl
      · rw [if_neg h2, if_neg e, if_neg (by simp only [List.length_cons]; omega)]

theorem heap_setCells (b : Nat) : ∀ (vs : List Value) (o : Nat) (w : World), (w.setCells b o vs).heap.size = w.heap.size ∧ (w.setCells b o vs).os = w.os ∧ (w.setCells b o vs).tape = w.tape ∧ (w.setCells b o vs).output = w.output ∧ ∀ k, k ≠ b → (w.setCells b o vs).heap[k]? = w.heap[k]?
  | [], _, _ => ⟨rfl, rfl, rfl, rfl, fun _ _ => rfl⟩
  | v :: vs, o, w => by
    obtain ⟨h1, h2, h3, h4, h5⟩ := heap_setCells b vs (o + 1) (w.setCell ⟨b, o, none⟩ v)
    refine ⟨h1.trans (by simp), h2, h3, h4, fun k hk => (h5 k hk).trans (Below.heap_setCell _ _ _ _ (by exact hk))⟩

/-- The cells of the element at k, as they stand. -/
structure Bk (w wr : World) (F n : Nat) (O : Nat → OfD) (SB : Nat → Nat) (k : Nat) (g : Nat → Value) : Prop where
  below : Below w.heap.size w wr
  hF : w.heap.size ≤ F
  m : wr.cell? ⟨F + 1, 0, none⟩ = some (.slice (some ⟨F, 0, none⟩) n n)
  row : ∃ f, wr.rowIs F 54 (n * 72) f ∧ ∀ c, c < 72 → f (k * 72 + c) = g c
  done : ∀ i, i < k → OfAt wr F (i * 72) (O i) (some ⟨SB i, 0, none⟩) (SB i) 0 (O i).S.length
  sb : ∀ i, i < k → F + 1 < SB i ∧ SB i < wr.heap.size
  mlt : F + 1 < wr.heap.size

theorem By.of_cells {w w' : World} {b o : Nat} {Y : List Int} (h : By w b o Y) (hc : ∀ x, o ≤ x → x < o + Y.length → w'.cell? ⟨b, x, none⟩ = w.cell? ⟨b, x, none⟩) : By w' b o Y := fun j v hv => by
  have hj := (List.getElem?_eq_some_iff.1 hv).1
  rw [List.length_map] at hj
  rw [hc (o + j) (by omega) (by omega)]
  exact h j v hv

theorem OfAt.of_cells {w w' : World} {b o : Nat} {O : OfD} {sa : Option Addr} {sb so sc : Nat} (h : OfAt w b o O sa sb so sc) (hk : OfOk O) (hc : ∀ x, o ≤ x → x < o + 72 → w'.cell? ⟨b, x, none⟩ = w.cell? ⟨b, x, none⟩) (hs : ∀ x, w'.cell? ⟨sb, x, none⟩ = w.cell? ⟨sb, x, none⟩) : OfAt w' b o O sa sb so sc := by
  have hd := hk.d
  have hh := hk.hs
  refine ⟨(hc _ (by omega) (by omega)).trans h.h, h.d.of_cells (fun x h1 h2 => hc x (by omega) (by omega)), (hc _ (by omega) (by omega)).trans h.k, (hc _ (by omega) (by omega)).trans h.v, h.hs.of_cells (fun x h1 h2 => hc x (by omega) (by omega)), (hc _ (by omega) (by omega)).trans h.bv, (hc _ (by omega) (by omega)).trans h.pv, (hc _ (by omega) (by omega)).trans h.bh, (hc _ (by omega) (by omega)).trans h.vt, (hc _ (by omega) (by omega)).trans h.sl, h.sa, fun j s hj => ?_⟩
  have := h.sg j s hj
  exact ⟨(hs _).trans this.signer, this.sig.of_cells (fun x _ _ => hs x)⟩

section
variable {w wr : World} {F n : Nat} {O : Nat → OfD} {SB : Nat → Nat} {k : Nat} {g : Nat → Value}

/-- Cells c .. of the element are stored. -/
theorem Bk.sets (h : Bk w wr F n O SB k g) (hok : ∀ i, i < k → OfOk (O i)) (hk : k < n) (c : Nat) (vs : List Value) :
    Bk w (wr.setCells F (k * 72 + c) vs) F n O SB k (fun x => if c ≤ x ∧ x < c + vs.length then vs.getD (x - c) (.bool false) else g x) := by
  obtain ⟨f, hf, hg⟩ := h.row
  obtain ⟨h1, h2, h3, h4, h5⟩ := heap_setCells F vs (k * 72 + c) wr
  have hrow := rowIs_setCells vs (k * 72 + c) wr f hf
  refine ⟨h.below.trans ⟨h2, h3, h4, Nat.le_of_eq h1.symm, fun b hb => h5 b (by have := h.hF; omega)⟩, h.hF, by rw [World.cell?_of_block (w := wr) (h5 (F + 1) (by omega))]; exact h.m, ⟨_, hrow, fun x hx => ?_⟩, fun i hi => (h.done i hi).of_cells (hok i hi) (fun x hx1 hx2 => ?_) (fun x => World.cell?_of_block (w := wr) (h5 _ (by have := (h.sb i hi).1; show SB i ≠ F; omega))), fun i hi => by rw [h1]; exact h.sb i hi, by rw [h1]; exact h.mlt⟩
  · by_cases e : c ≤ x ∧ x < c + vs.length
    · rw [if_pos (by omega), if_pos e, show k * 72 + x - (k * 72 + c) = x - c by omega]
    · rw [if_neg (by omega), if_neg e, hg x hx]
  · have hlt : x < n * 72 := by
      have : (i + 1) * 72 ≤ n * 72 := Nat.mul_le_mul_right _ (by omega)
      omega
    have hxk : x < k * 72 := by
      have : (i + 1) * 72 ≤ k * 72 := Nat.mul_le_mul_right _ (by omega)
      omega
    rw [hrow.cell hlt, if_neg (by omega), hf.cell hlt]

theorem Bk.set (h : Bk w wr F n O SB k g) (hok : ∀ i, i < k → OfOk (O i)) (hk : k < n) (c : Nat) (v : Value) :
    Bk w (wr.setCell ⟨F, k * 72 + c, none⟩ v) F n O SB k (fun x => if x = c then v else g x) := by
  have h1 := h.sets hok hk c [v]
  obtain ⟨f, hf, hg⟩ := h1.row
  refine ⟨h1.below, h1.hF, h1.m, ⟨f, hf, fun x hx => ?_⟩, h1.done, h1.sb, h1.mlt⟩
  rw [hg x hx]
  by_cases e : x = c
  · subst e; rw [if_pos (by simp), if_pos rfl, Nat.sub_self]; rfl
  · rw [if_neg (by simp only [List.length_cons, List.length_nil]; omega), if_neg e]

theorem Bk.later (h : Bk w wr F n O SB k g) {w2 : World} (hb : Below wr.heap.size wr w2) : Bk w w2 F n O SB k g := by
  obtain ⟨f, hf, hg⟩ := h.row
  refine ⟨h.below.trans (hb.mono h.below.size), h.hF, cell_later hb h.m, ⟨f, hf.of_block (hb.block _ hf.lt), hg⟩, fun i hi => (h.done i hi).later hb (by have := h.mlt; omega) (fun _ => (h.sb i hi).2), fun i hi => ⟨(h.sb i hi).1, Nat.lt_of_lt_of_le (h.sb i hi).2 hb.size⟩, Nat.lt_of_lt_of_le h.mlt hb.size⟩

theorem Bk.cell (h : Bk w wr F n O SB k g) (hk : k < n) (c : Nat) (hc : c < 72) : wr.cell? ⟨F, k * 72 + c, none⟩ = some (g c) := by
  obtain ⟨f, hf, hg⟩ := h.row
  have : (k + 1) * 72 ≤ n * 72 := Nat.mul_le_mul_right _ (by omega)
  rw [hf.cell (by omega), hg c hc]

theorem Bk.frozen (h : Bk w wr F n O SB k g) (x : Nat) : wr.frozen? ⟨F, x, none⟩ = false := by
  obtain ⟨f, hf, _⟩ := h.row
  exact hf.frozen x

theorem Bk.there (h : Bk w wr F n O SB k g) (hk : k < n) (c l : Nat) (hc : c + l ≤ 72) : wr.there F (k * 72 + c) l := fun j hj => by
  rw [show k * 72 + c + j = k * 72 + (c + j) by omega, h.cell hk (c + j) (by omega)]
  exact ⟨rfl, h.frozen _⟩

theorem Bk.start (w : World) (n : Nat) (O : Nat → OfD) (A : Array Value) (hA : A.size = n * 72) : ∃ g, Bk w ((w.alloc (.cells A 54)).alloc (.cells #[.slice (some ⟨w.heap.size, 0, none⟩) n n] 41)) w.heap.size n O (fun _ => 0) 0 g := by
  have h1 := World.rowIs_alloc w A 54 (fun i => (A[i]?).getD (.bool false)) (fun i hi => by rw [Array.getElem?_eq_getElem hi]; rfl)
  rw [hA] at h1
  refine ⟨_, ((Below.refl _ _).alloc (Nat.le_refl _) _).alloc (by simp) _, Nat.le_refl _, ?_, ⟨_, h1.alloc _, fun c _ => rfl⟩, fun i hi => absurd hi (Nat.not_lt_zero _), fun i hi => absurd hi (Nat.not_lt_zero _), by simp⟩
  rw [World.cell?_alloc_at _ _ _ _ (by simp)]
  rfl

theorem Bk.next (h : Bk w wr F n O SB k g) {s : Nat} (hof : OfAt wr F (k * 72) (O k) (some ⟨s, 0, none⟩) s 0 (O k).S.length) (hs : F + 1 < s ∧ s < wr.heap.size) : ∃ g', Bk w wr F n O (fun i => if i = k then s else SB i) (k + 1) g' := by
  obtain ⟨f, hf, _⟩ := h.row
  refine ⟨fun c => f ((k + 1) * 72 + c), h.below, h.hF, h.m, ⟨f, hf, fun _ _ => rfl⟩, fun i hi => ?_, fun i hi => ?_, h.mlt⟩
  · by_cases e : i = k
    · subst e; simp only [if_true]; exact hof
    · simp only [if_neg e]; exact h.done i (by omega)
  · by_cases e : i = k
    · subst e; simp only [if_true]; exact hs
    · simp only [if_neg e]; exact h.sb i (by omega)

theorem Inp.lt {a : Option Addr} {b o : Nat} {SA : Nat → Option Addr} {SB SO SC : Nat → Nat} (h : Inp w a b o n O SA SB SO SC) (hk : k < n) : b < w.heap.size ∧ (0 < (O k).S.length → SB k < w.heap.size) := by
  have h1 := h.of_ k hk
  refine ⟨World.block_lt_of_cell? _ _ h1.h, fun hs => ?_⟩
  obtain ⟨s, hs'⟩ : ∃ s, (O k).S[0]? = some s := ⟨(O k).S[0], by simp⟩
  exact World.block_lt_of_cell? _ _ (h1.sg 0 s hs').signer

/-- The input's offer, in a later world. -/
theorem Bk.inp {a : Option Addr} {b o : Nat} {SA : Nat → Option Addr} {SB' SO SC : Nat → Nat} (h : Bk w wr F n O SB k g) (hI : Inp w a b o n O SA SB' SO SC) (hk : k < n) : OfAt wr b (o + k * 72) (O k) (SA k) (SB' k) (SO k) (SC k) :=
  (hI.of_ k hk).later h.below (hI.lt hk).1 (hI.lt hk).2
end
end Go.Proofs.Ybulkekq
