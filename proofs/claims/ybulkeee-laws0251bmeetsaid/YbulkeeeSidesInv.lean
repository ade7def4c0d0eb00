/-
  zzs0251bsides: what lies in memory while it builds. No walk.
-/
import Derived.Test.YbulkeeeMeetInv
namespace Go.Proofs.Ybulkeee
open Go.RowKit
open Pm

/-- Bit k of a mask, as the walk spells it. -/
def bt (m : Int) (k : Nat) : Bool := bits BinOp.and IntKind.u16 (m / 2 ^ k) 1 == 1

/-- The cell of a key in the array of keys. -/
def kv (b : Nat → Bool) (k : Nat → Nat) (n i : Nat) : Value := if i < n ∧ b i = true then .pointer (some ⟨k i, 0, none⟩) else .pointer none

theorem own_ne {w : World} {b1 b2 : Nat} {e1 e2 : TypeId} {s1 s2 : Nat} {v1 v2 : Value} {n1 n2 : Nat} {x1 x2 : List Value} (h1 : w.ownsRow b1 e1 s1 v1 n1 x1) (h2 : w.ownsRow b2 e2 s2 v2 n2 x2) (he : e1 ≠ e2) :
    v1.ownBlock = none ∨ v1.ownBlock ≠ v2.ownBlock := by
  rcases h1.2 with ⟨rfl, _⟩ | ⟨g, cap, cur, rfl, _, hg, _⟩
  · exact .inl rfl
  · right
    rcases h2.2 with ⟨rfl, _⟩ | ⟨g', cap', cur', rfl, _, hg', _⟩
    · simp [Value.ownBlock]
    · intro e
      simp only [Value.ownBlock, Option.some.injEq] at e
      subst e
      rw [hg] at hg'
      simp only [Option.some.injEq, Obj.cells.injEq] at hg'
      exact he hg'.2.1

theorem own_row {w : World} {b : Nat} {e : TypeId} {s : Nat} {v : Value} {n : Nat} {xs : List Value} (h : w.ownsRow b e s v n xs) {N : Nat} (hN : N < b) : some N ≠ v.ownBlock := by
  intro e
  have := (h.lt N e.symm).1
  omega

/-- Keys stay behind an append onto a row of entries. -/
theorem keys_grown {w w' : World} {b : Nat} {v : Value} {n : Nat} {xs : List Value} {k : Nat → Nat} {l : List Nat} (h : Keys w k l) (ho : w.ownsRow b 35 2 v n xs) (hg : w.grownBy w' v.ownBlock) : Keys w' k l := fun x hx => by
  have h1 := h x hx
  rw [hg.block _ (Array.getElem?_eq_some_iff.1 h1).1 (fun e => ?_)]
  · exact h1
  · rcases ho.2 with ⟨rfl, _⟩ | ⟨g, cap, cur, rfl, _, hg', _⟩
    · simp [Value.ownBlock] at e
    · simp only [Value.ownBlock, Option.some.injEq] at e
      rw [e, hg'] at h1
      simp at h1

theorem keys_below {w w' : World} {k : Nat → Nat} {l : List Nat} (h : Keys w k l) (hb : Below w.heap.size w w') : Keys w' k l := fun x hx => by
  have h1 := h x hx
  rw [hb.block _ (Array.getElem?_eq_some_iff.1 h1).1]
  exact h1

theorem heap_new_at {w : World} {n : Nat} (h : w.heap.size = n) (o : Obj) : (w.alloc o).heap[n]? = some o := by subst h; exact heap_alloc_new _ _

/-- k rounds of the first loop. -/
structure S1 (w wr : World) (bO : Nat → Bool) (vO : Nat → Int) (k : Nat) (ao : Option Addr) (cp : Nat) (kO : Nat → Nat) : Prop where
  below : Below w.heap.size w wr
  ret : wr.rowIs w.heap.size 26 16 (fun _ => .pointer none)
  arr : wr.rowIs (w.heap.size + 1) 26 16 (kv bO kO k)
  own : wr.ownsRow (w.heap.size + 2) 35 2 (.slice ao (idx bO k).length cp) (idx bO k).length (ents kO vO (idx bO k))
  keys : Keys wr kO (idx bO k)

section
variable {w wr : World} {bO : Nat → Bool} {vO : Nat → Int} {k : Nat} {ao : Option Addr} {cp : Nat} {kO : Nat → Nat}

theorem S1.skip (h : S1 w wr bO vO k ao cp kO) (hb : bO k = false) : S1 w wr bO vO (k + 1) ao cp kO := by
  have e : idx bO (k + 1) = idx bO k := by simp [idx, hb]
  refine ⟨h.below, h.ret, h.arr.congr (fun i _ => ?_), by rw [e]; exact h.own, by rw [e]; exact h.keys⟩
  unfold kv
  by_cases e2 : i = k
  · subst e2
    rw [if_neg (by omega), if_neg (by rw [hb]; simp)]
  · by_cases h2 : i < k ∧ bO i = true
    · rw [if_pos h2, if_pos ⟨by omega, h2.2⟩]
    · rw [if_neg h2, if_neg (fun h3 => h2 ⟨by omega, h3.2⟩)]

/-- A key is laid, and its pointer. -/
theorem S1.key (h : S1 w wr bO vO k ao cp kO) (hb : bO k = true) (hk : k < 16) :
    Below w.heap.size w ((wr.setCell ⟨w.heap.size + 1, k, none⟩ (.pointer (some ⟨wr.heap.size, 0, none⟩))).alloc (.cells #[.string (idS k)] 9)) ∧
    ((wr.setCell ⟨w.heap.size + 1, k, none⟩ (.pointer (some ⟨wr.heap.size, 0, none⟩))).alloc (.cells #[.string (idS k)] 9)).rowIs w.heap.size 26 16 (fun _ => .pointer none) ∧
    ((wr.setCell ⟨w.heap.size + 1, k, none⟩ (.pointer (some ⟨wr.heap.size, 0, none⟩))).alloc (.cells #[.string (idS k)] 9)).rowIs (w.heap.size + 1) 26 16 (kv bO (fun i => if i = k then wr.heap.size else kO i) (k + 1)) ∧
    ((wr.setCell ⟨w.heap.size + 1, k, none⟩ (.pointer (some ⟨wr.heap.size, 0, none⟩))).alloc (.cells #[.string (idS k)] 9)).ownsRow (w.heap.size + 2) 35 2 (.slice ao (idx bO k).length cp) (idx bO k).length (ents (fun i => if i = k then wr.heap.size else kO i) vO (idx bO k)) ∧
    Keys ((wr.setCell ⟨w.heap.size + 1, k, none⟩ (.pointer (some ⟨wr.heap.size, 0, none⟩))).alloc (.cells #[.string (idS k)] 9)) (fun i => if i = k then wr.heap.size else kO i) (idx bO (k + 1)) := by
  have hne : ∀ x ∈ idx bO k, x ≠ k := fun x hx => by have := ((idx_mem bO k x).1 hx).1; omega
  have hsz : (wr.setCell ⟨w.heap.size + 1, k, none⟩ (.pointer (some ⟨wr.heap.size, 0, none⟩))).heap.size = wr.heap.size := by simp
  refine ⟨(h.below.setCell (by show w.heap.size ≤ w.heap.size + 1; omega) _).alloc (by rw [hsz]; exact h.below.size) _, (h.ret.setOther (by show w.heap.size ≠ w.heap.size + 1; omega) _).alloc _, ((h.arr.set k _).alloc _).congr (fun i _ => ?_), ?_, fun x hx => ?_⟩
  · unfold kv
    by_cases e : i = k
    · subst e; simp [hb]
    · rw [if_neg e]
      by_cases h2 : i < k ∧ bO i = true
      · rw [if_pos h2, if_pos ⟨by omega, h2.2⟩]
        simp only [if_neg e]
      · rw [if_neg h2, if_neg (fun h3 => h2 ⟨by omega, h3.2⟩)]
  · rw [ents_congr (k' := kO) (v' := vO) (fun x hx => ⟨by simp [hne x hx], rfl⟩)]
    exact (ownsRow_setCell_below h.own (by show w.heap.size + 1 < w.heap.size + 2; omega) _).alloc _
  · simp only [idx, hb, if_true] at hx
    by_cases e : x = k
    · subst e
      simp only [if_true]
      exact heap_new_at hsz _
    · simp only [if_neg e]
      have hx' : x ∈ idx bO k := by
        rcases List.mem_append.1 hx with h1 | h1
        · exact h1
        · exact absurd (by simpa using h1) e
      have h1 := h.keys x hx'
      have hlt := (Array.getElem?_eq_some_iff.1 h1).1
      have hnk : kO x ≠ w.heap.size + 1 := by
        intro e2
        obtain ⟨cs, hcs⟩ := rowIs_heap h.arr
        rw [e2, hcs] at h1
        simp at h1
      rw [Below.heap_alloc _ _ _ (by rw [hsz]; exact hlt), Below.heap_setCell _ _ _ _ (by exact hnk)]
      exact h1

theorem S1.alloc (h : S1 w wr bO vO k ao cp kO) (o : Obj) : S1 w (wr.alloc o) bO vO k ao cp kO :=
  ⟨h.below.alloc h.below.size o, h.ret.alloc o, h.arr.alloc o, h.own.alloc o, keys_below h.keys ((Below.refl _ _).alloc (Nat.le_refl _) _)⟩
end

/-- The first loop is done; k rounds of the second. -/
structure S2 (w wr : World) (bO bB : Nat → Bool) (vO vB : Nat → Int) (k : Nat) (ao xa : Option Addr) (cp xc : Nat) (kO kB : Nat → Nat) : Prop where
  s1 : S1 w wr bO vO 16 ao cp kO
  oth : wr.ownsRow (w.heap.size + 2) 35 2 (.slice xa (idx bB k).length xc) (idx bB k).length (ents kB vB (idx bB k))
  keys : Keys wr kB (idx bB k)
  far : (Value.slice ao (idx bO 16).length cp).ownBlock = none ∨ (Value.slice ao (idx bO 16).length cp).ownBlock ≠ (Value.slice xa (idx bB k).length xc).ownBlock

section
variable {w wr : World} {bO bB : Nat → Bool} {vO vB : Nat → Int} {k : Nat} {ao xa : Option Addr} {cp xc : Nat} {kO kB : Nat → Nat}

theorem S2.skip (h : S2 w wr bO bB vO vB k ao xa cp xc kO kB) (hb : bB k = false) : S2 w wr bO bB vO vB (k + 1) ao xa cp xc kO kB := by
  have e : idx bB (k + 1) = idx bB k := by simp [idx, hb]
  exact ⟨h.s1, by rw [e]; exact h.oth, by rw [e]; exact h.keys, by rw [e]; exact h.far⟩

theorem S2.alloc (h : S2 w wr bO bB vO vB k ao xa cp xc kO kB) (o : Obj) : S2 w (wr.alloc o) bO bB vO vB k ao xa cp xc kO kB :=
  ⟨h.s1.alloc o, h.oth.alloc o, keys_below h.keys ((Below.refl _ _).alloc (Nat.le_refl _) _), h.far⟩

/-- One entry more in other; its key K is there. -/
theorem S2.app (h : S2 w wr bO bB vO vB k ao xa cp xc kO kB) (hb : bB k = true) {w2 : World} {K gg xc2 H : Nat} {o : Obj} (hK : wr.heap[K]? = some (.cells #[.string (idS k)] 9 (0, 0))) (hgrow : (wr.alloc o).grownBy w2 (Value.slice xa (idx bB k).length xc).ownBlock)
    (hown2 : w2.ownsRow (w.heap.size + 2) 35 2 (.slice (some ⟨gg, 0, none⟩) ((idx bB k).length + 1) xc2) ((idx bB k).length + 1) (ents kB vB (idx bB k) ++ [.pointer (some ⟨K, 0, none⟩), .int .u64 (vB k)]))
    (hH : (wr.alloc o).heap.size = H) (hat : (Value.slice xa (idx bB k).length xc).ownBlock = some gg ∨ gg = H) :
    S2 w w2 bO bB vO vB (k + 1) ao (some ⟨gg, 0, none⟩) cp xc2 kO (fun i => if i = k then K else kB i) := by
  have hl : idx bB (k + 1) = idx bB k ++ [k] := by simp [idx, hb]
  have hne : ∀ x ∈ idx bB k, x ≠ k := fun x hx => by have := ((idx_mem bB k x).1 hx).1; omega
  have h' := h.alloc o
  have hg0 := h'.oth
  have hkeysO : Keys w2 kO (idx bO 16) := keys_grown h'.s1.keys hg0 hgrow
  have hkeysB : Keys w2 kB (idx bB k) := keys_grown h'.keys hg0 hgrow
  have hkK : Keys w2 (fun _ => K) [k] := keys_grown (keys_below (fun x hx => by simp at hx; subst hx; exact hK) ((Below.refl _ _).alloc (Nat.le_refl _) _)) hg0 hgrow
  refine ⟨⟨h'.s1.below.grown hgrow h'.s1.below.size (fun g hg => by have := (hg0.lt g hg).1; omega), h'.s1.ret.of_block (hgrow.block _ h'.s1.ret.lt (own_row hg0 (by omega))), h'.s1.arr.of_block (hgrow.block _ h'.s1.arr.lt (own_row hg0 (by omega))), h'.s1.own.kept hgrow h'.far, hkeysO⟩, ?_, fun x hx => ?_, ?_⟩
  · rw [hl, ents_app, List.length_append, ents_congr (k := fun i => if i = k then K else kB i) (k' := kB) (v' := vB) (fun x hx => ⟨by simp [hne x hx], rfl⟩)]
    simpa [ents] using hown2
  · rw [hl] at hx
    by_cases e : x = k
    · subst e
      simp only [if_true]
      exact hkK x (by simp)
    · simp only [if_neg e]
      rcases List.mem_append.1 hx with h1 | h1
      · exact hkeysB x h1
      · exact absurd (by simpa using h1) e
  · rcases h'.far with hf | hf
    · exact .inl hf
    · cases hp : (Value.slice ao (idx bO 16).length cp).ownBlock with
      | none => exact .inl rfl
      | some b =>
        right
        have hlt := (h'.s1.own.lt b hp).2
        show some b ≠ some gg
        intro e
        simp only [Option.some.injEq] at e
        subst e
        rcases hat with ha | ha
        · exact hf (by rw [hp, ha])
        · omega
end
end Go.Proofs.Ybulkeee
