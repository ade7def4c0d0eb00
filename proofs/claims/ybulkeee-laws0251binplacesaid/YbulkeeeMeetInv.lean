/-
  meet: what lies in memory before it and while it runs. No walk.
-/
import Derived.Test.YbulkeeePlain
import Derived.Test.YbulkeeeSmall
import Derived.Deep.OwnRows
import Derived.Deep.AppendLies
namespace Go.Proofs.Ybulkeee
open Go.RowKit
open Pm

/-- A slice of entries in block g: the ids of l, in their order; their keys; their counters. -/
structure Ents (w : World) (g : Nat) (k : Nat → Nat) (v : Nat → Int) (l : List Nat) : Prop where
  c0 : ∀ p x, l[p]? = some x → w.cell? ⟨g, p * 2, none⟩ = some (.pointer (some ⟨k x, 0, none⟩))
  c1 : ∀ p x, l[p]? = some x → w.cell? ⟨g, p * 2 + 1, none⟩ = some (.int .u64 (v x))

/-- Keys: a block a key, one string. -/
def Keys (w : World) (k : Nat → Nat) (l : List Nat) : Prop := ∀ x, x ∈ l → w.heap[k x]? = some (.cells #[.string (idS x)] 9 (0, 0))

/-- What meet is handed. -/
structure MIn (w : World) (d c g ob : Nat) (f0 : Nat → Value) (kO kB : Nat → Nat) (vO vB : Nat → Int) (l r : List Nat) : Prop where
  own : Ents w g kO vO l
  oth : Ents w ob kB vB r
  keyO : Keys w kO l
  keyB : Keys w kB r
  ltl : ∀ x, x ∈ l → x < 16
  ltr : ∀ x, x ∈ r → x < 16
  incl : Inc l
  incr : Inc r
  dst : w.rowIs d 35 (c * 2) f0
  room : l.length ≤ c
  ne : ∀ x, r[0]? = some x → ob ≠ d

/-- q entries are kept, the cells ks; own and other as they were. -/
structure MI (w wr : World) (d c : Nat) (f0 : Nat → Value) (ks : List Value) (q : Nat) : Prop where
  grown : w.grownBy wr (some d)
  row : wr.rowIs d 35 (c * 2) (fun x => if x < q * 2 then ks.getD x (.int .u64 0) else f0 x)
  len : ks.length = q * 2

section
variable {w wr : World} {d c g ob : Nat} {f0 : Nat → Value} {kO kB : Nat → Nat} {vO vB : Nat → Int} {l r : List Nat} {ks : List Value} {q : Nat}

theorem MI.start (h : MIn w d c g ob f0 kO kB vO vB l r) : MI w w d c f0 [] 0 :=
  ⟨World.grownBy.refl _ _, h.dst.congr (fun i _ => by simp), rfl⟩

theorem MI.later {wx : World} (h : MI w wr d c f0 ks q) (hb : Below wr.heap.size wr wx) : MI w wx d c f0 ks q :=
  ⟨⟨hb.os.trans h.grown.os, hb.tape.trans h.grown.tape, hb.output.trans h.grown.output, Nat.le_trans h.grown.size hb.size, fun k hk hn => (hb.block k (Nat.lt_of_lt_of_le hk h.grown.size)).trans (h.grown.block k hk hn)⟩,
    h.row.of_block (hb.block _ h.row.lt), h.len⟩

theorem rowIs_heap {w : World} {b n : Nat} {t : TypeId} {f : Nat → Value} (h : w.rowIs b t n f) : ∃ cs, w.heap[b]? = some (.cells cs t (0, 0)) := by
  obtain ⟨cs, h1, _⟩ := h
  exact ⟨cs, h1⟩

theorem MIn.key_ne {k : Nat} {cs : Array Value} (h : MIn w d c g ob f0 kO kB vO vB l r) (hk : w.heap[k]? = some (.cells cs 9 (0, 0))) : k ≠ d := by
  rintro rfl
  obtain ⟨cs', h'⟩ := rowIs_heap h.dst
  rw [hk] at h'
  simp at h'

theorem MI.keys (h : MI w wr d c f0 ks q) (hI : MIn w d c g ob f0 kO kB vO vB l r) {k : Nat → Nat} {m : List Nat} (hk : Keys w k m) : Keys wr k m := fun x hx => by
  have h1 := hk x hx
  have hlt := (Array.getElem?_eq_some_iff.1 h1).1
  rw [h.grown.block _ hlt (by intro e; exact hI.key_ne h1 (by simpa using e))]
  exact h1

theorem MI.oth (h : MI w wr d c f0 ks q) (hI : MIn w d c g ob f0 kO kB vO vB l r) : Ents wr ob kB vB r := by
  have hne : ∀ p x, r[p]? = some x → some ob ≠ some d := fun p x hp => by
    have hlt := (List.getElem?_eq_some_iff.1 hp).1
    obtain ⟨y, hy⟩ : ∃ y, r[0]? = some y := ⟨r[0], by simp⟩
    have := hI.ne y hy
    simpa using this
  exact ⟨fun p x hp => h.grown.cell (hI.oth.c0 p x hp) (hne p x hp), fun p x hp => h.grown.cell (hI.oth.c1 p x hp) (hne p x hp)⟩

/-- own's entries that are still to be read. -/
theorem MI.own (h : MI w wr d c f0 ks q) (hI : MIn w d c g ob f0 kO kB vO vB l r) {p x : Nat} (hp : l[p]? = some x) (hq : q ≤ p) :
    wr.cell? ⟨g, p * 2, none⟩ = some (.pointer (some ⟨kO x, 0, none⟩)) ∧ wr.cell? ⟨g, p * 2 + 1, none⟩ = some (.int .u64 (vO x)) := by
  have h0 := hI.own.c0 p x hp
  have h1 := hI.own.c1 p x hp
  by_cases e : g = d
  · subst e
    have hlt : p < c := Nat.lt_of_lt_of_le (List.getElem?_eq_some_iff.1 hp).1 hI.room
    rw [hI.dst.cell (by omega)] at h0 h1
    rw [h.row.cell (by omega), h.row.cell (by omega), if_neg (by omega), if_neg (by omega)]
    exact ⟨h0, h1⟩
  · exact ⟨h.grown.cell h0 (by simpa using e), h.grown.cell h1 (by simpa using e)⟩

/-- One entry more, within the room. -/
theorem MI.store (h : MI w wr d c f0 ks q) (a b : Value) :
    MI w ((wr.setCell ⟨d, q * 2, none⟩ a).setCell ⟨d, q * 2 + 1, none⟩ b) d c f0 (ks ++ [a, b]) (q + 1) := by
  refine ⟨⟨h.grown.os, h.grown.tape, h.grown.output, by simpa using h.grown.size, fun k hk hn => ?_⟩, ((h.row.set _ _).set _ _).congr (fun x _ => ?_), by simp [h.len]; omega⟩
  · have hne : k ≠ d := by intro e; exact hn (by rw [e])
    rw [Below.heap_setCell _ _ _ _ (by exact hne), Below.heap_setCell _ _ _ _ (by exact hne)]
    exact h.grown.block k hk hn
  · have hl := h.len
    by_cases e1 : x = q * 2 + 1
    · subst e1
      rw [if_pos rfl, if_pos (by omega)]
      simp only [List.getD]
      rw [List.getElem?_append_right (by omega), hl, show q * 2 + 1 - q * 2 = 1 by omega]
      rfl
    · rw [if_neg e1]
      by_cases e0 : x = q * 2
      · subst e0
        rw [if_pos rfl, if_pos (by omega)]
        simp only [List.getD]
        rw [List.getElem?_append_right (by omega), hl, Nat.sub_self]
        rfl
      · rw [if_neg e0]
        by_cases h2 : x < q * 2
        · rw [if_pos h2, if_pos (by omega)]
          simp only [List.getD]
          rw [List.getElem?_append_left (by omega)]
        · rw [if_neg h2, if_neg (by omega)]
end
end Go.Proofs.Ybulkeee
