/-
  The plain side of LawS0251BMeet and LawS0251BInPlace: ids, lists of indices, entries.
-/
import Derived.KernelRfl
import GoSem.ClaimJoined
import Derived.Laws.Strings
namespace Go.Proofs.Ybulkeee.Pm
open Go

/-- The id of index i: one byte. -/
def idS (i : Nat) : ByteArray := (⟨#[97, 98, 99, 100, 101, 102, 103, 104, 105, 106, 107, 108, 109, 110, 111, 112]⟩ : ByteArray).extract i (i + 1)

theorem idS_all : ∀ i j : Fin 16, Op.bytesLess (idS i.val).toList (idS j.val).toList = decide (i.val < j.val) ∧ ((idS i.val).toList == (idS j.val).toList) = decide (i.val = j.val) := by decide +kernel

theorem idS_less {i j : Nat} (hi : i < 16) (hj : j < 16) : Op.bytesLess (idS i).toList (idS j).toList = decide (i < j) := (idS_all ⟨i, hi⟩ ⟨j, hj⟩).1
theorem idS_eq {i j : Nat} (hi : i < 16) (hj : j < 16) : ((idS i).toList == (idS j).toList) = decide (i = j) := (idS_all ⟨i, hi⟩ ⟨j, hj⟩).2

/-- The indices below n that b lets by. -/
def idx (b : Nat → Bool) : Nat → List Nat
  | 0 => []
  | n + 1 => if b n = true then idx b n ++ [n] else idx b n

theorem idx_mem (b : Nat → Bool) : ∀ n x, x ∈ idx b n ↔ x < n ∧ b x = true := by
  intro n
  induction n with
  | zero => intro x; simp [idx]
  | succ n ih =>
    intro x
    simp only [idx]
    split
    · rename_i h
      rw [List.mem_append, ih, List.mem_singleton]
      constructor
      · rintro (⟨h1, h2⟩ | rfl)
        · exact ⟨by omega, h2⟩
        · exact ⟨by omega, h⟩
      · rintro ⟨h1, h2⟩
        by_cases e : x = n
        · exact .inr e
        · exact .inl ⟨by omega, h2⟩
    · rename_i h
      rw [ih]
      constructor
      · rintro ⟨h1, h2⟩; exact ⟨by omega, h2⟩
      · rintro ⟨h1, h2⟩
        by_cases e : x = n
        · subst e; exact absurd h2 h
        · exact ⟨by omega, h2⟩

theorem idx_len (b : Nat → Bool) (n : Nat) : (idx b n).length ≤ n := by
  induction n with
  | zero => simp [idx]
  | succ n ih =>
    simp only [idx]
    split
    · rw [List.length_append]; simp only [List.length_cons, List.length_nil]; omega
    · omega

/-- Strictly rising. -/
def Inc (l : List Nat) : Prop := ∀ p q x y : Nat, p < q → l[p]? = some x → l[q]? = some y → x < y

theorem idx_inc (b : Nat → Bool) : ∀ n, Inc (idx b n) := by
  intro n
  induction n with
  | zero => intro p q x y _ h; simp [idx] at h
  | succ n ih =>
    simp only [idx]
    split
    · intro p q x y hpq hx hy
      by_cases hq : q < (idx b n).length
      · rw [List.getElem?_append_left hq] at hy
        rw [List.getElem?_append_left (by omega)] at hx
        exact ih p q x y hpq hx hy
      · rw [List.getElem?_append_right (by omega)] at hy
        have hy' : y = n := by
          have hlt := (List.getElem?_eq_some_iff.1 hy).1
          simp at hlt
          have e0 : q - (idx b n).length = 0 := by omega
          rw [e0] at hy
          simpa using hy.symm
        have hq' : q = (idx b n).length := by
          have hlt := (List.getElem?_eq_some_iff.1 hy).1
          simp at hlt
          omega
        rw [List.getElem?_append_left (by omega)] at hx
        have := (idx_mem b n x).1 (List.mem_of_getElem? hx)
        omega
    · exact ih

theorem idx_filter (b c : Nat → Bool) (n : Nat) : (idx b n).filter c = idx (fun i => b i && c i) n := by
  induction n with
  | zero => rfl
  | succ n ih =>
    simp only [idx]
    by_cases hb : b n = true
    · by_cases hc : c n = true
      · rw [if_pos hb, if_pos (by rw [hb, hc]; rfl), List.filter_append, ih, List.filter_cons_of_pos hc, List.filter_nil]
      · rw [if_pos hb, if_neg (by simp [hc]), List.filter_append, ih, List.filter_cons_of_neg hc, List.filter_nil, List.append_nil]
    · rw [if_neg hb, if_neg (by simp [hb]), ih]

/-- The entries' cells: key and counter. -/
def ents (k : Nat → Nat) (v : Nat → Int) : List Nat → List Value
  | [] => []
  | i :: l => .pointer (some ⟨k i, 0, none⟩) :: .int .u64 (v i) :: ents k v l

theorem ents_len (k : Nat → Nat) (v : Nat → Int) (l : List Nat) : (ents k v l).length = l.length * 2 := by
  induction l with
  | nil => rfl
  | cons i l ih => simp only [ents, List.length_cons, ih]; omega

theorem ents_app (k : Nat → Nat) (v : Nat → Int) (l m : List Nat) : ents k v (l ++ m) = ents k v l ++ ents k v m := by
  induction l with
  | nil => rfl
  | cons i l ih => simp only [List.cons_append, ents, ih]

theorem ents_get (k : Nat → Nat) (v : Nat → Int) : ∀ (l : List Nat) (p x : Nat), l[p]? = some x → (ents k v l)[p * 2]? = some (.pointer (some ⟨k x, 0, none⟩)) ∧ (ents k v l)[p * 2 + 1]? = some (.int .u64 (v x)) := by
  intro l
  induction l with
  | nil => intro p x h; simp at h
  | cons i l ih =>
    intro p x h
    cases p with
    | zero => simp at h; subst h; exact ⟨rfl, rfl⟩
    | succ p =>
      have := ih p x (by simpa using h)
      simp only [ents]
      rw [show (p + 1) * 2 = p * 2 + 1 + 1 by omega]
      simpa using this

theorem ents_congr {k k' : Nat → Nat} {v v' : Nat → Int} : ∀ {l : List Nat}, (∀ x ∈ l, k x = k' x ∧ v x = v' x) → ents k v l = ents k' v' l := by
  intro l
  induction l with
  | nil => intro _; rfl
  | cons i l ih =>
    intro h
    have h1 := h i (by simp)
    simp only [ents, h1.1, h1.2]
    rw [ih (fun x hx => h x (by simp [hx]))]

end Go.Proofs.Ybulkeee.Pm
