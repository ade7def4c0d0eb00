/-
  The plain side of the laws LawS0248AColumns and LawS0248AAligned: lists, numbers, no Go.
-/
import Derived.KernelRfl
namespace Go.Proofs.Ybulkeco.Pl

/-- The width of a cell, and whether it is written in bytes of one each. -/
def wd (z : Int) : Nat := (z % 5).toNat
def one (z : Int) : Bool := z / 5 % 2 == 0
/-- What k rounds of the innermost loop have written. -/
def segTo (z : Int) : Nat → List Int
  | 0 => []
  | k + 1 => segTo z k ++ (if one z then [97] else [195, 169])
def seg (z : Int) : List Int := segTo z (wd z)
def rowTo (zs : Nat → Int) : Nat → List Int
  | 0 => []
  | j + 1 => rowTo zs j ++ (seg (zs j) ++ [32])
def srcTo (L : Nat → Nat) (Z : Nat → Nat → Int) : Nat → List Int
  | 0 => []
  | i + 1 => srcTo L Z i ++ (rowTo (Z i) (L i) ++ [10])
def start (L : Nat → Nat) (Z : Nat → Nat → Int) (i : Nat) : Nat := (srcTo L Z i).length
/-- Where cell j of row i begins, and where its pad stands. -/
def cellAt (L : Nat → Nat) (Z : Nat → Nat → Int) (i j : Nat) : Nat := start L Z i + (rowTo (Z i) j).length
def pos (L : Nat → Nat) (Z : Nat → Nat → Int) (i j : Nat) : Nat := cellAt L Z i j + (seg (Z i j)).length

theorem wd_le (z : Int) : wd z ≤ 4 := by unfold wd; omega

theorem segTo_len (z : Int) (k : Nat) : (segTo z k).length ≤ 2 * k := by
  induction k with
  | zero => simp [segTo]
  | succ k ih =>
    simp only [segTo, List.length_append]
    split <;> simp <;> omega

theorem seg_len (z : Int) : (seg z).length ≤ 8 := by
  have := segTo_len z (wd z)
  have := wd_le z
  unfold seg
  omega

theorem rowTo_len (zs : Nat → Int) (j : Nat) : (rowTo zs j).length ≤ 9 * j := by
  induction j with
  | zero => simp [rowTo]
  | succ j ih =>
    have := seg_len (zs j)
    simp only [rowTo, List.length_append, List.length_cons, List.length_nil]
    omega

theorem srcTo_len (L : Nat → Nat) (Z : Nat → Nat → Int) (R : Nat) (hL : ∀ i, i < R → L i ≤ 1024) : ∀ i, i ≤ R → (srcTo L Z i).length ≤ 9217 * i := by
  intro i
  induction i with
  | zero => intro _; simp [srcTo]
  | succ i ih =>
    intro hi
    have h1 := ih (by omega)
    have h2 := rowTo_len (Z i) (L i)
    have h3 := hL i (by omega)
    simp only [srcTo, List.length_append, List.length_cons, List.length_nil]
    omega

theorem cellAt_succ (L : Nat → Nat) (Z : Nat → Nat → Int) (i j : Nat) : cellAt L Z i (j + 1) = pos L Z i j + 1 := by
  simp [cellAt, pos, rowTo]
  omega

theorem cellAt_zero (L : Nat → Nat) (Z : Nat → Nat → Int) (i : Nat) : cellAt L Z i 0 = start L Z i := by simp [cellAt, rowTo]

/-- The source only grows. -/
theorem srcTo_get (L : Nat → Nat) (Z : Nat → Nat → Int) (i : Nat) : ∀ R, i ≤ R → ∀ k, k < (srcTo L Z i).length → (srcTo L Z R)[k]? = (srcTo L Z i)[k]? := by
  intro R
  induction R with
  | zero => intro h k _; have : i = 0 := by omega
            subst this; rfl
  | succ R ih =>
    intro h k hk
    by_cases e : i = R + 1
    · subst e; rfl
    · have h1 := ih (by omega) k hk
      have hlen : k < (srcTo L Z R).length := by
        have : (srcTo L Z R)[k]? = some ((srcTo L Z i)[k]) := by rw [h1]; simp [hk]
        exact (List.getElem?_eq_some_iff.1 this).1
      simp only [srcTo]
      rw [List.getElem?_append_left hlen, h1]

theorem rowTo_get (zs : Nat → Int) (i : Nat) : ∀ R, i ≤ R → ∀ k, k < (rowTo zs i).length → (rowTo zs R)[k]? = (rowTo zs i)[k]? := by
  intro R
  induction R with
  | zero => intro h k _; have : i = 0 := by omega
            subst this; rfl
  | succ R ih =>
    intro h k hk
    by_cases e : i = R + 1
    · subst e; rfl
    · have h1 := ih (by omega) k hk
      have hlen : k < (rowTo zs R).length := by
        have : (rowTo zs R)[k]? = some ((rowTo zs i)[k]) := by rw [h1]; simp [hk]
        exact (List.getElem?_eq_some_iff.1 this).1
      simp only [rowTo]
      rw [List.getElem?_append_left hlen, h1]

/-- A cell's bytes stand in the source from 'cellAt' on. -/
theorem src_seg (L : Nat → Nat) (Z : Nat → Nat → Int) (R i j k : Nat) (hi : i < R) (hj : j < L i) (hk : k < (seg (Z i j)).length) :
    (srcTo L Z R)[cellAt L Z i j + k]? = (seg (Z i j))[k]? := by
  have hrow : (rowTo (Z i) (L i))[(rowTo (Z i) j).length + k]? = (seg (Z i j))[k]? := by
    rw [rowTo_get (Z i) (j + 1) (L i) (by omega) _ (by simp [rowTo]; omega)]
    simp only [rowTo]
    rw [List.getElem?_append_right (by omega)]
    simp only [Nat.add_sub_cancel_left]
    rw [List.getElem?_append_left hk]
  have hlen : (rowTo (Z i) j).length + k < (rowTo (Z i) (L i)).length := by
    have : (rowTo (Z i) (L i))[(rowTo (Z i) j).length + k]? = some ((seg (Z i j))[k]) := by rw [hrow]; simp [hk]
    exact (List.getElem?_eq_some_iff.1 this).1
  unfold cellAt start
  rw [srcTo_get L Z (i + 1) R (by omega) _ (by simp [srcTo]; omega)]
  simp only [srcTo]
  rw [Nat.add_assoc, List.getElem?_append_right (by omega)]
  simp only [Nat.add_sub_cancel_left]
  rw [List.getElem?_append_left hlen, hrow]

/-! ### Columns -/

/-- The greatest of n values from lo on. -/
def mx (f : Nat → Nat) (lo : Nat) : Nat → Nat
  | 0 => 0
  | n + 1 => max (mx f lo n) (f (lo + n))

theorem mx_ge (f : Nat → Nat) (lo n i : Nat) (h1 : lo ≤ i) (h2 : i < lo + n) : f i ≤ mx f lo n := by
  induction n with
  | zero => omega
  | succ n ih =>
    simp only [mx]
    by_cases e : i = lo + n
    · subst e; exact Nat.le_max_right _ _
    · exact Nat.le_trans (ih (by omega)) (Nat.le_max_left _ _)

theorem mx_le (f : Nat → Nat) (lo n m : Nat) (h : ∀ i, f i ≤ m) : mx f lo n ≤ m := by
  induction n with
  | zero => exact Nat.zero_le _
  | succ n ih => simp only [mx]; exact Nat.max_le.2 ⟨ih, h _⟩

/-- The first row of the run of adjacent rows that ends with i and have cell c (i itself is taken to have it). -/
def lo (L : Nat → Nat) (c : Nat) : Nat → Nat
  | 0 => 0
  | i + 1 => if c < L i then lo L c i else i + 1

/-- One past the last row of the run that begins before h, n rows being left. -/
def hiA (L : Nat → Nat) (c : Nat) : Nat → Nat → Nat
  | h, 0 => h
  | h, n + 1 => if c < L h then hiA L c (h + 1) n else h
def hi (L : Nat → Nat) (R c i : Nat) : Nat := hiA L c (i + 1) (R - (i + 1))

theorem lo_eq (L : Nat → Nat) (c s : Nat) (hs : s = 0 ∨ ¬ c < L (s - 1)) : ∀ i, s ≤ i → (∀ k, s ≤ k → k < i → c < L k) → lo L c i = s := by
  intro i
  induction i with
  | zero => intro h _; simp [lo]; omega
  | succ i ih =>
    intro h hall
    by_cases e : s = i + 1
    · subst e
      have : ¬ c < L i := by simpa using hs
      simp [lo, this]
    · have : c < L i := hall i (by omega) (by omega)
      simp only [lo, if_pos this]
      exact ih (by omega) (fun k a b => hall k a (by omega))

theorem hiA_eq (L : Nat → Nat) (c e : Nat) : ∀ n h, h ≤ e → e ≤ h + n → (∀ k, h ≤ k → k < e → c < L k) → (e = h + n ∨ ¬ c < L e) → hiA L c h n = e := by
  intro n
  induction n with
  | zero => intro h h1 h2 _ _; simp [hiA]; omega
  | succ n ih =>
    intro h h1 h2 hall hend
    by_cases eq : h = e
    · subst eq
      have : ¬ c < L h := by rcases hend with h' | h'
                             · omega
                             · exact h'
      simp [hiA, this]
    · have : c < L h := hall h (Nat.le_refl _) (by omega)
      simp only [hiA, if_pos this]
      exact ih (h + 1) (by omega) (by omega) (fun k a b => hall k (by omega) b) (by rcases hend with h' | h'
                                                                                    · exact .inl (by omega)
                                                                                    · exact .inr h')

theorem hi_eq (L : Nat → Nat) (R c e i : Nat) (hi1 : i < e) (he : e ≤ R) (hall : ∀ k, i < k → k < e → c < L k) (hend : e = R ∨ ¬ c < L e) : hi L R c i = e :=
  hiA_eq L c e _ _ (by omega) (by omega) (fun k a b => hall k (by omega) b) (by rcases hend with h | h
                                                                                · exact .inl (by omega)
                                                                                · exact .inr h)

/-- What the pad of cell c in row i comes to. -/
def wide (L : Nat → Nat) (Z : Nat → Nat → Int) (R i c : Nat) : Nat := mx (fun k => wd (Z k c)) (lo L c i) (hi L R c i - lo L c i)
def val (L : Nat → Nat) (Z : Nat → Nat → Int) (R i c : Nat) : Int := (wide L Z R i c : Int) + 1 - (wd (Z i c) : Int)

theorem wide_le (L : Nat → Nat) (Z : Nat → Nat → Int) (R i c : Nat) : wide L Z R i c ≤ 4 := mx_le _ _ _ _ (fun _ => wd_le _)

theorem lo_le (L : Nat → Nat) (c i : Nat) : lo L c i ≤ i := by
  induction i with
  | zero => simp [lo]
  | succ i ih => simp only [lo]; split <;> omega

theorem hiA_ge (L : Nat → Nat) (c : Nat) : ∀ n h, h ≤ hiA L c h n := by
  intro n
  induction n with
  | zero => intro h; simp [hiA]
  | succ n ih => intro h; simp only [hiA]; split
                 · have := ih (h + 1); omega
                 · omega

theorem wide_ge (L : Nat → Nat) (Z : Nat → Nat → Int) (R i c : Nat) : wd (Z i c) ≤ wide L Z R i c := by
  have h1 := lo_le L c i
  have h2 : i + 1 ≤ hi L R c i := hiA_ge _ _ _ _
  exact mx_ge (fun k => wd (Z k c)) _ _ i h1 (by omega)

theorem wide_next (L : Nat → Nat) (Z : Nat → Nat → Int) (R i c : Nat) (hR : i + 1 < R) (h1 : c < L i) (h2 : c < L (i + 1)) : wide L Z R (i + 1) c = wide L Z R i c := by
  unfold wide
  have e1 : lo L c (i + 1) = lo L c i := by simp [lo, h1]
  have e2 : hi L R c i = hi L R c (i + 1) := by
    unfold hi
    obtain ⟨n, hn⟩ : ∃ n, R - (i + 1) = n + 1 := ⟨R - (i + 1) - 1, by omega⟩
    rw [hn]
    simp only [hiA, if_pos h2]
    congr 1
    omega
  rw [e1, e2]

end Go.Proofs.Ybulkeco.Pl
