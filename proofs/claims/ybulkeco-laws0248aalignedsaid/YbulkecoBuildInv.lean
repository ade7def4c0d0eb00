/-
  zzs0248abuild: what lies in memory while it builds. No walk.
-/
import Derived.Test.YbulkecoReady
import Derived.Deep.AppendLies
namespace Go.Proofs.Ybulkeco
open Go.RowKit

theorem own_ne {w : World} {b1 b2 : Nat} {e1 e2 : TypeId} {s1 s2 : Nat} {v1 v2 : Value} {n1 n2 : Nat} {x1 x2 : List Value} (h1 : w.ownsRow b1 e1 s1 v1 n1 x1) (h2 : w.ownsRow b2 e2 s2 v2 n2 x2) (he : e1 ≠ e2) :
    v1.ownBlock = none ∨ v1.ownBlock ≠ v2.ownBlock := by
  rcases h1.2 with ⟨rfl, _⟩ | ⟨g, cap, cur, rfl, _, hg, _⟩
  · exact .inl rfl
  · right
    rcases h2.2 with ⟨rfl, _⟩ | ⟨g', cap', cur', rfl, _, hg', _⟩
    · simp [Value.ownBlock]
    · intro e
      simp only [Value.ownBlock, Option.some.injEq] at e
      subst e
      rw [hg] at hg'
      simp only [Option.some.injEq, Obj.cells.injEq] at hg'
      exact he hg'.2.1

def padTo (L : Nat → Nat) (Z : Nat → Nat → Int) (i : Nat) : Nat → List Value
  | 0 => []
  | j + 1 => padTo L Z i j ++ [.int .i64 (Pl.pos L Z i j), .int .i64 (Pl.pos L Z i j + 1 : Nat)]

theorem padTo_len (L : Nat → Nat) (Z : Nat → Nat → Int) (i j : Nat) : (padTo L Z i j).length = j * 2 := by
  induction j with
  | zero => rfl
  | succ j ih => simp only [padTo, List.length_append, ih, List.length_cons, List.length_nil]; omega

theorem padTo_get (L : Nat → Nat) (Z : Nat → Nat → Int) (i : Nat) : ∀ n j, j < n → (padTo L Z i n)[j * 2]? = some (.int .i64 (Pl.pos L Z i j)) ∧ (padTo L Z i n)[j * 2 + 1]? = some (.int .i64 (Pl.pos L Z i j + 1 : Nat)) := by
  intro n
  induction n with
  | zero => intro j h; omega
  | succ n ih =>
    intro j h
    have hl := padTo_len L Z i n
    simp only [padTo]
    by_cases e : j = n
    · subst e
      rw [List.getElem?_append_right (by omega), List.getElem?_append_right (by omega), hl]
      simp
    · rw [List.getElem?_append_left (by omega), List.getElem?_append_left (by omega)]
      exact ih j (by omega)

/-- The rows' own cells, k of them filled. -/
def rowCells (L : Nat → Nat) (Z : Nat → Nat → Int) (pv : Nat → Value) (k x : Nat) : Value :=
  if x / 3 < k then (if x % 3 = 0 then .int .i64 (Pl.start L Z (x / 3)) else if x % 3 = 1 then pv (x / 3) else .bool false)
  else (if x % 3 = 0 then .int .i64 0 else if x % 3 = 1 then .slice none 0 0 else .bool false)

/-- k rows are built, and j cells of row k; the source holds 'src'. -/
structure BI (w wr : World) (R : Nat) (L : Nat → Nat) (Z : Nat → Nat → Int) (k j : Nat) (src : List Int) (ao : Option Addr) (cp : Nat) (pv : Nat → Value) (pa : Option Addr) (pc : Nat) : Prop where
  below : Below w.heap.size w wr
  rows : wr.rowIs w.heap.size 72 (R * 3) (rowCells L Z pv k)
  src : wr.ownsRow (w.heap.size + 1) 5 1 (.slice ao src.length cp) src.length (src.map (Value.int .u8))
  pads : ∀ i, i < k → wr.ownsRow (w.heap.size + 1) 35 2 (pv i) (L i) (padTo L Z i (L i))
  cur : wr.ownsRow (w.heap.size + 1) 35 2 (.slice pa j pc) j (padTo L Z k j)
  far : ∀ i, i < k → (pv i).ownBlock = none ∨ (pv i).ownBlock ≠ (Value.slice pa j pc).ownBlock

section
variable {w wr : World} {R : Nat} {L : Nat → Nat} {Z : Nat → Nat → Int} {k j : Nat} {src : List Int} {ao : Option Addr} {cp : Nat} {pv : Nat → Value} {pa : Option Addr} {pc : Nat}

theorem BI.alloc (h : BI w wr R L Z k j src ao cp pv pa pc) (o : Obj) : BI w (wr.alloc o) R L Z k j src ao cp pv pa pc :=
  ⟨h.below.alloc h.below.size _, h.rows.alloc _, h.src.alloc _, fun i hi => (h.pads i hi).alloc _, h.cur.alloc _, h.far⟩

theorem own_row {w : World} {b : Nat} {e : TypeId} {s : Nat} {v : Value} {n : Nat} {xs : List Value} (h : w.ownsRow b e s v n xs) {N : Nat} (hN : N < b) : some N ≠ v.ownBlock := by
  intro e
  have := (h.lt N e.symm).1
  omega

/-- The source has grown. -/
theorem BI.srcApp (h : BI w wr R L Z k j src ao cp pv pa pc) {w1 : World} {src' : List Int} {news : List Value} {n g cap : Nat} (hs : src'.map (Value.int .u8) = src.map (Value.int .u8) ++ news) (hn : src'.length = n)
    (hown : w1.ownsRow (w.heap.size + 1) 5 1 (.slice (some ⟨g, 0, none⟩) n cap) n (src.map (Value.int .u8) ++ news)) (hgrow : wr.grownBy w1 (Value.slice ao src.length cp).ownBlock) :
    BI w w1 R L Z k j src' (some ⟨g, 0, none⟩) cap pv pa pc := by
  subst hn
  rw [← hs] at hown
  refine ⟨h.below.grown hgrow h.below.size (fun b hb => by have := (h.src.lt b hb).1; omega), h.rows.of_block (hgrow.block _ h.rows.lt (own_row h.src (Nat.lt_succ_self _))), hown,
    fun i hi => (h.pads i hi).kept hgrow (own_ne (h.pads i hi) h.src (by decide)), h.cur.kept hgrow (own_ne h.cur h.src (by decide)), h.far⟩

/-- One pad more. -/
theorem BI.padApp (h : BI w wr R L Z k j src ao cp pv pa pc) {w1 : World} {g cap H : Nat} (hH : wr.heap.size = H)
    (hown : w1.ownsRow (w.heap.size + 1) 35 2 (.slice (some ⟨g, 0, none⟩) (j + 1) cap) (j + 1) (padTo L Z k j ++ [.int .i64 (Pl.pos L Z k j), .int .i64 (Pl.pos L Z k j + 1 : Nat)])) (hgrow : wr.grownBy w1 (Value.slice pa j pc).ownBlock)
    (hat : (Value.slice pa j pc).ownBlock = some g ∨ g = H) : BI w w1 R L Z k (j + 1) src ao cp pv (some ⟨g, 0, none⟩) cap := by
  refine ⟨h.below.grown hgrow h.below.size (fun b hb => by have := (h.cur.lt b hb).1; omega), h.rows.of_block (hgrow.block _ h.rows.lt (own_row h.cur (Nat.lt_succ_self _))),
    h.src.kept hgrow (own_ne h.src h.cur (by decide)), fun i hi => (h.pads i hi).kept hgrow (h.far i hi), hown, fun i hi => ?_⟩
  rcases h.far i hi with hf | hf
  · exact .inl hf
  · cases hp : (pv i).ownBlock with
    | none => exact .inl rfl
    | some b =>
      right
      have hb := ((h.pads i hi).lt b hp).2
      show some b ≠ some g
      intro e
      simp only [Option.some.injEq] at e
      subst e
      rcases hat with ha | ha
      · exact hf (by rw [hp, ha])
      · omega

/-- The row is laid. -/
theorem BI.rowEnd (h : BI w wr R L Z k (L k) src ao cp pv pa pc) (hk : k < R) :
    BI w (((wr.setCell ⟨w.heap.size, k * 3, none⟩ (.int .i64 (Pl.start L Z k))).setCell ⟨w.heap.size, k * 3 + 1, none⟩ (.slice pa (L k) pc)).setCell ⟨w.heap.size, k * 3 + 2, none⟩ (.bool false)) R L Z (k + 1) 0 src ao cp (fun i => if i = k then .slice pa (L k) pc else pv i) none 0 := by
  have hset : ∀ {e s v n xs}, wr.ownsRow (w.heap.size + 1) e s v n xs → (((wr.setCell ⟨w.heap.size, k * 3, none⟩ (.int .i64 (Pl.start L Z k))).setCell ⟨w.heap.size, k * 3 + 1, none⟩ (.slice pa (L k) pc)).setCell ⟨w.heap.size, k * 3 + 2, none⟩ (.bool false)).ownsRow (w.heap.size + 1) e s v n xs := fun h =>
    ownsRow_setCell_below (ownsRow_setCell_below (ownsRow_setCell_below h (Nat.lt_succ_self _) _) (Nat.lt_succ_self _) _) (Nat.lt_succ_self _) _
  refine ⟨((h.below.setCell (Nat.le_refl _) _).setCell (Nat.le_refl _) _).setCell (Nat.le_refl _) _, (((h.rows.set _ _).set _ _).set _ _).congr (fun x hx => ?_), hset h.src, fun i hi => ?_, World.ownsRow_nil _ _ _ _, fun i hi => ?_⟩
  · unfold rowCells
    by_cases e2 : x = k * 3 + 2
    · subst e2
      rw [if_pos rfl, show (k * 3 + 2) / 3 = k by omega, show (k * 3 + 2) % 3 = 2 by omega]
      simp
    · rw [if_neg e2]
      by_cases e1 : x = k * 3 + 1
      · subst e1
        rw [if_pos rfl, show (k * 3 + 1) / 3 = k by omega, show (k * 3 + 1) % 3 = 1 by omega]
        simp
      · rw [if_neg e1]
        by_cases e0 : x = k * 3
        · subst e0
          rw [if_pos rfl, show (k * 3) / 3 = k by omega, show (k * 3) % 3 = 0 by omega]
          simp
        · rw [if_neg e0]
          have hne : ¬ x / 3 = k := by omega
          by_cases hlt : x / 3 < k
          · have hlt' : x / 3 < k + 1 := by omega
            simp only [if_pos hlt, if_pos hlt', if_neg hne]
          · have hlt' : ¬ x / 3 < k + 1 := by omega
            simp only [if_neg hlt, if_neg hlt']
  · by_cases e : i = k
    · subst e
      simp only [if_true]
      exact hset h.cur
    · simp only [if_neg e]
      exact hset (h.pads i (by omega))
  · have hv : (Value.slice none 0 0).ownBlock = none := rfl
    rw [hv]
    cases (if i = k then Value.slice pa (L k) pc else pv i).ownBlock <;> simp

end
end Go.Proofs.Ybulkeco
