/-
  What padWidths is handed (Ready) and what it makes (Main): worlds, no walk.
-/
import Derived.Test.YbulkecoRune
import Derived.Deep.OwnRows
namespace Go.Proofs.Ybulkeco
open Go.RowKit

def segB (z : Int) : ByteArray := ⟨((Pl.seg z).map fun n => UInt8.ofNat n.toNat).toArray⟩

def segT (b : Bool) : Nat → List Int
  | 0 => []
  | k + 1 => segT b k ++ (if b then [97] else [195, 169])
theorem segTo_T (z : Int) (k : Nat) : Pl.segTo z k = segT (Pl.one z) k := by
  induction k with
  | zero => rfl
  | succ k ih => simp only [Pl.segTo, segT, ih]

theorem segT_all : ∀ b : Bool, ∀ k : Fin 5, Lib.runeCount ⟨((segT b k.val).map fun n => UInt8.ofNat n.toNat).toArray⟩ = k.val ∧ ∀ x ∈ segT b k.val, 0 ≤ x ∧ x < 256 := by decide +kernel

theorem segB_count (z : Int) : Lib.runeCount (segB z) = Pl.wd z := by
  have h := (segT_all (Pl.one z) ⟨Pl.wd z, by have := Pl.wd_le z; omega⟩).1
  unfold segB Pl.seg
  rw [segTo_T]
  exact h

theorem segB_size (z : Int) : (segB z).size = (Pl.seg z).length := by
  show (((Pl.seg z).map fun n => UInt8.ofNat n.toNat).toArray).size = _
  simp

theorem segB_get (z : Int) (k : Nat) (hk : k < (Pl.seg z).length) : (((segB z).get! k).toNat : Int) = (Pl.seg z).getD k 0 := by
  have h := (segT_all (Pl.one z) ⟨Pl.wd z, by have := Pl.wd_le z; omega⟩).2
  have hr : 0 ≤ (Pl.seg z)[k] ∧ (Pl.seg z)[k] < 256 := by
    apply h
    have : (Pl.seg z)[k] ∈ Pl.seg z := List.getElem_mem hk
    unfold Pl.seg at this ⊢
    simp only [segTo_T] at this ⊢
    exact this
  have e : (segB z).get! k = UInt8.ofNat ((Pl.seg z)[k]).toNat := by
    rw [← Lib.getD_get!']
    show ((((Pl.seg z).map fun n => UInt8.ofNat n.toNat).toArray).toList).getD k 0 = _
    simp [List.getD, hk]
  rw [e]
  simp [List.getD, hk]
  omega

/-- What lies in memory when padWidths is called. -/
structure Ready (w : World) (R : Nat) (L : Nat → Nat) (Z : Nat → Nat → Int) (bf br bs n cap : Nat) (pA : Nat → Option Addr) (pb pC : Nat → Nat) : Prop where
  file : 0 < R → w.cell? ⟨bf, 1, none⟩ = some (.slice (some ⟨bs, 0, none⟩) n cap)
  len : n = (Pl.srcTo L Z R).length
  lecap : n ≤ cap
  src : ∀ k, k < n → w.cell? ⟨bs, k, none⟩ = some (.int .u8 ((Pl.srcTo L Z R).getD k 0))
  row0 : ∀ i, i < R → w.cell? ⟨br, i * 3, none⟩ = some (.int .i64 (Pl.start L Z i))
  row1 : ∀ i, i < R → w.cell? ⟨br, i * 3 + 1, none⟩ = some (.slice (pA i) (L i) (pC i))
  row2 : ∀ i, i < R → w.cell? ⟨br, i * 3 + 2, none⟩ = some (.bool false)
  padA : ∀ i, i < R → 0 < L i → pA i = some ⟨pb i, 0, none⟩
  pad0 : ∀ i j, i < R → j < L i → w.cell? ⟨pb i, j * 2, none⟩ = some (.int .i64 (Pl.pos L Z i j))
  pad1 : ∀ i j, i < R → j < L i → w.cell? ⟨pb i, j * 2 + 1, none⟩ = some (.int .i64 (Pl.pos L Z i j + 1 : Nat))

theorem Ready.later {w w' : World} {R : Nat} {L : Nat → Nat} {Z : Nat → Nat → Int} {bf br bs n cap : Nat} {pA : Nat → Option Addr} {pb pC : Nat → Nat}
    (h : Ready w R L Z bf br bs n cap pA pb pC) (hb : Below w.heap.size w w') : Ready w' R L Z bf br bs n cap pA pb pC :=
  ⟨fun a => cell_later hb (h.file a), h.len, h.lecap, fun k a => cell_later hb (h.src k a), fun i a => cell_later hb (h.row0 i a), fun i a => cell_later hb (h.row1 i a), fun i a => cell_later hb (h.row2 i a), h.padA,
    fun i j a b => cell_later hb (h.pad0 i j a b), fun i j a b => cell_later hb (h.pad1 i j a b)⟩

theorem rowTo_mono (zs : Nat → Int) (i : Nat) : ∀ R, i ≤ R → (Pl.rowTo zs i).length ≤ (Pl.rowTo zs R).length := by
  intro R
  induction R with
  | zero => intro h; have : i = 0 := by omega
            subst this; exact Nat.le_refl _
  | succ R ih =>
    intro h
    by_cases e : i = R + 1
    · subst e; exact Nat.le_refl _
    · have := ih (by omega)
      simp only [Pl.rowTo, List.length_append]
      omega

theorem srcTo_mono (L : Nat → Nat) (Z : Nat → Nat → Int) (i : Nat) : ∀ R, i ≤ R → (Pl.srcTo L Z i).length ≤ (Pl.srcTo L Z R).length := by
  intro R
  induction R with
  | zero => intro h; have : i = 0 := by omega
            subst this; exact Nat.le_refl _
  | succ R ih =>
    intro h
    by_cases e : i = R + 1
    · subst e; exact Nat.le_refl _
    · have := ih (by omega)
      simp only [Pl.srcTo, List.length_append]
      omega

theorem Pl_pos_lt {L : Nat → Nat} {Z : Nat → Nat → Int} {R i j : Nat} (hi : i < R) (hj : j < L i) : Pl.pos L Z i j < (Pl.srcTo L Z R).length := by
  have hrow := rowTo_mono (Z i) (j + 1) (L i) (by omega)
  have hsrc := srcTo_mono L Z (i + 1) R (by omega)
  simp only [Pl.srcTo, Pl.rowTo, List.length_append, List.length_cons, List.length_nil] at hrow hsrc
  unfold Pl.pos Pl.cellAt Pl.start
  omega

/-- 'rows[i].width(f.Src, c)'. -/
theorem width_any {w : World} {R : Nat} {L : Nat → Nat} {Z : Nat → Nat → Int} {bf br bs n cap : Nat} {pA : Nat → Option Addr} {pb pC : Nat → Nat}
    (h : Ready w R L Z bf br bs n cap pA pb pC) (hR : R ≤ 1024) (hL : ∀ i, i < R → L i ≤ 1024) (i c : Nat) (hi : i < R) (hc : c < L i) :
    Calls Yba.prog 11 #[.agg #[.int .i64 (Pl.start L Z i), .slice (pA i) (L i) (pC i), .bool false], .slice (some ⟨bs, 0, none⟩) n cap, .int .i64 c] w fun e w' => e = .returned (.int .i64 (Pl.wd (Z i c))) ∧ Below w.heap.size w w' := by
  have hn : n ≤ 9217 * 1024 := by
    have := Pl.srcTo_len L Z R hL R (Nat.le_refl _)
    have := h.len
    omega
  have hpos := Pl_pos_lt (L := L) (Z := Z) hi hc
  rw [← h.len] at hpos
  have hLi := hL i hi
  have hsrc : ∀ j, j < (segB (Z i c)).size → w.cell? ⟨bs, Pl.cellAt L Z i c + j, none⟩ = some (.int .u8 ((segB (Z i c)).get! j).toNat) := by
    intro j hj
    rw [segB_size] at hj
    have hs := Pl.src_seg L Z R i c j hi hc hj
    rw [h.src _ (by unfold Pl.pos at hpos; omega), segB_get _ _ hj]
    simp only [List.getD, hs]
  rw [h.padA i hi (by omega), ← segB_count]
  cases c with
  | zero =>
    have h0 := h.pad0 i 0 hi hc
    unfold Pl.pos at h0 hpos
    rw [Pl.cellAt_zero] at h0 hpos hsrc
    rw [← segB_size] at h0 hpos
    exact width_first _ _ _ _ _ _ _ _ w (by omega) (by omega) h.lecap (by omega) hpos h0 hsrc
  | succ c =>
    have h0 := h.pad0 i (c + 1) hi hc
    have h1 := h.pad1 i c hi (by omega)
    unfold Pl.pos at h0 hpos
    rw [← segB_size] at h0 hpos
    rw [← Pl.cellAt_succ] at h1
    exact width_next _ _ _ _ _ _ _ _ _ _ w hc (by omega) h.lecap (by omega) hpos h1 h0 hsrc

end Go.Proofs.Ybulkeco
