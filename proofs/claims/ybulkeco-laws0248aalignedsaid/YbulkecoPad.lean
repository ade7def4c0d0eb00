/-
  The walk of (*File).padWidths.
-/
import Derived.Test.YbulkecoReady
import Derived.Deep.RegionHeld3
import Derived.Deep.DrawnRows
namespace Go.Proofs.Ybulkeco
open Go.RowKit
attribute [local go_sem ↓] Go.wp_at_zero Go.wp_at_succ

theorem Yba.info31 : (Yba.prog.info? 31).map (fun i => (i.zero, i.size, i.bytes)) = some (some (.slice none 0 0), 1, 24) := by kernel_rfl
theorem Yba.info3 : (Yba.prog.info? 3).map (fun i => (i.zero, i.size, i.bytes)) = some (some (.int .i64 0), 1, 8) := by kernel_rfl

/-- The greatest length of the first k rows. -/
def lmx (L : Nat → Nat) : Nat → Nat
  | 0 => 0
  | k + 1 => max (lmx L k) (L k)

theorem lmx_ge (L : Nat → Nat) : ∀ R i, i < R → L i ≤ lmx L R := by
  intro R
  induction R with
  | zero => intro i h; omega
  | succ R ih =>
    intro i h
    simp only [lmx]
    by_cases e : i = R
    · subst e; exact Nat.le_max_right _ _
    · exact Nat.le_trans (ih i (by omega)) (Nat.le_max_left _ _)

theorem lmx_le (L : Nat → Nat) (m : Nat) : ∀ R, (∀ i, i < R → L i ≤ m) → lmx L R ≤ m := by
  intro R
  induction R with
  | zero => intro _; exact Nat.zero_le _
  | succ R ih => intro h; simp only [lmx]; exact Nat.max_le.2 ⟨ih (fun i hi => h i (by omega)), h R (by omega)⟩

/-- The widths' own row, when k rows of widths are made. -/
def topAt (N : Nat) (L : Nat → Nat) (k : Nat) : Nat → Value := fun i => if i < k then .slice (some ⟨N + 2 + 2 * i, 0, none⟩) (L i) (L i) else .slice none 0 0

structure Made (w wr : World) (R : Nat) (L : Nat → Nat) (k : Nat) : Prop where
  below : Below w.heap.size w wr
  size : wr.heap.size = w.heap.size + 1 + 2 * k
  top : wr.rowIs w.heap.size 31 R (topAt w.heap.size L k)
  rows : ∀ i, i < k → wr.rowIs (w.heap.size + 2 + 2 * i) 3 (L i) (fun _ => .int .i64 0)

theorem made_start (w : World) (R : Nat) (L : Nat → Nat) : Made w (w.alloc (.cells (madeCells #[.slice none 0 0] R) 31)) R L 0 :=
  ⟨(Below.refl _ _).alloc (Nat.le_refl _) _, by simp, (World.rowIs_made w _ R 31).congr (fun j _ => by simp [topAt]), fun j hj => absurd hj (Nat.not_lt_zero _)⟩

theorem made_step {w wr : World} {R : Nat} {L : Nat → Nat} {k : Nat} (o : Obj) (h : Made w wr R L k) :
    Made w (((wr.setCell ⟨w.heap.size, k, none⟩ (.slice (some ⟨wr.heap.size + 1, 0, none⟩) (L k) (L k))).alloc o).alloc (.cells (madeCells #[.int .i64 0] (L k)) 3)) R L (k + 1) := by
  have e1 : wr.heap.size + 1 = w.heap.size + 2 + 2 * k := by rw [h.size]; omega
  rw [e1]
  have hnew := World.rowIs_made ((wr.setCell ⟨w.heap.size, k, none⟩ (.slice (some ⟨w.heap.size + 2 + 2 * k, 0, none⟩) (L k) (L k))).alloc o) (.int .i64 0) (L k) 3
  have hsz : ((wr.setCell ⟨w.heap.size, k, none⟩ (.slice (some ⟨w.heap.size + 2 + 2 * k, 0, none⟩) (L k) (L k))).alloc o).heap.size = w.heap.size + 2 + 2 * k := by simp [h.size]; omega
  rw [hsz] at hnew
  refine ⟨((h.below.setCell (Nat.le_refl _) _).alloc (by simp [h.size]; omega) _).alloc (by rw [hsz]; omega) _, by simp [h.size]; omega, (((h.top.set k _).alloc _).alloc _).congr (fun j _ => ?_), fun j hj => ?_⟩
  · simp only [topAt]
    by_cases e : j = k
    · subst e; simp
    · rw [if_neg e]
      by_cases hlt : j < k
      · rw [if_pos hlt, if_pos (by omega)]
      · rw [if_neg hlt, if_neg (by omega)]
  · by_cases e : j = k
    · subst e
      exact hnew
    · exact (((h.rows j (by omega)).setOther (by show w.heap.size + 2 + 2 * j ≠ w.heap.size; omega) _).alloc _).alloc _

/-- The widths in memory: those that D says are filled; the others 0. -/
structure Main (w wr : World) (R : Nat) (L : Nat → Nat) (Z : Nat → Nat → Int) (D : Nat → Nat → Bool) : Prop where
  below : Below w.heap.size w wr
  size : w.heap.size + 1 + 2 * R ≤ wr.heap.size
  top : wr.rowIs w.heap.size 31 R (topAt w.heap.size L R)
  rows : ∀ i, i < R → wr.rowIs (w.heap.size + 2 + 2 * i) 3 (L i) (fun c => .int .i64 (if D i c then Pl.val L Z R i c else 0))

theorem main_start {w wr : World} {R : Nat} {L : Nat → Nat} {Z : Nat → Nat → Int} (h : Made w wr R L R) : Main w wr R L Z (fun _ _ => false) :=
  ⟨h.below, Nat.le_of_eq h.size.symm, h.top, fun i hi => (h.rows i hi).congr (fun _ _ => by simp)⟩

theorem Main.later {w wr wx : World} {R : Nat} {L : Nat → Nat} {Z : Nat → Nat → Int} {D : Nat → Nat → Bool} (h : Main w wr R L Z D) (hb : Below wr.heap.size wr wx) : Main w wx R L Z D :=
  ⟨h.below.trans (hb.mono (by have := h.below.size; omega)), Nat.le_trans h.size hb.size, h.top.of_block (hb.block _ h.top.lt), fun i hi => (h.rows i hi).of_block (hb.block _ (h.rows i hi).lt)⟩

theorem Main.congr {w wr : World} {R : Nat} {L : Nat → Nat} {Z : Nat → Nat → Int} {D D' : Nat → Nat → Bool} (h : Main w wr R L Z D) (e : ∀ i c, i < R → c < L i → D i c = D' i c) : Main w wr R L Z D' :=
  ⟨h.below, h.size, h.top, fun i hi => (h.rows i hi).congr (fun c hc => by rw [e i c hi hc])⟩

theorem Main.store {w wr : World} {R : Nat} {L : Nat → Nat} {Z : Nat → Nat → Int} {D : Nat → Nat → Bool} (h : Main w wr R L Z D) (i c : Nat) :
    Main w (wr.setCell ⟨w.heap.size + 2 + 2 * i, c, none⟩ (.int .i64 (Pl.val L Z R i c))) R L Z (fun i' c' => (i' == i && c' == c) || D i' c') := by
  refine ⟨h.below.setCell (by show w.heap.size ≤ w.heap.size + 2 + 2 * i; omega) _, by simpa using h.size, h.top.setOther (by show w.heap.size ≠ w.heap.size + 2 + 2 * i; omega) _, fun j hj => ?_⟩
  by_cases e : j = i
  · subst e
    refine ((h.rows j hj).set c _).congr (fun x _ => ?_)
    by_cases ex : x = c
    · subst ex; simp
    · simp [ex]
  · refine ((h.rows j hj).setOther (by show w.heap.size + 2 + 2 * j ≠ w.heap.size + 2 + 2 * i; omega) _).congr (fun x _ => ?_)
    simp [e]

/-- Which widths are filled: the cells before c in every row, and cell c in the rows before s. -/
def Dn (c s : Nat) : Nat → Nat → Bool := fun i' c' => decide (c' < c) || (decide (c' = c) && decide (i' < s))

/-- The rows from s up to e have cell c. -/
def Run (L : Nat → Nat) (c s e : Nat) : Prop := ∀ k, s ≤ k → k < e → c < L k

theorem Main.at_cell {w wr : World} {R : Nat} {L : Nat → Nat} {Z : Nat → Nat → Int} {q c : Nat} (h : Main w wr R L Z (Dn c q)) (hq : q < R) (hc : c < L q) :
    wr.cell? ⟨w.heap.size + 2 + 2 * q, c, none⟩ = some (.int .i64 0) ∧ wr.frozen? ⟨w.heap.size + 2 + 2 * q, c, none⟩ = false :=
  ⟨by have := (h.rows q hq).cell hc; simpa [Dn] using this, (h.rows q hq).frozen c⟩

theorem st_le (N q : Nat) : N ≤ N + 2 + 2 * q := by omega
theorem st_ne (N q : Nat) : N ≠ N + 2 + 2 * q := by omega

theorem S_of {w wx : World} {R : Nat} {L : Nat → Nat} {Z : Nat → Nat → Int} {bf br bs n cap : Nat} {pA : Nat → Option Addr} {pb pC : Nat → Nat} {q : Nat}
    (h : Ready w R L Z bf br bs n cap pA pb pC) (hb : Below w.heap.size w wx) (ht : wx.rowIs w.heap.size 31 R (topAt w.heap.size L R)) (hq : q < R) :
    wx.cell? ⟨br, q * 3, none⟩ = some (.int .i64 (Pl.start L Z q)) ∧ wx.cell? ⟨br, q * 3 + 1, none⟩ = some (.slice (pA q) (L q) (pC q)) ∧ wx.cell? ⟨br, q * 3 + 2, none⟩ = some (.bool false) ∧ wx.cell? ⟨bf, 1, none⟩ = some (.slice (some ⟨bs, 0, none⟩) n cap) ∧
      wx.cell? ⟨w.heap.size, q, none⟩ = some (.slice (some ⟨w.heap.size + 2 + 2 * q, 0, none⟩) (L q) (L q)) := by
  have h1 := h.later hb
  exact ⟨h1.row0 q hq, h1.row1 q hq, h1.row2 q hq, h1.file (by omega), by have := ht.cell hq; simpa [topAt, hq] using this⟩

theorem mx_step (f : Nat → Nat) (s e : Nat) (h : s ≤ e) : Pl.mx f s (e + 1 - s) = max (Pl.mx f s (e - s)) (f e) := by
  have : e + 1 - s = (e - s) + 1 := by omega
  rw [this]
  simp only [Pl.mx]
  rw [show s + (e - s) = e by omega]

theorem wrapEq (x : Int) : IntKind.i64.wrap x = wrap64 x := by rw [IntKind.wrap_i64]; unfold wrap64; rfl

theorem val_wrap {L : Nat → Nat} {Z : Nat → Nat → Int} {R c st en q : Nat} (h0 : st = 0 ∨ ¬ c < L (st - 1)) (hrun : Run L c st en) (he : en = R ∨ ¬ c < L en) (h1 : st ≤ q) (h2 : q < en) (h3 : en ≤ R) :
    ((Pl.mx (fun k => Pl.wd (Z k c)) st (en - st) : Nat) : Int) + 1 - (Pl.wd (Z q c) : Nat) = Pl.val L Z R q c := by
  have e1 := Pl.lo_eq L c st h0 q h1 (fun k a b => hrun k a (by omega))
  have e2 := Pl.hi_eq L R c en q h2 h3 (fun k a b => hrun k (by omega) b) he
  unfold Pl.val Pl.wide
  rw [e1, e2]

/-- A column begins at s: no row before, or the one before lacks cell c. -/
def Head (L : Nat → Nat) (R c s : Nat) : Prop := s < R → s = 0 ∨ ¬ c < L (s - 1)

theorem num_succ (q : Nat) : Value.int .i64 ((q : Int) + 1) = .int .i64 ((q + 1 : Nat) : Int) := by go_num
theorem head_next {L : Nat → Nat} {R c en : Nat} (h : en = R ∨ ¬ c < L en) : Head L R c (en + 1) := fun hlt => by
  rcases h with h | h
  · omega
  · exact .inr h

theorem Dn_step (c q i' c' : Nat) : ((i' == q && c' == c) || Dn c q i' c') = Dn c (q + 1) i' c' := by
  unfold Dn
  rw [Bool.eq_iff_iff]
  simp
  omega

theorem Dn_all {R c st i' c' : Nat} (h : R ≤ st) (hi : i' < R) : Dn c st i' c' = Dn (c + 1) 0 i' c' := by
  unfold Dn
  rw [Bool.eq_iff_iff]
  simp
  omega

theorem Dn_pass {L : Nat → Nat} {R c en i' c' : Nat} (he : en = R ∨ ¬ c < L en) (hi : i' < R) (hc : c' < L i') : Dn c en i' c' = Dn c (en + 1) i' c' := by
  unfold Dn
  rw [Bool.eq_iff_iff]
  simp only [Bool.or_eq_true, Bool.and_eq_true, decide_eq_true_eq]
  by_cases e : i' = en
  · subst e
    have : c' ≠ c := by rintro rfl; rcases he with h | h
                        · omega
                        · exact h hc
    omega
  · omega

set_option maxHeartbeats 1600000 in
set_option maxRecDepth 100000 in
theorem padWidths_any {w : World} {R : Nat} {L : Nat → Nat} {Z : Nat → Nat → Int} {bf br bs n cap : Nat} {pA : Nat → Option Addr} {pb pC : Nat → Nat}
    (h : Ready w R L Z bf br bs n cap pA pb pC) (hR : R ≤ 1024) (hL : ∀ i, i < R → L i ≤ 1024) :
    Calls Yba.prog 8 #[.pointer (some ⟨bf, 0, none⟩), .slice (some ⟨br, 0, none⟩) R R] w fun e w' => e = .returned (.slice (some ⟨w.heap.size, 0, none⟩) R R) ∧ Main w w' R L Z (fun _ _ => true) := by
  have hmk28 := run_make_row' (P := Yba.prog) 28 31 (.slice none 0 0) 24 Yba.underlying28 Yba.info31 rfl .i64 .i64 R (by omega) (by omega)
  have hmk31 := fun m (hm : m ≤ 1024) => run_make_row' (P := Yba.prog) 31 3 (.int .i64 0) 8 Yba.underlying31 Yba.info3 rfl .i64 .i64 m (by omega) (by omega)
  go_enter Yba.func8, Yba.ntmps8
  go_wp2
  go_loopw [6, 19] (fun c i wr => ∃ k : Nat, k ≤ R ∧ i = .int .i64 k ∧ c = .int .i64 (lmx L k) ∧ Made w wr R L k) (fun _ i _ => R - (intOf i).toNat)
  case atStart => exact ⟨0, Nat.zero_le _, rfl, rfl, made_start w R L⟩
  case round =>
    obtain ⟨k, hk, rfl, rfl, hm⟩ := hrel
    by_cases hlt : k < R
    · have hr := h.later hm.below
      have c0 := hr.row0 k hlt
      have c1 := hr.row1 k hlt
      have c2 := hr.row2 k hlt
      have hLk := hL k hlt
      have hmk := hmk31 (L k) hLk
      have t0 := hm.top.cell hlt
      have t1 := hm.top.frozen k
      have t2 := hm.top.lt
      have hb := World.block_lt_of_cell? _ _ c0
      clear hmk31 hmk28
      go_wp2_with fail
      go_roundw
      case rel => exact ⟨k + 1, by omega, by go_num, by simp only [lmx]; split <;> (congr 1; omega), made_step _ hm⟩
      case measure => simp [intOf]; omega
    · obtain rfl : R = k := by omega
      have hM := main_start (Z := Z) hm
      have hlm := lmx_le L 1024 R hL
      clear hm hmk28 hmk31 hk hlt
      go_wp2_with fail
      go_loopw [38] (fun i wr => ∃ c : Nat, c ≤ lmx L R ∧ i = .int .i64 c ∧ Main w wr R L Z (Dn c 0)) (fun i _ => lmx L R - (intOf i).toNat)
      case atStart => exact ⟨0, Nat.zero_le _, rfl, hM.congr (fun i c _ _ => by simp [Dn])⟩
      case round =>
        clear hM
        obtain ⟨c, hc, rfl, hM⟩ := hrel
        by_cases hclt : c < lmx L R
        · go_wp2_with fail
          go_loopw [10] (fun s wr => ∃ st : Nat, st ≤ R + 1 ∧ s = .int .i64 st ∧ Head L R c st ∧ Main w wr R L Z (Dn c st)) (fun s _ => R + 1 - (intOf s).toNat)
          case atStart => exact ⟨0, Nat.zero_le _, rfl, fun _ => .inl rfl, hM⟩
          case round =>
            clear hM
            obtain ⟨st, hst, rfl, hst0, hM⟩ := hrel
            by_cases hslt : st < R
            · go_wp2_with fail
              go_loopw [11, 12] (fun e x wr => ∃ en : Nat, st ≤ en ∧ en ≤ R ∧ e = .int .i64 en ∧ x = .int .i64 (Pl.mx (fun k => Pl.wd (Z k c)) st (en - st)) ∧ Run L c st en ∧ Main w wr R L Z (Dn c st)) (fun e _ _ => R - (intOf e).toNat)
              case atStart => exact ⟨st, Nat.le_refl _, by omega, rfl, by simp [Pl.mx], fun k a b => by omega, hM⟩
              case round =>
                clear hM
                obtain ⟨en, hen1, hen2, rfl, rfl, hrun, hM⟩ := hrel
                have hr := h.later hM.below
                by_cases hgo : en < R ∧ c < L en
                · obtain ⟨hin, hcell⟩ := hgo
                  have c0 := hr.row0 en hin
                  have c1 := hr.row1 en hin
                  have c2 := hr.row2 en hin
                  have cF := hr.file (by omega)
                  have hLe := hL en hin
                  have hmx := Pl.mx_le (fun k => Pl.wd (Z k c)) st (en - st) 4 (fun _ => Pl.wd_le _)
                  have hwd := Pl.wd_le (Z en c)
                  have hi0 : (0 : Int) ≤ (en : Int) := by omega
                  have hi1 : (en : Int) < (R : Int) := by omega
                  go_wp2_with fail
                  go_region_held3 (fun w' => w'.cell? ⟨br, en * 3, none⟩ = some (.int .i64 (Pl.start L Z en)) ∧ w'.cell? ⟨br, en * 3 + 1, none⟩ = some (.slice (pA en) (L en) (pC en)) ∧ w'.cell? ⟨br, en * 3 + 2, none⟩ = some (.bool false) ∧ w'.cell? ⟨bf, 1, none⟩ = some (.slice (some ⟨bs, 0, none⟩) n cap))
                    (first | go_keep | (have hr1 := hr.later (((Below.refl _ _).drew).trans hbw); exact ⟨hr1.row0 en hin, hr1.row1 en hin, hr1.row2 en hin, hr1.file (by omega)⟩))
                    (first | (go_at_call 11; refine (width_any (w := wr.drew) (hr.later (Below.refl _ _).drew) hR hL en c hin hcell).mono ?_; rintro e w1 ⟨rfl, hbw⟩))
                  all_goals
                    go_wp2_with fail
                    go_roundw
                    case rel =>
                      refine ⟨en + 1, by omega, by omega, by go_num, ?_, fun k a b => ?_, hM.later (((Below.refl _ _).drew).trans hbw)⟩
                      · rw [mx_step _ _ _ hen1]; split <;> (congr 1; omega)
                      · by_cases e : k = en
                        · subst e; exact hcell
                        · exact hrun k a (by omega)
                    case measure => simp [intOf]; omega
                · have HE : Hid (en = R ∨ ¬ c < L en) := by
                    by_cases e : en = R
                    · exact .inl e
                    · exact .inr (fun hh => hgo ⟨by omega, hh⟩)
                  have c1 : en < R → wr.cell? ⟨br, en * 3 + 1, none⟩ = some (.slice (pA en) (L en) (pC en)) := fun hin => hr.row1 en hin
                  have hLe : en < R → L en ≤ 1024 := fun hin => hL en hin
                  have hways : (en < R ∧ ¬ c < L en) ∨ ¬ en < R := by
                    by_cases e : en < R
                    · exact .inl ⟨e, fun hh => hgo ⟨e, hh⟩⟩
                    · exact .inr e
                  clear hgo
                  rcases hways with ⟨hin, hnc⟩ | hin
                  all_goals
                    go_wp2_with fail
                    go_loopw [13] (fun i wr => ∃ q : Nat, st ≤ q ∧ q ≤ en ∧ i = .int .i64 q ∧ Main w wr R L Z (Dn c q)) (fun i _ => en - (intOf i).toNat)
                    case atStart => exact ⟨st, Nat.le_refl _, hen1, rfl, hM⟩
                    case round =>
                      clear hM hr c1 hLe
                      obtain ⟨q, hq1, hq2, rfl, hM⟩ := hrel
                      have hr := h.later hM.below
                      by_cases hq : q < en
                      · have hqR : q < R := by omega
                        have hcq : c < L q := hrun q hq1 hq
                        have c0 := hr.row0 q hqR
                        have c1 := hr.row1 q hqR
                        have c2 := hr.row2 q hqR
                        have cF := hr.file (by omega)
                        have hLq := hL q hqR
                        have hmx := Pl.mx_le (fun k => Pl.wd (Z k c)) st (en - st) 4 (fun _ => Pl.wd_le _)
                        have hwd := Pl.wd_le (Z q c)
                        have hi0 : (0 : Int) ≤ (q : Int) := by omega
                        have hi1 : (q : Int) < (R : Int) := by omega
                        have hj0 : (0 : Int) ≤ (c : Int) := by omega
                        have hj1 : (c : Int) < (L q : Int) := by omega
                        have hw1 : IntKind.i64.wrap ((Pl.mx (fun k => Pl.wd (Z k c)) st (en - st) : Nat) + 1) = (Pl.mx (fun k => Pl.wd (Z k c)) st (en - st) : Nat) + 1 := by rw [wrapEq, IntWalk.wrap64_in _ ⟨by omega, by omega⟩]
                        have hw2 : IntKind.i64.wrap ((Pl.mx (fun k => Pl.wd (Z k c)) st (en - st) : Nat) + 1 - (Pl.wd (Z q c) : Nat)) = (Pl.mx (fun k => Pl.wd (Z k c)) st (en - st) : Nat) + 1 - (Pl.wd (Z q c) : Nat) := by rw [wrapEq, IntWalk.wrap64_in _ ⟨by omega, by omega⟩]
                        have t0 : wr.cell? ⟨w.heap.size, q, none⟩ = some (.slice (some ⟨w.heap.size + 2 + 2 * q, 0, none⟩) (L q) (L q)) := by have := hM.top.cell hqR; simpa [topAt, hqR] using this
                        go_wp2_with fail
                        go_region_held3 (fun w' => w'.cell? ⟨br, q * 3, none⟩ = some (.int .i64 (Pl.start L Z q)) ∧ w'.cell? ⟨br, q * 3 + 1, none⟩ = some (.slice (pA q) (L q) (pC q)) ∧ w'.cell? ⟨br, q * 3 + 2, none⟩ = some (.bool false) ∧ w'.cell? ⟨bf, 1, none⟩ = some (.slice (some ⟨bs, 0, none⟩) n cap) ∧
                            w'.cell? ⟨w.heap.size, q, none⟩ = some (.slice (some ⟨w.heap.size + 2 + 2 * q, 0, none⟩) (L q) (L q)))
                          (first | go_keep | exact S_of h hM1.below hM1.top hqR | exact S_of h (hM1.below.setCell (st_le _ _) _) (hM1.top.setOther (st_ne _ _) _) hqR)
                          (first | (go_at_call 11; refine (width_any (w := wr.drew) (hr.later (Below.refl _ _).drew) hR hL q c hqR hcq).mono ?_; rintro e w1 ⟨rfl, hbw⟩; have hM1 := hM.later (((Below.refl _ _).drew).trans hbw); obtain ⟨t3, t4⟩ := hM1.at_cell hqR hcq))
                        all_goals
                          rename_i hHeld
                          clear hHeld
                          have hfin := hM1.store q c
                          rw [← val_wrap (hst0 hslt) hrun HE.out hq1 hq hen2] at hfin
                          go_wp2_with fail
                          go_roundw
                          case rel => first | exact ⟨q + 1, Nat.le_succ_of_le hq1, hq, num_succ q, hfin.congr (fun i' c' _ _ => Dn_step c q i' c')⟩ | ((repeat apply Exists.intro); exact ⟨⟨q + 1, Nat.le_succ_of_le hq1, hq, num_succ q, hfin.congr (fun i' c' _ _ => Dn_step c q i' c')⟩, rfl⟩)
                          case measure => simp [intOf]; omega
                      · obtain rfl : en = q := by omega
                        have hfin := hM.congr (D' := Dn c (en + 1)) (fun i' c' hi' hc' => Dn_pass HE.out hi' hc')
                        go_wp2_with fail
                        go_roundw
                        case rel => exact ⟨en + 1, by omega, by go_num, head_next HE.out, hfin⟩
                        case measure => simp [intOf]; omega
            · have hfin := hM.congr (D' := Dn (c + 1) 0) (fun i' c' hi' _ => Dn_all (Nat.le_of_not_lt hslt) hi')
              go_wp2_with fail
              go_roundw
              case rel => exact ⟨c + 1, by omega, by go_num, hfin⟩
              case measure => simp [intOf]; omega
        · have hfin := hM.congr (D' := fun _ _ => true) (fun i' c' hi' hc' => by have := lmx_ge L R i' hi'; simp [Dn]; omega)
          go_wp2_with fail
          go_ret
          exact ⟨rfl, hfin⟩
end Go.Proofs.Ybulkeco
