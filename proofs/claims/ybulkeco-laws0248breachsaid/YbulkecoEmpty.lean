/-
  LawS0248BReach: the walks of emptyLine and reach.
-/
import Derived.Test.YbulkecoIns
import Derived.Deep.RegionHeld3
import Derived.Deep.DrawnRows
namespace Go.Proofs.Ybulkeco
open Go.RowKit
open Rc
attribute [local go_sem ↓] Go.wp_at_zero Go.wp_at_succ

namespace Rc
/-- An empty line begins right behind x. -/
def good (S : Nat → Int) (P E : Nat → Nat) (m x : Nat) : Bool := (S x == 10) && (S (x + 1) == 10) && !(insB P E x m)
/-- The first good place among the n from x on, plus 1; else -1. -/
def fnd (g : Nat → Bool) : Nat → Nat → Int
  | 0, _ => -1
  | n + 1, x => if g x = true then (x : Int) + 1 else fnd g n (x + 1)

theorem fnd_hit {g : Nat → Bool} {n x : Nat} (h : 0 < n) (hg : g x = true) : fnd g n x = (x : Int) + 1 := by
  cases n with
  | zero => omega
  | succ n => simp [fnd, hg]
theorem fnd_miss {g : Nat → Bool} {n x : Nat} (h : 0 < n) (hg : g x = false) : fnd g n x = fnd g (n - 1) (x + 1) := by
  cases n with
  | zero => omega
  | succ n => simp [fnd, hg]
theorem fnd_none {g : Nat → Bool} {x : Nat} : fnd g 0 x = -1 := rfl

theorem fnd_cases (g : Nat → Bool) : ∀ n x, fnd g n x = -1 ∨ ∃ a : Nat, fnd g n x = (a : Int) + 1 ∧ a < x + n := by
  intro n
  induction n with
  | zero => intro x; exact .inl rfl
  | succ n ih =>
    intro x
    simp only [fnd]
    split
    · exact .inr ⟨x, rfl, by omega⟩
    · rcases ih (x + 1) with h | ⟨a, h1, h2⟩
      · exact .inl h
      · exact .inr ⟨a, h1, by omega⟩

structure FileAt (w : World) (bp bf sb n mb m mc : Nat) (ma : Option Addr) (S : Nat → Int) (P E : Nat → Nat) : Prop where
  cp : w.cell? ⟨bp, 0, none⟩ = some (.pointer (some ⟨bf, 0, none⟩))
  cs : w.cell? ⟨bf, 1, none⟩ = some (.slice (some ⟨sb, 0, none⟩) n n)
  cm : w.cell? ⟨bf, 15, none⟩ = some (.slice ma m mc)
  src : ∀ i, i < n → w.cell? ⟨sb, i, none⟩ = some (.int .u8 (S i))
  sp : Spans w ma mb m P E

theorem FileAt.later {w w' : World} {bp bf sb n mb m mc : Nat} {ma : Option Addr} {S : Nat → Int} {P E : Nat → Nat} (h : FileAt w bp bf sb n mb m mc ma S P E) (hb : Below w.heap.size w w') : FileAt w' bp bf sb n mb m mc ma S P E :=
  ⟨cell_later hb h.cp, cell_later hb h.cs, cell_later hb h.cm, fun i hi => cell_later hb (h.src i hi), h.sp.later hb⟩
end Rc

set_option maxHeartbeats 1600000 in
set_option maxRecDepth 100000 in
theorem empty_any (bp bf sb n mb m mc : Nat) (ma : Option Addr) (S : Nat → Int) (P E : Nat → Nat) (fr o : Nat) (w : World) (hm : m ≤ 1000000) (hso : Sorted m P E) (hn : n ≤ 1024) (ho : o ≤ n) (hfr : fr ≤ n)
    (h : FileAt w bp bf sb n mb m mc ma S P E) :
    Calls Yba.prog 12 #[.pointer (some ⟨bp, 0, none⟩), .int .i64 fr, .int .i64 o] w fun e w' => e = .returned (.int .i64 (fnd (good S P E m) (o - 1 - fr) fr)) ∧ Below w.heap.size w w' := by
  go_enter Yba.func12, Yba.ntmps12
  go_wp2
  go_loopw [7] (fun v wr => ∃ x : Nat, fr ≤ x ∧ x ≤ n ∧ v = .int .i64 x ∧ Hid (fnd (good S P E m) (o - 1 - fr) fr = fnd (good S P E m) (o - 1 - x) x) ∧ Below w.heap.size w wr) (fun v _ => n - (intOf v).toNat)
  case atStart => exact ⟨fr, Nat.le_refl _, hfr, rfl, rfl, Below.refl _ _⟩
  case round =>
    obtain ⟨x, hx1, hx2, rfl, HF, hb⟩ := hrel
    have hr := h.later hb
    by_cases hlt : x + 1 < o
    · have hltz : (x : Int) + 1 < (o : Int) := by omega
      have c0 := hr.cp
      have c1 := hr.cs
      have c2 := hr.src x (by omega)
      have c3 := hr.src (x + 1) (by omega)
      by_cases h1 : (S x == 10) = true
      · by_cases h2 : (S (x + 1) == 10) = true
        · go_wp2_with fail
          refine (inMulti_any bf mb m mc x ma P E wr hm hso hr.cm hr.sp).mono ?_
          rintro e w1 ⟨rfl, hb1⟩
          have hb2 := hb.trans (hb1.mono hb.size)
          cases h3 : insB P E x m with
          | true =>
            have HN : Hid (fnd (good S P E m) (o - 1 - fr) fr = fnd (good S P E m) (o - 1 - (x + 1)) (x + 1)) := by
              show _ = _
              rw [HF.out, fnd_miss (by omega) (by simp [good, h3])]
              congr 1
            go_wp2_with fail
            go_roundw
            case rel => exact ⟨x + 1, by omega, by omega, by go_num, HN, hb2⟩
            case measure => simp [intOf]; omega
          | false =>
            have HN : Hid (fnd (good S P E m) (o - 1 - fr) fr = (x : Int) + 1) := by
              show _ = _
              rw [HF.out, fnd_hit (by omega) (by simp only [good, h1, h2, h3]; rfl)]
            go_wp2_with fail
            go_ret
            refine ⟨?_, hb2⟩
            rw [HN.out]
            rfl
        · have h2' : (S (x + 1) == 10) = false := by simpa using h2
          have HN : Hid (fnd (good S P E m) (o - 1 - fr) fr = fnd (good S P E m) (o - 1 - (x + 1)) (x + 1)) := by
            show _ = _
            rw [HF.out, fnd_miss (by omega) (by simp [good, h2'])]
            congr 1
          go_wp2_with fail
          go_roundw
          case rel => exact ⟨x + 1, by omega, by omega, by go_num, HN, hb⟩
          case measure => simp [intOf]; omega
      · have h1' : (S x == 10) = false := by simpa using h1
        have HN : Hid (fnd (good S P E m) (o - 1 - fr) fr = fnd (good S P E m) (o - 1 - (x + 1)) (x + 1)) := by
          show _ = _
          rw [HF.out, fnd_miss (by omega) (by simp [good, h1'])]
          congr 1
        go_wp2_with fail
        go_roundw
        case rel => exact ⟨x + 1, by omega, by omega, by go_num, HN, hb⟩
        case measure => simp [intOf]; omega
    · have hltz : ¬ (x : Int) + 1 < (o : Int) := by omega
      have HN : Hid (fnd (good S P E m) (o - 1 - fr) fr = -1) := by
        show _ = _
        rw [HF.out, show o - 1 - x = 0 from by omega, fnd_none]
      go_wp2_with fail
      go_ret
      refine ⟨?_, hb⟩
      rw [HN.out]
      rfl

set_option maxHeartbeats 800000 in
theorem reach_neg (bs o : Nat) (fr : Int) (ld : Bool) (w : World) (c1 : w.cell? ⟨bs, 1, none⟩ = some (.int .i64 fr)) (hfr : fr < 0) :
    Calls Yba.prog 10 #[.pointer (some ⟨bs, 0, none⟩), .int .i64 o, .bool ld] w fun e w' => e = .returned (.tuple #[]) ∧ w' = w := by
  go_enter Yba.func10, Yba.ntmps10
  go_wp2_with fail
  refine bodyPost_ret (results_none rfl _ _ _) rfl ?_
  exact ⟨rfl, rfl⟩

namespace Rc
/-- The world behind reach. -/
def ReachTo (w w' : World) (bs bf : Nat) (r : Int) (ld : Bool) : Prop :=
  ∃ w1, Below w.heap.size w w1 ∧ w' = (if 0 ≤ r then (((w1.setCell ⟨bf, 10, none⟩ (.int .i64 r)).setCell ⟨bf, 11, none⟩ (.bool false)).setCell ⟨bf, 12, none⟩ (.bool false)).setCell ⟨bs, 1, none⟩ (.int .i64 (-1))
    else if ld = true then w1 else w1.setCell ⟨bs, 1, none⟩ (.int .i64 (-1)))
end Rc

set_option maxHeartbeats 1600000 in
set_option maxRecDepth 100000 in
theorem reach_any (bs bp bf sb n mb m mc : Nat) (ma : Option Addr) (S : Nat → Int) (P E : Nat → Nat) (fr o : Nat) (ld : Bool) (w : World) (hm : m ≤ 1000000) (hso : Sorted m P E) (hn : n ≤ 1024) (ho : o ≤ n) (hfr : fr ≤ n)
    (h : FileAt w bp bf sb n mb m mc ma S P E) (_hne : bs ≠ bf) (c0 : w.cell? ⟨bs, 0, none⟩ = some (.pointer (some ⟨bp, 0, none⟩))) (c1 : w.cell? ⟨bs, 1, none⟩ = some (.int .i64 fr))
    (i0 i1 i2 : Value) (d0 : w.cell? ⟨bf, 10, none⟩ = some i0) (d1 : w.cell? ⟨bf, 11, none⟩ = some i1) (d2 : w.cell? ⟨bf, 12, none⟩ = some i2)
    (g0 : w.frozen? ⟨bf, 10, none⟩ = false) (g1 : w.frozen? ⟨bf, 11, none⟩ = false) (g2 : w.frozen? ⟨bf, 12, none⟩ = false) (g3 : w.frozen? ⟨bs, 1, none⟩ = false) :
    Calls Yba.prog 10 #[.pointer (some ⟨bs, 0, none⟩), .int .i64 o, .bool ld] w fun e w' => e = .returned (.tuple #[]) ∧ ReachTo w w' bs bf (fnd (good S P E m) (o - 1 - fr) fr) ld := by
  have hfr0 : ¬ ((fr : Int) < 0) := by omega
  have hbs : bs < w.heap.size := World.block_lt_of_cell? _ _ c0
  have hbf : bf < w.heap.size := World.block_lt_of_cell? _ _ d0
  rcases fnd_cases (good S P E m) (o - 1 - fr) fr with hr | ⟨a, hr, ha⟩
  · have HE : Hid (∀ w', FileAt w' bp bf sb n mb m mc ma S P E → Calls Yba.prog 12 #[.pointer (some ⟨bp, 0, none⟩), .int .i64 fr, .int .i64 o] w' fun e w'' => e = .returned (.int .i64 (-1)) ∧ Below w'.heap.size w' w'') := fun w' h' => by
      have := empty_any bp bf sb n mb m mc ma S P E fr o w' hm hso hn ho hfr h'
      rw [hr] at this
      exact this
    rw [hr]
    clear hr
    cases ld
    all_goals
      go_enter Yba.func10, Yba.ntmps10
      go_wp2_with fail
      go_region_held3 (fun w' => w'.cell? ⟨bs, 0, none⟩ = some (.pointer (some ⟨bp, 0, none⟩)) ∧ w'.cell? ⟨bs, 1, none⟩ = some (.int .i64 fr))
        (first | go_keep | exact ⟨cell_later hbw c0, cell_later hbw c1⟩)
        (first | (go_at_call 12; refine (HE.out w.drew (h.later (Below.refl _ _).drew)).mono ?_; rintro e w1 ⟨rfl, hbw⟩))
      rename_i hHeld
      clear hHeld
      have e1 := cell_later hbw c1
      have e3 : w1.frozen? ⟨bs, 1, none⟩ = false := (hbw.frozen hbs).trans g3
      have hb0 : Below w.heap.size w w1 := ((Below.refl _ _).drew).trans hbw
      go_wp2_with fail
      go_end0
      exact ⟨rfl, w1, hb0, by simp⟩
  · have HE : Hid (∀ w', FileAt w' bp bf sb n mb m mc ma S P E → Calls Yba.prog 12 #[.pointer (some ⟨bp, 0, none⟩), .int .i64 fr, .int .i64 o] w' fun e w'' => e = .returned (.int .i64 ((a : Int) + 1)) ∧ Below w'.heap.size w' w'') := fun w' h' => by
      have := empty_any bp bf sb n mb m mc ma S P E fr o w' hm hso hn ho hfr h'
      rw [hr] at this
      exact this
    rw [hr]
    clear hr
    have ha0 : ¬ ((a : Int) + 1 < 0) := by omega
    have ha1 : (0 : Int) ≤ (a : Int) + 1 := by omega
    go_enter Yba.func10, Yba.ntmps10
    go_wp2_with fail
    go_region_held3 (fun w' => w'.cell? ⟨bs, 0, none⟩ = some (.pointer (some ⟨bp, 0, none⟩)) ∧ w'.cell? ⟨bs, 1, none⟩ = some (.int .i64 fr))
      (first | go_keep | exact ⟨cell_later hbw c0, cell_later hbw c1⟩)
      (first | (go_at_call 12; refine (HE.out w.drew (h.later (Below.refl _ _).drew)).mono ?_; rintro e w1 ⟨rfl, hbw⟩))
    rename_i hHeld
    clear hHeld
    have e0 := cell_later hbw c0
    have e1 := cell_later hbw c1
    have e2 := cell_later hbw h.cp
    have e3 : w1.frozen? ⟨bs, 1, none⟩ = false := (hbw.frozen hbs).trans g3
    have j0 := cell_later hbw d0
    have j1 := cell_later hbw d1
    have j2 := cell_later hbw d2
    have k0 : w1.frozen? ⟨bf, 10, none⟩ = false := (hbw.frozen hbf).trans g0
    have k1 : w1.frozen? ⟨bf, 11, none⟩ = false := (hbw.frozen hbf).trans g1
    have k2 : w1.frozen? ⟨bf, 12, none⟩ = false := (hbw.frozen hbf).trans g2
    have hb0 : Below w.heap.size w w1 := ((Below.refl _ _).drew).trans hbw
    go_wp2_with fail
    refine bodyPost_ret (results_none rfl _ _ _) rfl ?_
    exact ⟨rfl, w1, hb0, by rw [if_pos ha1]⟩

end Go.Proofs.Ybulkeco
