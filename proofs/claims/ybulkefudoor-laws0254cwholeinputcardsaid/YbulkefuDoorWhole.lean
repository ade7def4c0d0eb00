/-
  LawS0254CWholeInput's walk.
-/
import Derived.Test.YbulkefuDoorDigits
namespace Go.Proofs.YbulkefuDoor
open Go.RowKit

theorem reset_new (w : World) (sa : Option Addr) (n c : Nat) :
    Calls Ybad.prog 6 #[.pointer (some ⟨w.heap.size, 0, none⟩), .slice sa n c, .int .i64 0] (w.alloc (.cells #[.slice none 0 0, .int .i64 0, .nilIface, .bool false, .nilIface, .int .i64 0, .int .i64 0, .int .i64 0, .slice none 0 0, .slice none 0 0, .slice none 0 0, .slice none 0 0] 34))
      fun e w' => e = .returned (.tuple #[]) ∧ Below w.heap.size w w' ∧ w'.cell? ⟨w.heap.size, 0, none⟩ = some (.slice sa n c) ∧ w'.cell? ⟨w.heap.size, 3, none⟩ = some (.bool true) := by
  have hb : Below w.heap.size w (w.alloc (.cells #[.slice none 0 0, .int .i64 0, .nilIface, .bool false, .nilIface, .int .i64 0, .int .i64 0, .int .i64 0, .slice none 0 0, .slice none 0 0, .slice none 0 0, .slice none 0 0] 34)) := (Below.refl _ _).alloc (Nat.le_refl _) _
  have hr := World.rowIs_alloc w #[.slice none 0 0, .int .i64 0, .nilIface, .bool false, .nilIface, .int .i64 0, .int .i64 0, .int .i64 0, .slice none 0 0, .slice none 0 0, .slice none 0 0, .slice none 0 0] 34 (fun i => ((#[.slice none 0 0, .int .i64 0, .nilIface, .bool false, .nilIface, .int .i64 0, .int .i64 0, .int .i64 0, .slice none 0 0, .slice none 0 0, .slice none 0 0, .slice none 0 0] : Array Value)[i]?).getD (.bool false)) (fun i hi => by
    rw [Array.getElem?_eq_getElem hi]; rfl)
  generalize w.alloc (.cells #[.slice none 0 0, .int .i64 0, .nilIface, .bool false, .nilIface, .int .i64 0, .int .i64 0, .int .i64 0, .slice none 0 0, .slice none 0 0, .slice none 0 0, .slice none 0 0] 34) = w1 at *
  refine (reset_any w.heap.size _ _ _ _ _ _ w1 (hr.cell (by decide)) (hr.cell (by decide)) (hr.cell (by decide)) (hr.cell (by decide)) (hr.cell (by decide)) (hr.cell (by decide)) (hr.frozen _) (hr.frozen _) (hr.frozen _) (hr.frozen _) (hr.frozen _) (hr.frozen _) sa n c).mono ?_
  rintro e w' ⟨rfl, rfl⟩
  refine ⟨rfl, (((((hb.setCell (Nat.le_refl _) _).setCell (Nat.le_refl _) _).setCell (Nat.le_refl _) _).setCell (Nat.le_refl _) _).setCell (Nat.le_refl _) _).setCell (Nat.le_refl _) _, ?_, ?_⟩
  · exact ((((((hr.set 0 _).set 1 _).set 2 _).set 3 _).set 4 _).set 5 _).cell (i := 0) (by decide)
  · exact ((((((hr.set 0 _).set 1 _).set 2 _).set 3 _).set 4 _).set 5 _).cell (i := 3) (by decide)

set_option maxHeartbeats 800000 in
theorem whole_walk (a : Option Addr) (b o n c : Nat) (Z : Nat → Int) (at' : Int) (w : World) (hat : 0 ≤ at' ∧ at' ≤ 65535) (h : Bs w a b o n Z) (hn : n ≤ 1024) :
    Calls Ybad.prog 3 #[.slice a n c, .int .u16 at'] w fun e w' => e = .returned (.bool true) ∧ Below w.heap.size w w' := by
  have hn' : ¬ 1024 < n := by omega
  obtain ⟨i, hi, hi2⟩ : ∃ i : Nat, at' % ((n : Int) + 4) = (i : Int) ∧ i ≤ 65535 := by
    have h1 := Int.emod_nonneg at' (b := (n : Int) + 4) (by omega)
    have h2 := Int.emod_lt_of_pos at' (b := (n : Int) + 4) (by omega)
    exact ⟨(at' % ((n : Int) + 4)).toNat, by omega, by omega⟩
  go_enter Ybad.func3, Ybad.ntmps3
  go_wp2_with fail
  refine (map_any a b o n c Z w h hn).mono ?_
  rintro e w1 ⟨rfl, hM⟩
  have hbs := hM.bs
  have hb1 := hM.below
  have HB : Hid (Bs w1 (some ⟨w.heap.size, 0, none⟩) w.heap.size 0 n (fun i => mp (Z i))) := hbs
  clear hM hbs h
  go_wp2_with fail
  refine (reset_new w1 _ n n).mono ?_
  rintro e w2 ⟨rfl, hb2, hc0, hc3⟩
  have hbs2 := HB.out.later hb2
  have HB2 : Hid (Bs w2 (some ⟨w.heap.size, 0, none⟩) w.heap.size 0 n (fun i => mp (Z i))) := hbs2
  have hB2 : Below w.heap.size w w2 := hb1.trans (hb2.mono hb1.size)
  have HW : Hid (Word w1.heap.size n (fun i => mp (Z i)) (fun w' m => w' = w2 ∧ m = n)) := word_eof w1.heap.size n _ w2 _ _ _ _ ⟨hc0, hbs2⟩ hc3
  clear hbs2 HB
  go_wp2_with fail
  refine (digits_any w1.heap.size n _ _ HW.out (by omega) i n (by omega) w2 ⟨rfl, rfl⟩).mono ?_
  rintro e w3 ⟨r, m, rfl, hd, ⟨hw3, _⟩, _, _, hr⟩
  have hw3' := hw3.symm
  subst hw3'
  clear HW
  have HD : Hid (Dig (fun i => mp (Z i)) n i r) := hd
  clear hd
  go_wp2_with fail
  refine (want_any _ _ _ n n _ i w2 HB2.out (by omega) (by omega)).mono ?_
  rintro e w4 ⟨⟨s, rfl, hs, _⟩, rfl⟩
  obtain rfl := HD.out.unique hs
  go_wp2_with fail
  go_ret
  exact ⟨rfl, hB2⟩

set_option maxHeartbeats 400000 in
theorem whole_long (a : Option Addr) (n c : Nat) (at' : Int) (w : World) (hn : 1024 < n) :
    Calls Ybad.prog 3 #[.slice a n c, .int .u16 at'] w fun e w' => e = .returned (.bool true) ∧ Below w.heap.size w w' := by
  go_enter Ybad.func3, Ybad.ntmps3
  go_wp2
  go_ret
  exact ⟨rfl, Below.refl _ _⟩

end Go.Proofs.YbulkefuDoor
