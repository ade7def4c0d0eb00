/-
  The walk of LawS0248BReach.
-/
import Derived.Test.YbulkecoEmpty
import Derived.Deep.OwnRows
import Derived.Deep.AppendLies
import Derived.Lib.Builder
namespace Go.Proofs.Ybulkeco
open Go.RowKit
open Rc

namespace Rc
theorem Yba.info5 : (Yba.prog.info? 5).map (fun i => (i.zero, i.size, i.bytes)) = some (some (.int .u8 0), 1, 1) := by kernel_rfl
theorem Yba.info35 : (Yba.prog.info? 35).map (fun i => (i.zero, i.size, i.bytes)) = some (some (.agg #[.int .i64 0, .int .i64 0]), 2, 16) := by kernel_rfl

theorem Yba.some64 : (Yba.prog.info? 64).isSome = true := by kernel_rfl
theorem Yba.some47 : (Yba.prog.info? 47).isSome = true := by kernel_rfl
/-- A slice of bytes that came in. -/
structure Bys (w : World) (a : Option Addr) (b o n : Nat) (Z : Nat → Int) : Prop where
  addr : 0 < n → a = some ⟨b, o, none⟩
  cell : ∀ i, i < n → w.cell? ⟨b, o + i, none⟩ = some (.int .u8 (Z i))
  byte : ∀ i, i < n → 0 ≤ Z i ∧ Z i < 256
theorem Bys.later {w w' : World} {a : Option Addr} {b o n : Nat} {Z : Nat → Int} (h : Bys w a b o n Z) (hb : Below w.heap.size w w') : Bys w' a b o n Z :=
  ⟨h.addr, fun i hi => cell_later hb (h.cell i hi), h.byte⟩

/-- The table's byte. -/
def tb (z : Int) : Int := if z % 5 ≤ 2 then 10 else if z % 5 = 3 then 120 else 47

theorem tb_nat : ∀ (j : Nat) (h : j < (⟨#[10, 10, 10, 120, 47]⟩ : ByteArray).size), (((⟨#[10, 10, 10, 120, 47]⟩ : ByteArray)[j]'h).toNat : Int) = if j ≤ 2 then 10 else if j = 3 then 120 else 47
  | 0, _ => rfl
  | 1, _ => rfl
  | 2, _ => rfl
  | 3, _ => rfl
  | 4, _ => rfl
  | j + 5, h => absurd h (by show ¬ j + 5 < 5; omega)
theorem tb_at {z : Int} (h : (z % 5).toNat < (⟨#[10, 10, 10, 120, 47]⟩ : ByteArray).size) : (((⟨#[10, 10, 10, 120, 47]⟩ : ByteArray)[(z % 5).toNat]'h).toNat : Int) = tb z := by
  rw [tb_nat]
  unfold tb
  have h5 : 0 ≤ z % 5 ∧ z % 5 < 5 := by omega
  by_cases h1 : z % 5 ≤ 2
  · rw [if_pos h1, if_pos (by omega)]
  · rw [if_neg h1, if_neg (by omega)]
    by_cases h2 : z % 5 = 3
    · rw [if_pos h2, if_pos (by omega)]
    · rw [if_neg h2, if_neg (by omega)]

/-- The spans' ends; where they begin. -/
def endTo (G : Nat → Int) : Nat → Nat
  | 0 => 0
  | i + 1 => endTo G i + (G (2 * i) % 5).toNat + 1 + (G (2 * i + 1) % 5).toNat
def pos (G : Nat → Int) (i : Nat) : Nat := endTo G i + (G (2 * i) % 5).toNat
def fin (G : Nat → Int) (i : Nat) : Nat := endTo G (i + 1)

theorem endTo_le (G : Nat → Int) (i : Nat) : endTo G i ≤ 9 * i := by
  induction i with
  | zero => simp [endTo]
  | succ i ih => simp only [endTo]; omega

theorem sorted (G : Nat → Int) (m : Nat) : Sorted m (pos G) (fin G) :=
  ⟨fun i _ => by simp only [pos, fin, endTo]; omega, fun i _ => by simp only [pos, fin]; omega⟩

def spTo (G : Nat → Int) : Nat → List Value
  | 0 => []
  | i + 1 => spTo G i ++ [.int .i64 (pos G i), .int .i64 (fin G i)]

theorem spTo_len (G : Nat → Int) (j : Nat) : (spTo G j).length = j * 2 := by
  induction j with
  | zero => rfl
  | succ j ih => simp only [spTo, List.length_append, ih, List.length_cons, List.length_nil]; omega

theorem spTo_get (G : Nat → Int) : ∀ n j, j < n → (spTo G n)[j * 2]? = some (.int .i64 (pos G j)) ∧ (spTo G n)[j * 2 + 1]? = some (.int .i64 (fin G j)) := by
  intro n
  induction n with
  | zero => intro j h; omega
  | succ n ih =>
    intro j h
    have hl := spTo_len G n
    simp only [spTo]
    by_cases e : j = n
    · subst e
      rw [List.getElem?_append_right (by omega), List.getElem?_append_right (by omega), hl]
      simp
    · rw [List.getElem?_append_left (by omega), List.getElem?_append_left (by omega)]
      exact ih j (by omega)

theorem sp_step {G : Nat → Int} {j x y : Nat} (h : pos G j = endTo G j + x ∧ fin G j = endTo G j + x + 1 + y ∧ endTo G (j + 1) = endTo G j + x + 1 + y) {w1 wr w3 : World} {o : Obj} {ma : Option Addr} {mc gg cp : Nat}
    (hb : Below w1.heap.size w1 wr) (hown : wr.ownsRow w1.heap.size 35 2 (.slice ma j mc) j (spTo G j)) (hgrow : (wr.alloc o).grownBy w3 (Value.slice ma j mc).ownBlock)
    (hown3 : w3.ownsRow w1.heap.size 35 2 (.slice (some ⟨gg, 0, none⟩) (j + 1) cp) (j + 1) (spTo G j ++ [.int .i64 (((endTo G j : Nat) : Int) + (x : Int)), .int .i64 (((endTo G j : Nat) : Int) + (x : Int) + 1 + (y : Int))])) :
    Below w1.heap.size w1 w3 ∧ w3.ownsRow w1.heap.size 35 2 (.slice (some ⟨gg, 0, none⟩) (j + 1) cp) (j + 1) (spTo G (j + 1)) := by
  refine ⟨(hb.alloc hb.size o).grown hgrow (hb.alloc hb.size o).size (fun k hk => (hown.lt k hk).1), ?_⟩
  have e : spTo G (j + 1) = spTo G j ++ [.int .i64 (((endTo G j : Nat) : Int) + (x : Int)), .int .i64 (((endTo G j : Nat) : Int) + (x : Int) + 1 + (y : Int))] := by
    simp only [spTo, h.1, h.2.1]
    congr 2
  rw [e]
  exact hown3

theorem mod_nat (a k : Nat) : ∃ x : Nat, (a : Int) % ((k : Int) + 1) = (x : Int) ∧ x ≤ k := by
  have h1 : 0 ≤ (a : Int) % ((k : Int) + 1) := Int.emod_nonneg _ (by omega)
  have h2 : (a : Int) % ((k : Int) + 1) < (k : Int) + 1 := Int.emod_lt_of_pos _ (by omega)
  exact ⟨((a : Int) % ((k : Int) + 1)).toNat, by omega, by omega⟩

/-- Three new blocks: the place, the file, the parser. -/
structure Three (w w3 : World) (ini : Int) (vs vm : Value) : Prop where
  below : Below w.heap.size w w3
  size : w3.heap.size = w.heap.size + 1 + 1 + 1
  i0 : w3.cell? ⟨w.heap.size, 0, none⟩ = some (.int .i64 ini)
  i1 : w3.cell? ⟨w.heap.size, 1, none⟩ = some (.bool true)
  i2 : w3.cell? ⟨w.heap.size, 2, none⟩ = some (.bool false)
  f1 : w3.cell? ⟨w.heap.size + 1, 1, none⟩ = some vs
  f10 : w3.cell? ⟨w.heap.size + 1, 10, none⟩ = some (.int .i64 ini)
  f11 : w3.cell? ⟨w.heap.size + 1, 11, none⟩ = some (.bool true)
  f12 : w3.cell? ⟨w.heap.size + 1, 12, none⟩ = some (.bool false)
  f15 : w3.cell? ⟨w.heap.size + 1, 15, none⟩ = some vm
  q0 : w3.cell? ⟨w.heap.size + 1 + 1, 0, none⟩ = some (.pointer (some ⟨w.heap.size + 1, 0, none⟩))
  ff : ∀ x, w3.frozen? ⟨w.heap.size + 1, x, none⟩ = false

theorem three_world (w : World) (ini : Int) (vs vm : Value) {I F Q : Array Value} (hI : I = #[.int .i64 ini, .bool true, .bool false]) (hF1 : F[1]? = some vs) (hF10 : F[10]? = some (.int .i64 ini)) (hF11 : F[11]? = some (.bool true)) (hF12 : F[12]? = some (.bool false)) (hF15 : F[15]? = some vm)
    (hQ : Q[0]? = some (.pointer (some ⟨w.heap.size + 1, 0, none⟩))) : Three w (((w.alloc (.cells I 37)).alloc (.cells F 47)).alloc (.cells Q 64)) ini vs vm := by
  have e1 : (w.alloc (.cells I 37)).heap.size = w.heap.size + 1 := by simp
  have e2 : ((w.alloc (.cells I 37)).alloc (.cells F 47)).heap.size = w.heap.size + 1 + 1 := by simp
  have hi : ∀ x, (((w.alloc (.cells I 37)).alloc (.cells F 47)).alloc (.cells Q 64)).cell? ⟨w.heap.size, x, none⟩ = I[x]? := fun x => by
    rw [World.cell?_alloc_past _ _ _ (by rw [e2]; omega), World.cell?_alloc_past _ _ _ (by rw [e1]; omega), World.cell?_alloc_at _ _ _ _ rfl]
  have hf : ∀ x, (((w.alloc (.cells I 37)).alloc (.cells F 47)).alloc (.cells Q 64)).cell? ⟨w.heap.size + 1, x, none⟩ = F[x]? := fun x => by
    rw [World.cell?_alloc_past _ _ _ (by rw [e2]; omega), World.cell?_alloc_at _ _ _ _ e1.symm]
  subst hI
  refine ⟨(((Below.refl _ _).alloc (Nat.le_refl _) _).alloc (by rw [e1]; omega) _).alloc (by rw [e2]; omega) _, by simp, by rw [hi]; rfl, by rw [hi]; rfl, by rw [hi]; rfl, by rw [hf, hF1], by rw [hf, hF10], by rw [hf, hF11], by rw [hf, hF12], by rw [hf, hF15], ?_, fun x => ?_⟩
  · rw [World.cell?_alloc_at _ _ _ _ e2.symm, hQ]
  · rw [World.frozen?_alloc_past _ _ _ (by rw [e2]; omega), World.frozen?_alloc_at _ _ _ _ e1.symm]

theorem file_at {w w2 w3 : World} {ini : Int} {k mb j mc : Nat} {ma : Option Addr} {Z G : Nat → Int} (h : Three w2 w3 ini (.slice (some ⟨w.heap.size, 0, none⟩) k k) (.slice ma j mc)) (hrow : w2.rowIs w.heap.size 5 k (fun i => .int .u8 (tb (Z i)))) (hsp : Spans w2 ma mb j (pos G) (fin G)) :
    FileAt w3 (w2.heap.size + 1 + 1) (w2.heap.size + 1) w.heap.size k mb j mc ma (fun i => tb (Z i)) (pos G) (fin G) :=
  ⟨h.q0, h.f1, h.f15, fun _ hi => cell_later h.below (hrow.cell hi), hsp.later h.below⟩

theorem sp_done {G : Nat → Int} {j : Nat} {wr : World} {b : Nat} {ma : Option Addr} {mc : Nat} (hown : wr.ownsRow b 35 2 (.slice ma j mc) j (spTo G j)) : ∃ mb, Spans wr ma mb j (pos G) (fin G) := by
  rcases hown.2 with ⟨he, rfl⟩ | ⟨g, cap, cur, he, _, hg, _⟩
  · exact ⟨0, ⟨fun h => absurd h (Nat.lt_irrefl _), fun _ hi => absurd hi (Nat.not_lt_zero _), fun _ hi => absurd hi (Nat.not_lt_zero _)⟩⟩
  · simp only [Value.slice.injEq] at he
    obtain ⟨rfl, _, rfl⟩ := he
    refine ⟨g, ⟨fun _ => rfl, fun i hi => ?_, fun i hi => ?_⟩⟩
    · rw [hown.cellAt _ (by omega)]; exact (spTo_get G j i hi).1
    · rw [hown.cellAt _ (by omega)]; exact (spTo_get G j i hi).2

end Rc

theorem after_reach {w2 w3 w4 : World} {ini : Int} {fr : Nat} {pt : Bool} (hb : Below (w3.alloc (.cells #[.pointer (some ⟨w2.heap.size + 1 + 1, 0, none⟩), .int .i64 fr, .bool pt] 68)).heap.size (w3.alloc (.cells #[.pointer (some ⟨w2.heap.size + 1 + 1, 0, none⟩), .int .i64 fr, .bool pt] 68)) w4)
    (i0 : w3.cell? ⟨w2.heap.size, 0, none⟩ = some (.int .i64 ini)) (i1 : w3.cell? ⟨w2.heap.size, 1, none⟩ = some (.bool true)) (i2 : w3.cell? ⟨w2.heap.size, 2, none⟩ = some (.bool false))
    (f10 : w3.cell? ⟨w2.heap.size + 1, 10, none⟩ = some (.int .i64 ini)) (f11 : w3.cell? ⟨w2.heap.size + 1, 11, none⟩ = some (.bool true)) (f12 : w3.cell? ⟨w2.heap.size + 1, 12, none⟩ = some (.bool false))
    (q0 : w3.cell? ⟨w2.heap.size + 1 + 1, 0, none⟩ = some (.pointer (some ⟨w2.heap.size + 1, 0, none⟩))) :
    w4.cell? ⟨w3.heap.size, 0, none⟩ = some (.pointer (some ⟨w2.heap.size + 1 + 1, 0, none⟩)) ∧ w4.cell? ⟨w3.heap.size, 1, none⟩ = some (.int .i64 fr) ∧ w4.cell? ⟨w3.heap.size, 2, none⟩ = some (.bool pt) ∧
    w4.cell? ⟨w2.heap.size, 0, none⟩ = some (.int .i64 ini) ∧ w4.cell? ⟨w2.heap.size, 1, none⟩ = some (.bool true) ∧ w4.cell? ⟨w2.heap.size, 2, none⟩ = some (.bool false) ∧
    w4.cell? ⟨w2.heap.size + 1, 10, none⟩ = some (.int .i64 ini) ∧ w4.cell? ⟨w2.heap.size + 1, 11, none⟩ = some (.bool true) ∧ w4.cell? ⟨w2.heap.size + 1, 12, none⟩ = some (.bool false) ∧
    w4.cell? ⟨w2.heap.size + 1 + 1, 0, none⟩ = some (.pointer (some ⟨w2.heap.size + 1, 0, none⟩)) := by
  have h3 : Below w3.heap.size w3 (w3.alloc (.cells #[.pointer (some ⟨w2.heap.size + 1 + 1, 0, none⟩), .int .i64 fr, .bool pt] 68)) := (Below.refl _ _).alloc (Nat.le_refl _) _
  have h4 : Below w3.heap.size w3 w4 := h3.trans (hb.mono h3.size)
  exact ⟨cell_later hb (World.cell?_alloc_at _ _ _ _ rfl), cell_later hb (World.cell?_alloc_at _ _ _ _ rfl), cell_later hb (World.cell?_alloc_at _ _ _ _ rfl), cell_later h4 i0, cell_later h4 i1, cell_later h4 i2, cell_later h4 f10, cell_later h4 f11, cell_later h4 f12, cell_later h4 q0⟩

/-- reach, called by the law. -/
theorem call_reach {w w2 w3 : World} {ini : Int} {k mb j mc fr oo : Nat} {ma : Option Addr} {S : Nat → Int} {P E : Nat → Nat}
    (hFA : FileAt w3 (w2.heap.size + 1 + 1) (w2.heap.size + 1) w.heap.size k mb j mc ma S P E) (ff : ∀ x, w3.frozen? ⟨w2.heap.size + 1, x, none⟩ = false)
    (f10 : w3.cell? ⟨w2.heap.size + 1, 10, none⟩ = some (.int .i64 ini)) (f11 : w3.cell? ⟨w2.heap.size + 1, 11, none⟩ = some (.bool true)) (f12 : w3.cell? ⟨w2.heap.size + 1, 12, none⟩ = some (.bool false))
    (l1 : w2.heap.size + 1 < w3.heap.size) (l2 : w2.heap.size + 1 + 1 < w3.heap.size) (hj : j ≤ 512) (hn : k ≤ 1024) (ho : oo ≤ k) (hf : fr ≤ k) (ld pt : Bool) (hso : Sorted j P E) :
    Calls Yba.prog 10 #[.pointer (some ⟨w3.heap.size, 0, none⟩), .int .i64 oo, .bool ld] (w3.alloc (.cells #[.pointer (some ⟨w2.heap.size + 1 + 1, 0, none⟩), .int .i64 fr, .bool pt] 68)) fun e w' => e = .returned (.tuple #[]) ∧
      ReachTo (w3.alloc (.cells #[.pointer (some ⟨w2.heap.size + 1 + 1, 0, none⟩), .int .i64 fr, .bool pt] 68)) w' w3.heap.size (w2.heap.size + 1) (fnd (good S P E j) (oo - 1 - fr) fr) ld := by
  have hb : Below w3.heap.size w3 (w3.alloc (.cells #[.pointer (some ⟨w2.heap.size + 1 + 1, 0, none⟩), .int .i64 fr, .bool pt] 68)) := (Below.refl _ _).alloc (Nat.le_refl _) _
  exact reach_any w3.heap.size (w2.heap.size + 1 + 1) (w2.heap.size + 1) w.heap.size k mb j mc ma S P E fr oo ld _ (by omega) hso hn ho hf (hFA.later hb) (by omega)
    (World.cell?_alloc_at _ _ _ _ rfl) (World.cell?_alloc_at _ _ _ _ rfl) _ _ _ (cell_later hb f10) (cell_later hb f11) (cell_later hb f12)
    ((hb.frozen l1).trans (ff _)) ((hb.frozen l1).trans (ff _)) ((hb.frozen l1).trans (ff _)) (World.frozen?_alloc_at _ _ _ _ rfl)

set_option maxHeartbeats 1600000 in
set_option maxRecDepth 100000 in
theorem reach_walk (a0 : Option Addr) (b0 o0 n cap0 : Nat) (Z : Nat → Int) (from_ : Nat) (neg : Bool) (off : Nat) (ld pt : Bool) (a6 : Option Addr) (b6 o6 g cap6 : Nat) (G : Nat → Int) (ini : Int) (w : World)
    (hn : n ≤ 1024) (hg : g ≤ 1024) (hfrom : from_ < 65536) (hoff : off < 65536) (hZ : Bys w a0 b0 o0 n Z) (hG : Bys w a6 b6 o6 g G) :
    Calls Yba.prog 5 #[.slice a0 n cap0, .int .u16 from_, .bool neg, .int .u16 off, .bool ld, .bool pt, .slice a6 g cap6, .int .i64 ini] w fun e w' => e = .returned (.bool true) ∧ Below w.heap.size w w' := by
  obtain ⟨i35, hi35, hz35, hs35, hb35⟩ := info_parts Rc.Yba.info35
  have hmk := run_make_row' (P := Yba.prog) 30 5 (.int .u8 0) 1 Yba.underlying30 Rc.Yba.info5 rfl .i64 .i64 n (by omega) (by omega)
  obtain ⟨j64, hj64⟩ := Option.isSome_iff_exists.1 Rc.Yba.some64
  obtain ⟨j47, hj47⟩ := Option.isSome_iff_exists.1 Rc.Yba.some47
  have hp48 := fun (a : Addr) (w : World) => Lib.run_neq_ptr_same (P := Yba.prog) (w := w) a Yba.underlying48 hj64
  have hp24 := fun (a : Addr) (w : World) => Lib.run_neq_ptr_same (P := Yba.prog) (w := w) a Yba.underlying24 hj47
  have hn' : ¬ 1024 < n := by omega
  have hg' : ¬ 1024 < g := by omega
  go_enter Yba.func5, Yba.ntmps5
  go_wp2_with fail
  go_loopw [18] (fun i wr => ∃ k : Nat, k ≤ n ∧ i = .int .i64 k ∧ Below w.heap.size w wr ∧ wr.rowIs w.heap.size 5 n (fun i => .int .u8 (if i < k then tb (Z i) else 0))) (fun i _ => n - (intOf i).toNat)
  case atStart => exact ⟨0, Nat.zero_le _, rfl, (Below.refl _ _).alloc (Nat.le_refl _) _, (World.rowIs_made w (.int .u8 0) n 5).congr (fun i _ => by simp)⟩
  case round =>
    clear hmk
    obtain ⟨k, hk, rfl, hb, hrow⟩ := hrel
    by_cases hlt : k < n
    · obtain rfl := hZ.addr (by omega)
      have hc := cell_later hb (hZ.cell k hlt)
      have hzb := hZ.byte k hlt
      have d0 := hrow.cell hlt
      have d1 := hrow.frozen k
      have hlt0 := hrow.lt
      go_wp2_with fail
      go_roundw
      case rel =>
        rw [tb_at]
        refine ⟨k + 1, by omega, by go_num, hb.setCell (Nat.le_refl _) _, (hrow.set k _).congr (fun i _ => ?_)⟩
        by_cases e : i = k
        · subst e; simp
        · rw [if_neg e]
          by_cases h2 : i < k
          · rw [if_pos h2, if_pos (by omega)]
          · rw [if_neg h2, if_neg (by omega)]
      case measure => simp [intOf]; omega
    · obtain rfl : k = n := by omega
      have hrow1 : wr.rowIs w.heap.size 5 k (fun i => .int .u8 (tb (Z i))) := hrow.congr (fun i hi => by rw [if_pos hi])
      have hG1 := hG.later hb
      have hsz : w.heap.size + 1 ≤ wr.heap.size := hrow.lt
      clear hrow hk hlt
      obtain ⟨w1, ew⟩ : ∃ x, x = wr := ⟨_, rfl⟩
      subst ew
      go_wp2_with fail
      go_loopw [20, 21, 22] (fun v p i w2 => ∃ (j : Nat) (ma : Option Addr) (mc : Nat), 2 * j ≤ g ∧ i = .int .i64 ((2 * j : Nat) : Int) ∧ p = .int .i64 (endTo G j) ∧ v = .slice ma j mc ∧ Below w1.heap.size w1 w2 ∧ w2.ownsRow w1.heap.size 35 2 (.slice ma j mc) j (spTo G j)) (fun _ _ i _ => g - (intOf i).toNat)
      case atStart => exact ⟨0, none, 0, Nat.zero_le _, rfl, rfl, rfl, Below.refl _ _, World.ownsRow_nil _ _ _ _⟩
      case round =>
        obtain ⟨j, ma, mc, hj, rfl, rfl, rfl, hb2, hown⟩ := hrel
        have hle := endTo_le G j
        by_cases hlt : 2 * j + 1 < g
        · obtain rfl := hG1.addr (by omega)
          have hc0 := cell_later hb2 (hG1.cell (2 * j) (by omega))
          have hc1 := cell_later hb2 (hG1.cell (2 * j + 1) (by omega))
          have hz0 := hG1.byte (2 * j) (by omega)
          have hz1 := hG1.byte (2 * j + 1) (by omega)
          obtain ⟨x, hx, hx4, hpx⟩ : ∃ x : Nat, G (2 * j) % 5 = (x : Int) ∧ x ≤ 4 ∧ pos G j = endTo G j + x := ⟨(G (2 * j) % 5).toNat, by omega, by omega, rfl⟩
          obtain ⟨y, hy, hy4, hfy⟩ : ∃ y : Nat, G (2 * j + 1) % 5 = (y : Int) ∧ y ≤ 4 ∧ fin G j = pos G j + 1 + y := ⟨(G (2 * j + 1) % 5).toNat, by omega, by omega, rfl⟩
          have HP : Hid (pos G j = endTo G j + x ∧ fin G j = endTo G j + x + 1 + y ∧ endTo G (j + 1) = endTo G j + x + 1 + y) := ⟨hpx, by omega, by rw [← hpx, ← hfy]; rfl⟩
          clear hpx hfy
          have hltz : 2 * (j : Int) + 1 < (g : Int) := by omega
          go_wp2_with (at_builtin; (refine wpList_append_lies _ (by rfl) (.tmp 86) (.tmp 90) 33 (by rfl) w1.heap.size 35 i35 (.agg #[.int .i64 0, .int .i64 0]) 2 16 Yba.underlying33 hi35 hz35 hs35 hb35 rfl (by decide) _ _ _ (by rfl) (hown.alloc _) ⟨wr.heap.size, 0, none⟩ 1 1 [.int .i64 (((endTo G j : Nat) : Int) + (x : Int)), .int .i64 (((endTo G j : Nat) : Int) + (x : Int) + 1 + (y : Int))] (by rfl) (by rfl) (World.news_of_block (heap_alloc_new wr _)) ?c1 ?c2 ?c3 ?c4 ?c5 _ rfl ?_))
          case c1 =>
            intro u hu
            simp at hu
            rcases hu with rfl | rfl <;> rfl
          case c2 => decide
          case c3 => unfold maxLen; omega
          case c4 => omega
          case c5 => have := hb2.size; simp; omega
          intro gg cp w3 hown3 hgrow _ _
          obtain ⟨hb3, hown4⟩ := sp_step HP.out hb2 hown hgrow hown3
          clear hown hown3 hgrow hb2
          go_wp2_with fail
          go_roundw
          case rel => exact ⟨j + 1, _, _, by omega, by go_num, by rw [HP.out.2.2]; go_num, rfl, hb3, hown4⟩
          case measure => simp [intOf]; omega
        · have hltz : ¬ 2 * (j : Int) + 1 < (g : Int) := by omega
          obtain ⟨mb, hsp⟩ := sp_done hown
          have hb0 := hb.trans (hb2.mono (by omega))
          have hrow2 : wr.rowIs w.heap.size 5 k (fun i => .int .u8 (tb (Z i))) := hrow1.of_block (hb2.block _ (by omega))
          have hj2 : j ≤ 512 := by omega
          clear hown hrow1 hG1 hG hb hb2 hsz hlt
          obtain ⟨w2, ew⟩ : ∃ x, x = wr := ⟨_, rfl⟩
          subst ew
          obtain ⟨oo, hoo, hok⟩ : ∃ oo : Nat, (off : Int) % ((k : Int) + 1) = (oo : Int) ∧ oo ≤ k := mod_nat off k
          obtain ⟨fr, hff, hfk⟩ : ∃ fr : Nat, (from_ : Int) % ((k : Int) + 1) = (fr : Int) ∧ fr ≤ k := mod_nat from_ k
          cases neg with
          | true =>
            go_wp2_with fail
            have hT := three_world w2 ini (.slice (some ⟨w.heap.size, 0, none⟩) k k) (.slice ma j mc) (I := #[.int .i64 ini, .bool true, .bool false]) (F := #[.string ⟨#[]⟩, .slice (some ⟨w.heap.size, 0, none⟩) k k, .pointer none, .string ⟨#[]⟩, .slice none 0 0, .slice none 0 0, .slice none 0 0, .slice none 0 0, .slice none 0 0, .slice none 0 0, .int .i64 ini, .bool true, .bool false, .slice none 0 0, .slice none 0 0, .slice ma j mc]) (Q := #[.pointer (some ⟨w2.heap.size + 1, 0, none⟩), .slice none 0 0, .nilFunc, .int .i64 0, .slice none 0 0, .map none, .map none, .map none, .slice none 0 0, .int .i64 0, .bool false, .int .i64 0, .bool false, .bool false, .map none, .int .i64 0, .bool false, .pointer none, .bool false, .pointer none, .pointer none]) rfl rfl rfl rfl rfl rfl rfl
            generalize (((w2.alloc (.cells #[.int .i64 ini, .bool true, .bool false] 37)).alloc (.cells #[.string ⟨#[]⟩, .slice (some ⟨w.heap.size, 0, none⟩) k k, .pointer none, .string ⟨#[]⟩, .slice none 0 0, .slice none 0 0, .slice none 0 0, .slice none 0 0, .slice none 0 0, .slice none 0 0, .int .i64 ini, .bool true, .bool false, .slice none 0 0, .slice none 0 0, .slice ma j mc] 47)).alloc (.cells #[.pointer (some ⟨w2.heap.size + 1, 0, none⟩), .slice none 0 0, .nilFunc, .int .i64 0, .slice none 0 0, .map none, .map none, .map none, .slice none 0 0, .int .i64 0, .bool false, .int .i64 0, .bool false, .bool false, .map none, .int .i64 0, .bool false, .pointer none, .bool false, .pointer none, .pointer none] 64)) = w3 at hT ⊢
            obtain ⟨hb3, hsz3, i0, i1, i2, f1, f10, f11, f12, f15, q0, ff⟩ := hT
            have hs3 := hsz3.symm
            rw [hs3]
            clear hsz3 ff
            have l0 : w2.heap.size < w3.heap.size := by omega
            have l1 : w2.heap.size + 1 < w3.heap.size := by omega
            have l2 : w2.heap.size + 1 + 1 < w3.heap.size := by omega
            refine (reach_neg w3.heap.size oo (-1 - (from_ : Int)) ld _ (World.cell?_alloc_at _ _ _ _ rfl) (by omega)).mono ?_
            rintro e w4 ⟨rfl, rfl⟩
            go_wp2_with fail
            go_quiet (fail)
            go_wp2_with fail
            go_ret
            exact ⟨rfl, below_drewN ((hb0.trans (hb3.mono hb0.size)).alloc (hb0.trans (hb3.mono hb0.size)).size _) _⟩
          | false =>
            go_wp2_with fail
            have hT := three_world w2 ini (.slice (some ⟨w.heap.size, 0, none⟩) k k) (.slice ma j mc) (I := #[.int .i64 ini, .bool true, .bool false]) (F := #[.string ⟨#[]⟩, .slice (some ⟨w.heap.size, 0, none⟩) k k, .pointer none, .string ⟨#[]⟩, .slice none 0 0, .slice none 0 0, .slice none 0 0, .slice none 0 0, .slice none 0 0, .slice none 0 0, .int .i64 ini, .bool true, .bool false, .slice none 0 0, .slice none 0 0, .slice ma j mc]) (Q := #[.pointer (some ⟨w2.heap.size + 1, 0, none⟩), .slice none 0 0, .nilFunc, .int .i64 0, .slice none 0 0, .map none, .map none, .map none, .slice none 0 0, .int .i64 0, .bool false, .int .i64 0, .bool false, .bool false, .map none, .int .i64 0, .bool false, .pointer none, .bool false, .pointer none, .pointer none]) rfl rfl rfl rfl rfl rfl rfl
            generalize (((w2.alloc (.cells #[.int .i64 ini, .bool true, .bool false] 37)).alloc (.cells #[.string ⟨#[]⟩, .slice (some ⟨w.heap.size, 0, none⟩) k k, .pointer none, .string ⟨#[]⟩, .slice none 0 0, .slice none 0 0, .slice none 0 0, .slice none 0 0, .slice none 0 0, .slice none 0 0, .int .i64 ini, .bool true, .bool false, .slice none 0 0, .slice none 0 0, .slice ma j mc] 47)).alloc (.cells #[.pointer (some ⟨w2.heap.size + 1, 0, none⟩), .slice none 0 0, .nilFunc, .int .i64 0, .slice none 0 0, .map none, .map none, .map none, .slice none 0 0, .int .i64 0, .bool false, .int .i64 0, .bool false, .bool false, .map none, .int .i64 0, .bool false, .pointer none, .bool false, .pointer none, .pointer none] 64)) = w3 at hT ⊢
            have hFA := file_at hT hrow2 hsp
            obtain ⟨hb3, hsz3, i0, i1, i2, f1, f10, f11, f12, f15, q0, ff⟩ := hT
            have hb03 := hb0.trans (hb3.mono hb0.size)
            have l0 : w2.heap.size < w3.heap.size := by omega
            have l1 : w2.heap.size + 1 < w3.heap.size := by omega
            have l2 : w2.heap.size + 1 + 1 < w3.heap.size := by omega
            clear hsz3
            go_loop [29, 30] (fun f v => ∃ x : Nat, fr ≤ x ∧ x ≤ k ∧ v = .int .i64 x ∧ f = .int .i64 (-1) ∧ Hid (fnd (good (fun i => tb (Z i)) (pos G) (fin G) j) (oo - 1 - fr) fr = fnd (good (fun i => tb (Z i)) (pos G) (fin G) j) (oo - 1 - x) x)) (fun _ v => k - (intOf v).toNat)
            case atStart => exact ⟨fr, Nat.le_refl _, hfk, rfl, rfl, rfl⟩
            case round =>
              obtain ⟨x, hx1, hx2, rfl, rfl, HF⟩ := hrel
              by_cases hlt : x + 1 < oo
              · have hltz : (x : Int) + 1 < (oo : Int) := by omega
                have c2 := hFA.src x (by omega)
                have c3 := hFA.src (x + 1) (by omega)
                by_cases h1 : (tb (Z x) == 10) = true
                · by_cases h2 : (tb (Z (x + 1)) == 10) = true
                  · go_wp2_with fail
                    refine (inside_any ma mb j mc (pos G) (fin G) x w3 (by omega) hFA.sp).mono ?_
                    rintro e w1 ⟨rfl, hw⟩
                    have hw := hw.symm
                    subst hw
                    cases h3 : insB (pos G) (fin G) x j with
                    | true =>
                      have HN : Hid (fnd (good (fun i => tb (Z i)) (pos G) (fin G) j) (oo - 1 - fr) fr = fnd (good (fun i => tb (Z i)) (pos G) (fin G) j) (oo - 1 - (x + 1)) (x + 1)) := by
                        show _ = _
                        rw [HF.out, fnd_miss (by omega) (by simp [good, h3])]
                        congr 1
                      go_wp2_with fail
                      go_round
                      case rel => exact ⟨x + 1, by omega, by omega, by go_num, rfl, HN⟩
                      case measure => simp [intOf]; omega
                    | false =>
                      have HR : Hid (fnd (good (fun i => tb (Z i)) (pos G) (fin G) j) (oo - 1 - fr) fr = (x : Int) + 1) := by
                        show _ = _
                        rw [HF.out, fnd_hit (by omega) (by simp only [good, h1, h2, h3]; rfl)]
                      go_wp2_with fail
                      have hcall := call_reach hFA ff f10 f11 f12 l1 l2 hj2 hn hok hfk ld pt (fr := fr) (oo := oo) (sorted G j)
                      rw [HR.out] at hcall
                      refine hcall.mono ?_
                      clear hcall
                      rintro e w5 ⟨rfl, w4, hb4, hw5⟩
                      rw [if_pos (by omega)] at hw5
                      subst hw5
                      obtain ⟨s0, s1, s2, m0, m1, m2, m10, m11, m12, p0⟩ := after_reach hb4 i0 i1 i2 f10 f11 f12 q0
                      have hb5 := hb03.trans (((Below.refl _ _).alloc (Nat.le_refl _) _).trans (hb4.mono (by simp)) |>.mono hb03.size)
                      clear hb4
                      have hx0 : (0 : Int) ≤ (x : Int) + 1 := by omega
                      go_wp2_with fail
                      go_ret
                      refine ⟨rfl, ?_⟩
                      exact (((hb5.setCell (by show w.heap.size ≤ w2.heap.size + 1; have := hb0.size; omega) _).setCell (by show w.heap.size ≤ w2.heap.size + 1; have := hb0.size; omega) _).setCell (by show w.heap.size ≤ w2.heap.size + 1; have := hb0.size; omega) _).setCell (by show w.heap.size ≤ w3.heap.size; exact hb03.size) _
                  · have h2' : (tb (Z (x + 1)) == 10) = false := by simpa using h2
                    have HN : Hid (fnd (good (fun i => tb (Z i)) (pos G) (fin G) j) (oo - 1 - fr) fr = fnd (good (fun i => tb (Z i)) (pos G) (fin G) j) (oo - 1 - (x + 1)) (x + 1)) := by
                      show _ = _
                      rw [HF.out, fnd_miss (by omega) (by simp [good, h2'])]
                      congr 1
                    go_wp2_with fail
                    go_round
                    case rel => exact ⟨x + 1, by omega, by omega, by go_num, rfl, HN⟩
                    case measure => simp [intOf]; omega
                · have h1' : (tb (Z x) == 10) = false := by simpa using h1
                  have HN : Hid (fnd (good (fun i => tb (Z i)) (pos G) (fin G) j) (oo - 1 - fr) fr = fnd (good (fun i => tb (Z i)) (pos G) (fin G) j) (oo - 1 - (x + 1)) (x + 1)) := by
                    show _ = _
                    rw [HF.out, fnd_miss (by omega) (by simp [good, h1'])]
                    congr 1
                  go_wp2_with fail
                  go_round
                  case rel => exact ⟨x + 1, by omega, by omega, by go_num, rfl, HN⟩
                  case measure => simp [intOf]; omega
              · have hltz : ¬ (x : Int) + 1 < (oo : Int) := by omega
                have HR : Hid (fnd (good (fun i => tb (Z i)) (pos G) (fin G) j) (oo - 1 - fr) fr = -1) := by
                  show _ = _
                  rw [HF.out, show oo - 1 - x = 0 from by omega, fnd_none]
                go_wp2_with fail
                have hcall := call_reach hFA ff f10 f11 f12 l1 l2 hj2 hn hok hfk ld pt (fr := fr) (oo := oo) (sorted G j)
                rw [HR.out] at hcall
                refine hcall.mono ?_
                clear hcall
                rintro e w5 ⟨rfl, w4, hb4, hw5⟩
                rw [if_neg (by omega)] at hw5
                obtain ⟨s0, s1, s2, m0, m1, m2, m10, m11, m12, p0⟩ := after_reach hb4 i0 i1 i2 f10 f11 f12 q0
                have hb5 := hb03.trans (((Below.refl _ _).alloc (Nat.le_refl _) _).trans (hb4.mono (by simp)) |>.mono hb03.size)
                clear hb4
                cases ld with
                | true =>
                  rw [if_pos rfl] at hw5
                  subst hw5
                  go_wp2_with fail
                  go_quiet (fail)
                  go_wp2_with fail
                  go_ret
                  exact ⟨rfl, below_drewN hb5 _⟩
                | false =>
                  rw [if_neg (by decide)] at hw5
                  subst hw5
                  go_wp2_with fail
                  go_quiet (fail)
                  go_wp2_with fail
                  go_ret
                  exact ⟨rfl, below_drewN (hb5.setCell (by show w.heap.size ≤ w3.heap.size; exact hb03.size) _) _⟩

set_option maxHeartbeats 800000 in
set_option maxRecDepth 100000 in
theorem reach_long (a0 : Option Addr) (n cap0 : Nat) (from_ : Int) (neg : Bool) (off : Int) (ld pt : Bool) (a6 : Option Addr) (g cap6 : Nat) (ini : Int) (w : World) (hn : n ≤ 9223372036854775807) (hg : g ≤ 9223372036854775807) (h : 1024 < n ∨ 1024 < g) :
    Calls Yba.prog 5 #[.slice a0 n cap0, .int .u16 from_, .bool neg, .int .u16 off, .bool ld, .bool pt, .slice a6 g cap6, .int .i64 ini] w fun e w' => e = .returned (.bool true) ∧ Below w.heap.size w w' := by
  by_cases h1 : 1024 < n
  · go_enter Yba.func5, Yba.ntmps5
    go_wp2_with fail
    go_ret
    exact ⟨rfl, Below.refl _ _⟩
  · have h2 : 1024 < g := by omega
    clear h
    go_enter Yba.func5, Yba.ntmps5
    go_wp2_with fail
    go_ret
    exact ⟨rfl, Below.refl _ _⟩

end Go.Proofs.Ybulkeco
