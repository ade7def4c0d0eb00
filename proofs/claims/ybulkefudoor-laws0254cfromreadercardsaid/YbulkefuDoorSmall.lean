/-
  zzs0254cmap, zzs0254cwant: what they answer.
-/
import Derived.Test.YbulkefuDoorRows
import Derived.WalkKit
import Derived.WalkSpells
import Derived.WalkLawsBesides
import Derived.Deep.OwnRows
namespace Go.Proofs.YbulkefuDoor
open Go.RowKit

/-- A slice of bytes: the numbers Z. -/
structure Bs (w : World) (a : Option Addr) (b o n : Nat) (Z : Nat → Int) : Prop where
  addr : 0 < n → a = some ⟨b, o, none⟩
  cell : ∀ i, i < n → w.cell? ⟨b, o + i, none⟩ = some (.int .u8 (Z i))
  rng : ∀ i, i < n → 0 ≤ Z i ∧ Z i < 256
theorem Bs.later {w w' : World} {a : Option Addr} {b o n : Nat} {Z : Nat → Int} (h : Bs w a b o n Z) (hb : Below w.heap.size w w') : Bs w' a b o n Z :=
  ⟨h.addr, fun i hi => cell_later hb (h.cell i hi), h.rng⟩

def tab : ByteArray := ⟨#[48, 49, 50, 51, 52, 53, 54, 55, 56, 57, 97, 45, 46, 101]⟩
/-- The byte that z stands for. -/
def mp (z : Int) : Int := ((tab.data[(z % 14).toNat]?).getD 0).toNat

/-- A digit. -/
def isd (c : Int) : Prop := 48 ≤ c ∧ c ≤ 57

/-- r is the first place from i on that is no digit among the n bytes B. -/
structure Dig (B : Nat → Int) (n i r : Nat) : Prop where
  le : i ≤ r
  all : ∀ j, i ≤ j → j < r → j < n ∧ isd (B j)
  stop : r < n → ¬ isd (B r)

theorem Dig.unique {B : Nat → Int} {n i r s : Nat} (h : Dig B n i r) (k : Dig B n i s) : r = s := by
  rcases Nat.lt_trichotomy r s with h1 | h1 | h1
  · have := k.all r h.le h1
    exact absurd this.2 (h.stop this.1)
  · exact h1
  · have := h.all s k.le h1
    exact absurd this.2 (k.stop this.1)

set_option maxHeartbeats 400000 in
theorem want_any (a : Option Addr) (b o n c : Nat) (B : Nat → Int) (i : Nat) (w : World) (h : Bs w a b o n B) (hn : n ≤ 1000000) (hi : i ≤ 1000000) :
    Calls Ybad.prog 8 #[.slice a n c, .int .i64 i] w fun e w' => (∃ r : Nat, e = .returned (.int .i64 r) ∧ Dig B n i r ∧ r ≤ 1000000) ∧ w' = w := by
  by_cases h0 : n ≤ i
  · have h0' : (n : Int) ≤ (i : Int) := by omega
    go_enter Ybad.func8, Ybad.ntmps8
    go_wp2
    go_ret
    exact ⟨⟨i, rfl, ⟨Nat.le_refl _, fun j h1 h2 => by omega, fun h1 => by omega⟩, hi⟩, rfl⟩
  · have h0' : ¬ (n : Int) ≤ (i : Int) := by omega
    obtain rfl := h.addr (by omega)
    go_enter Ybad.func8, Ybad.ntmps8
    go_wp2_with fail
    go_loopw [5] (fun v wr => ∃ k : Nat, v = .int .i64 k ∧ i ≤ k ∧ k ≤ n ∧ wr = w ∧ ∀ j, i ≤ j → j < k → isd (B j)) (fun v _ => n - (intOf v).toNat)
    case atStart => exact ⟨i, rfl, Nat.le_refl _, by omega, rfl, fun j h1 h2 => by omega⟩
    case round =>
      obtain ⟨k, rfl, hik, hkn, rfl, hall⟩ := hrel
      by_cases hk : k < n
      · have hk' : (k : Int) < (n : Int) := by omega
        have hc := h.cell k hk
        by_cases hlo : B k < 48
        · go_wp2
          go_ret
          exact ⟨⟨k, rfl, ⟨hik, fun j h1 h2 => ⟨by omega, hall j h1 h2⟩, fun _ hd => by unfold isd at hd; omega⟩, by omega⟩, rfl⟩
        · by_cases hhi : 57 < B k
          · go_wp2
            go_ret
            exact ⟨⟨k, rfl, ⟨hik, fun j h1 h2 => ⟨by omega, hall j h1 h2⟩, fun _ hd => by unfold isd at hd; omega⟩, by omega⟩, rfl⟩
          · go_wp2
            go_roundw
            case rel => exact ⟨k + 1, by go_num, by omega, by omega, by first | rfl | trivial, fun j h1 h2 => by
              by_cases e : j = k
              · subst e; unfold isd; omega
              · exact hall j h1 (by omega)⟩
            case measure => simp [intOf]; omega
      · have hk' : ¬ (k : Int) < (n : Int) := by omega
        obtain rfl : k = n := by omega
        go_wp2
        go_ret
        exact ⟨⟨k, rfl, ⟨hik, fun j h1 h2 => ⟨h2, hall j h1 h2⟩, fun h1 => by omega⟩, by omega⟩, rfl⟩

theorem Ybad.info5 : (Ybad.prog.info? 5).map (fun i => (i.zero, i.size, i.bytes)) = some (some (.int .u8 0), 1, 1) := by kernel_rfl

theorem make22 (n : Nat) (hn : n ≤ 1000000) (w : World) :
    (Instr.makeSlice 22 (.int .i64 n) (.int .i64 n)).run Ybad.prog w = .ok (.slice (some ⟨w.heap.size, 0, none⟩) n n) (w.alloc (.cells (madeCells #[.int .u8 0] n) 5)) :=
  run_make_row' 22 5 _ 1 Ybad.underlying22 Ybad.info5 rfl .i64 .i64 n (by omega) (by omega) w

theorem mp_is (z : Int) (h : (z % 14).toNat < (⟨#[48, 49, 50, 51, 52, 53, 54, 55, 56, 57, 97, 45, 46, 101]⟩ : ByteArray).size) : (((⟨#[48, 49, 50, 51, 52, 53, 54, 55, 56, 57, 97, 45, 46, 101]⟩ : ByteArray)[(z % 14).toNat]'h).toNat : Int) = mp z := by
  have h' : (z % 14).toNat < tab.data.size := h
  unfold mp
  rw [Array.getElem?_eq_getElem h']
  rfl

/-- k rounds of zzs0254cmap. -/
structure Mp (w wr : World) (n : Nat) (Z : Nat → Int) (k : Nat) : Prop where
  below : Below w.heap.size w wr
  row : wr.rowIs w.heap.size 5 n (fun j => if j < k then .int .u8 (mp (Z j)) else .int .u8 0)

theorem mp_rng (z : Int) : 0 ≤ mp z ∧ mp z < 256 := by
  unfold mp
  have := UInt8.toNat_lt ((tab.data[(z % 14).toNat]?).getD 0)
  omega

theorem Mp.bs {w wr : World} {n : Nat} {Z : Nat → Int} (h : Mp w wr n Z n) : Bs wr (some ⟨w.heap.size, 0, none⟩) w.heap.size 0 n (fun i => mp (Z i)) :=
  ⟨fun _ => rfl, fun i hi => by rw [Nat.zero_add, h.row.cell hi, if_pos hi], fun i _ => mp_rng _⟩

set_option maxHeartbeats 400000 in
theorem map_any (a : Option Addr) (b o n c : Nat) (Z : Nat → Int) (w : World) (h : Bs w a b o n Z) (hn : n ≤ 1024) :
    Calls Ybad.prog 5 #[.slice a n c] w fun e w' => e = .returned (.slice (some ⟨w.heap.size, 0, none⟩) n n) ∧ Mp w w' n Z n := by
  have hmk := make22 n (by omega)
  have h0 : Mp w (w.alloc (.cells (madeCells #[.int .u8 0] n) 5)) n Z 0 := ⟨(Below.refl _ _).alloc (Nat.le_refl _) _, (World.rowIs_made w _ n 5).congr (fun i _ => by simp)⟩
  go_enter Ybad.func5, Ybad.ntmps5
  go_wp2_with fail
  go_loopw [4] (fun v wr => ∃ k : Nat, v = .int .i64 k ∧ k ≤ n ∧ Mp w wr n Z k) (fun v _ => n - (intOf v).toNat)
  case atStart => exact ⟨0, rfl, by omega, h0⟩
  case round =>
    obtain ⟨k, rfl, hkn, hM⟩ := hrel
    by_cases hk : k < n
    · have hk' : (k : Int) < (n : Int) := by omega
      obtain rfl := h.addr (by omega)
      have hc := cell_later hM.below (h.cell k hk)
      have hr := h.rng k hk
      have hd := hM.row.cell hk
      have hf := hM.row.frozen k
      go_wp2_with fail
      refine ⟨⟨k + 1, by go_num, by omega, hM.below.setCell (Nat.le_refl _) _, (hM.row.set k _).congr (fun j _ => ?_)⟩, by simp [intOf]; omega⟩
      by_cases e : j = k
      · subst e
        rw [if_pos rfl, if_pos (by omega), mp_is]
      · rw [if_neg e]
        by_cases h2 : j < k
        · rw [if_pos h2, if_pos (by omega)]
        · rw [if_neg h2, if_neg (by omega)]
    · have hk' : ¬ (k : Int) < (n : Int) := by omega
      obtain rfl : k = n := by omega
      go_wp2
      go_ret
      exact ⟨rfl, hM⟩

end Go.Proofs.YbulkefuDoor
