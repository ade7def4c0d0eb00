/-
  The small functions: zzs0251bn, entry.id, sameID.
-/
import Derived.Test.YbulkeeeRows
import Derived.WalkKit
import Derived.WalkSpells
import Derived.WalkLawsBesides
import Derived.Deep.QuietTactic
import Derived.BigQuiet
import Derived.LaidEqlPtr
import Derived.Lib.Builder
namespace Go.Proofs.Ybulkeee
open Go.RowKit

/-- A slice of counters that came in. -/
structure Ns (w : World) (a : Option Addr) (b o n : Nat) (Z : Nat → Int) : Prop where
  addr : 0 < n → a = some ⟨b, o, none⟩
  cell : ∀ i, i < n → w.cell? ⟨b, o + i, none⟩ = some (.int .u64 (Z i))
  rng : ∀ i, i < n → 0 ≤ Z i ∧ Z i < 18446744073709551616
theorem Ns.later {w w' : World} {a : Option Addr} {b o n : Nat} {Z : Nat → Int} (h : Ns w a b o n Z) (hb : Below w.heap.size w w') : Ns w' a b o n Z :=
  ⟨h.addr, fun i hi => cell_later hb (h.cell i hi), h.rng⟩

/-- What zzs0251bn answers. -/
def bn (Z : Nat → Int) (n i : Nat) : Int := if n = 0 then (i : Int) + 1 else Z (i % n)

theorem bn_rng {w : World} {a : Option Addr} {b o n : Nat} {Z : Nat → Int} (h : Ns w a b o n Z) (i : Nat) (hi : i < 16) : 0 ≤ bn Z n i ∧ bn Z n i < 18446744073709551616 := by
  unfold bn
  split
  · omega
  · exact h.rng _ (Nat.mod_lt _ (by omega))

set_option maxHeartbeats 400000 in
theorem bn_any (a : Option Addr) (b o n cap : Nat) (Z : Nat → Int) (i : Nat) (w : World) (hn : n ≤ 1024) (hi : i < 16) (h : Ns w a b o n Z) :
    Calls Yba.prog 8 #[.slice a n cap, .int .i64 i] w fun e w' => e = .returned (.int .u64 (bn Z n i)) ∧ w' = w := by
  by_cases h0 : n = 0
  · subst h0
    go_enter Yba.func8, Yba.ntmps8
    go_wp2
    go_ret
    exact ⟨by simp [bn], rfl⟩
  · obtain rfl := h.addr (by omega)
    obtain ⟨r, hr, hrn, hri⟩ : ∃ r : Nat, (i : Int) % (n : Int) = (r : Int) ∧ r < n ∧ i % n = r := ⟨i % n, by simp, Nat.mod_lt _ (by omega), rfl⟩
    have hc := h.cell r hrn
    have HB : Hid (bn Z n i = Z r) := by simp [Hid, bn, h0, hri]
    clear hri
    go_enter Yba.func8, Yba.ntmps8
    go_wp2
    go_ret
    rw [HB.out]
    exact ⟨rfl, rfl⟩

set_option maxHeartbeats 400000 in
theorem id_any (k : Nat) (v : Int) (s : ByteArray) (w : World) (hk : w.cell? ⟨k, 0, none⟩ = some (.string s)) :
    Calls Yba.prog 9 #[.agg #[.pointer (some ⟨k, 0, none⟩), .int .u64 v]] w fun e w' => e = .returned (.string s) ∧ Below w.heap.size w w' := by
  have hlt : k < w.heap.size := World.block_lt_of_cell? _ _ hk
  go_enter Yba.func9, Yba.ntmps9
  go_wp2
  go_ret
  exact ⟨rfl, (Below.refl _ _).alloc (Nat.le_refl _) _⟩

theorem Yba.some9 : (Yba.prog.info? 9).map (fun i => (i.zero, i.size, i.bytes)) = some (some (.string ⟨#[]⟩), 1, 16) := by kernel_rfl

/-- Pointers to two strings' blocks: equal or not. -/
theorem eql_ptr (w : World) (a b : Nat) (ca cb : Array Value) (ta tb : TypeId) (ha : w.heap[a]? = some (.cells ca ta (0, 0))) (hb : w.heap[b]? = some (.cells cb tb (0, 0))) :
    (binOp .eql 25 (.pointer (some ⟨a, 0, none⟩)) (.pointer (some ⟨b, 0, none⟩))).run Yba.prog w = .ok (.bool (decide (a = b))) w := by
  obtain ⟨i, h1, h2, h3, h4⟩ := info_parts Yba.some9
  by_cases e : a = b
  · subst e
    rw [run_eql_ptr_same w _ Yba.underlying25 h1]
    simp
  · rw [run_eql_ptr_other w Yba.underlying25 h1 (by omega) (by intro h; exact e (congrArg Addr.block h)) ha hb]
    simp [e]

set_option maxHeartbeats 800000 in
theorem same_any (k1 k2 : Nat) (v1 v2 : Int) (s1 s2 : ByteArray) (t1 t2 : TypeId) (w : World) (h1 : w.heap[k1]? = some (.cells #[.string s1] t1 (0, 0))) (h2 : w.heap[k2]? = some (.cells #[.string s2] t2 (0, 0))) (hk : k1 = k2 → s1 = s2) :
    Calls Yba.prog 10 #[.agg #[.pointer (some ⟨k1, 0, none⟩), .int .u64 v1], .agg #[.pointer (some ⟨k2, 0, none⟩), .int .u64 v2]] w fun e w' => e = .returned (.bool (s1.toList == s2.toList)) ∧ Below w.heap.size w w' := by
  obtain ⟨i9, hi9, _, _, _⟩ := info_parts Yba.some9
  have c1 : w.cell? ⟨k1, 0, none⟩ = some (.string s1) := by rw [cell_of_row w k1 0 _ t1 (0, 0) h1]; rfl
  have c2 : w.cell? ⟨k2, 0, none⟩ = some (.string s2) := by rw [cell_of_row w k2 0 _ t2 (0, 0) h2]; rfl
  have l1 : k1 < w.heap.size := World.block_lt_of_cell? _ _ c1
  have l2 : k2 < w.heap.size := World.block_lt_of_cell? _ _ c2
  have l1' : k1 < w.heap.size + 1 := by omega
  have l2' : k2 < w.heap.size + 1 := by omega
  have he : ∀ o1 o2 n, (binOp .eql 25 (.pointer (some ⟨k1, 0, none⟩)) (.pointer (some ⟨k2, 0, none⟩))).run Yba.prog (((w.alloc o1).alloc o2).drewN n) = .ok (.bool (decide (k1 = k2))) (((w.alloc o1).alloc o2).drewN n) := fun o1 o2 n =>
    eql_ptr _ k1 k2 #[.string s1] #[.string s2] t1 t2 (by show ((w.alloc o1).alloc o2).heap[k1]? = _; rw [Below.heap_alloc _ _ _ (by simp; omega), Below.heap_alloc _ _ _ l1, h1]) (by show ((w.alloc o1).alloc o2).heap[k2]? = _; rw [Below.heap_alloc _ _ _ (by simp; omega), Below.heap_alloc _ _ _ l2, h2])
  clear h1 h2
  by_cases hkk : k1 = k2
  · obtain rfl := hk hkk
    subst hkk
    have hsame := fun (a : Addr) (w : World) => run_eql_ptr_same (P := Yba.prog) w a Yba.underlying25 hi9
    clear he hk
    go_enter Yba.func10, Yba.ntmps10
    go_wp2_with fail
    go_quiet (fail)
    go_wp2_with fail
    go_ret
    exact ⟨by simp, below_drewN (((Below.refl _ _).alloc (Nat.le_refl _) _).alloc (by simp) _) _⟩
  · simp only [hkk, decide_false] at he
    go_enter Yba.func10, Yba.ntmps10
    go_wp2_with fail
    go_quiet (fail)
    go_wp2_with fail
    go_ret
    exact ⟨rfl, below_drewN (((Below.refl _ _).alloc (Nat.le_refl _) _).alloc (by simp) _) _⟩

end Go.Proofs.Ybulkeee
