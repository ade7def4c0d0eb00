/-
  binary.BigEndian.AppendUint16 | 32 | 64; zzs0263cbe.
-/
import Derived.Test.YbulkekqApp
namespace Go.Proofs.Ybulkekq
open Go.RowKit
open Pk

theorem be2 (z : Int) (h : 0 ≤ z ∧ z ≤ 65535) : [z / 256, z % 256] = be 2 z := by
  simp only [be]
  congr 1
  · show z / 256 = z / 2 ^ 8 % 256; omega
  · congr 1; simp

theorem be4 (z : Int) (h : 0 ≤ z ∧ z ≤ 4294967295) : [z / 16777216, z / 65536 % 256, z / 256 % 256, z % 256] = be 4 z := by
  simp only [be]
  congr 1
  · show z / 16777216 = z / 2 ^ 24 % 256; omega
  · congr 1
    congr 1
    congr 1
    simp

theorem be8 (z : Int) (h : 0 ≤ z ∧ z < 18446744073709551616) : [z / 72057594037927936, z / 281474976710656 % 256, z / 1099511627776 % 256, z / 4294967296 % 256, z / 16777216 % 256, z / 65536 % 256, z / 256 % 256, z % 256] = be 8 z := by
  simp only [be]
  congr 1
  · show z / 72057594037927936 = z / 2 ^ 56 % 256; omega
  · congr 1
    congr 1
    congr 1
    congr 1
    congr 1
    congr 1
    congr 1
    simp

theorem below_box {base : Nat} {w : World} (h : base ≤ w.heap.size) (o1 o2 : Obj) : Below base w ((w.alloc o1).alloc o2) :=
  (((Below.refl _ _).alloc (Nat.le_refl _) _).mono h).alloc (by simp; omega) _

set_option maxHeartbeats 400000 in
theorem u16_any (base : Nat) (w : World) (v : Value) (X : List Int) (z : Int) (hz : 0 ≤ z ∧ z ≤ 65535) (hO : Ow base w v X) (hb : X.length + 2 ≤ 1000000) :
    Calls Yba.prog 15 #[.agg #[], v, .int .u16 z] w (App base w (X ++ be 2 z)) := by
  have HO : Hid (∀ o, Ow base ((w.alloc (.cells #[] 57)).alloc o) v X) := fun o => (hO.alloc _).alloc o
  have HB : Hid (∀ o1 o2, Below base w ((w.alloc o1).alloc o2)) := below_box hO.le
  rw [← be2 z hz]
  clear hO
  go_enter Yba.func15, Yba.ntmps15
  go_wp2_with (at_builtin; refine wpList_app (by rfl) (.tmp 7) (.tmp 13) (by rfl) base v X [z / 256, z % 256] (by rfl) (HO.out _) ⟨w.heap.size + 1, 0, none⟩ 2 2 (by rfl) (by rfl) (by have := new_bytes (w.alloc (.cells #[] 57)) [z / 256, z % 256] 5; simpa using this) (by omega) ?_; intro v' w' hO' hb')
  go_ret
  exact ⟨_, rfl, hO', (HB.out _ _).trans hb'⟩

set_option maxHeartbeats 400000 in
theorem u32_any (base : Nat) (w : World) (v : Value) (X : List Int) (z : Int) (hz : 0 ≤ z ∧ z ≤ 4294967295) (hO : Ow base w v X) (hb : X.length + 4 ≤ 1000000) :
    Calls Yba.prog 10 #[.agg #[], v, .int .u32 z] w (App base w (X ++ be 4 z)) := by
  have HO : Hid (∀ o, Ow base ((w.alloc (.cells #[] 57)).alloc o) v X) := fun o => (hO.alloc _).alloc o
  have HB : Hid (∀ o1 o2, Below base w ((w.alloc o1).alloc o2)) := below_box hO.le
  rw [← be4 z hz]
  clear hO
  go_enter Yba.func10, Yba.ntmps10
  go_wp2_with (at_builtin; refine wpList_app (by rfl) (.tmp 7) (.tmp 19) (by rfl) base v X [z / 16777216, z / 65536 % 256, z / 256 % 256, z % 256] (by rfl) (HO.out _) ⟨w.heap.size + 1, 0, none⟩ 4 4 (by rfl) (by rfl) (by have := new_bytes (w.alloc (.cells #[] 57)) [z / 16777216, z / 65536 % 256, z / 256 % 256, z % 256] 5; simpa using this) (by omega) ?_; intro v' w' hO' hb')
  go_ret
  exact ⟨_, rfl, hO', (HB.out _ _).trans hb'⟩

set_option maxHeartbeats 800000 in
theorem u64_any (base : Nat) (w : World) (v : Value) (X : List Int) (z : Int) (hz : 0 ≤ z ∧ z < 18446744073709551616) (hO : Ow base w v X) (hb : X.length + 8 ≤ 1000000) :
    Calls Yba.prog 13 #[.agg #[], v, .int .u64 z] w (App base w (X ++ be 8 z)) := by
  have HO : Hid (∀ o, Ow base ((w.alloc (.cells #[] 57)).alloc o) v X) := fun o => (hO.alloc _).alloc o
  have HB : Hid (∀ o1 o2, Below base w ((w.alloc o1).alloc o2)) := below_box hO.le
  rw [← be8 z hz]
  clear hO
  go_enter Yba.func13, Yba.ntmps13
  go_wp2_with (at_builtin; refine wpList_app (by rfl) (.tmp 7) (.tmp 31) (by rfl) base v X [z / 72057594037927936, z / 281474976710656 % 256, z / 1099511627776 % 256, z / 4294967296 % 256, z / 16777216 % 256, z / 65536 % 256, z / 256 % 256, z % 256] (by rfl) (HO.out _) ⟨w.heap.size + 1, 0, none⟩ 8 8 (by rfl) (by rfl) (by have := new_bytes (w.alloc (.cells #[] 57)) [z / 72057594037927936, z / 281474976710656 % 256, z / 1099511627776 % 256, z / 4294967296 % 256, z / 16777216 % 256, z / 65536 % 256, z / 256 % 256, z % 256] 5; simpa using this) (by omega) ?_; intro v' w' hO' hb')
  go_ret
  exact ⟨_, rfl, hO', (HB.out _ _).trans hb'⟩

end Go.Proofs.Ybulkekq
