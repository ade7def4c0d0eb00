/-
  The walk of zzs0251bcheck.
-/
import Derived.Test.YbulkeeeSides
namespace Go.Proofs.Ybulkeee
open Go.RowKit
open Pm

theorem idx_at (b : Nat → Bool) (i : Nat) (hb : b i = true) : ∀ n, i < n → (idx b n)[(idx b i).length]? = some i := by
  intro n
  induction n with
  | zero => intro h; omega
  | succ n ih =>
    intro h
    simp only [idx]
    by_cases e : i = n
    · subst e
      rw [if_pos hb]
      simp
    · have h1 := ih (by omega)
      split
      · rw [List.getElem?_append_left (List.getElem?_eq_some_iff.1 h1).1]
        exact h1
      · exact h1

set_option maxHeartbeats 1600000 in
set_option maxRecDepth 100000 in
theorem check_any (om xm : Int) (ga a3 a4 : Option Addr) (gb gc b3 o3 n3 c3 b4 o4 n4 c4 : Nat) (Z3 Z4 : Nat → Int) (kO : Nat → Nat) (w : World) (_hom : 0 ≤ om ∧ om ≤ 65535) (_hxm : 0 ≤ xm ∧ xm ≤ 65535)
    (h3 : Ns w a3 b3 o3 n3 Z3) (h4 : Ns w a4 b4 o4 n4 Z4) (hn3 : n3 ≤ 1024) (hn4 : n4 ≤ 1024) (bC : Nat → Bool) (hC : bC = fun i => bt om i && bt xm i) (hga : 0 < (idx bC 16).length → ga = some ⟨gb, 0, none⟩)
    (hE : Ents w gb kO (fun x => if bn Z4 n4 x < bn Z3 n3 x then bn Z4 n4 x else bn Z3 n3 x) (idx bC 16)) (hK : ∀ x, x ∈ idx bC 16 → w.cell? ⟨kO x, 0, none⟩ = some (.string (idS x))) :
    Calls Yba.prog 7 #[.slice ga (idx bC 16).length gc, .int .u16 om, .int .u16 xm, .slice a3 n3 c3, .slice a4 n4 c4, .agg (keyL (bt om) kO).toArray] w fun e w' => e = .returned (.bool true) ∧ Below w.heap.size w w' := by
  have HC : Hid (bC = fun i => bt om i && bt xm i) := hC
  clear hC
  have hl16 := idx_len bC 16
  obtain ⟨i9, hi9, _, _, _⟩ := info_parts Yba.some9
  have hsame := fun (a : Addr) (w : World) => Lib.run_neq_ptr_same (P := Yba.prog) (w := w) a Yba.underlying25 hi9
  have hkl := keyL_len (bt om) kO
  generalize hcs : keyL (bt om) kO = cs at *
  have HCS : Hid (keyL (bt om) kO = cs) := hcs
  clear hcs
  go_enter Yba.func7, Yba.ntmps7
  go_wp2_with fail
  have hb0 : Below w.heap.size w (w.alloc (.cells cs.toArray 26)) := (Below.refl _ _).alloc (Nat.le_refl _) _
  have hk0 : ∀ i, i < 16 → bt om i = true → (w.alloc (.cells cs.toArray 26)).cell? ⟨w.heap.size, i, none⟩ = some (.pointer (some ⟨kO i, 0, none⟩)) := fun i hi hb => by
    rw [World.cell?_alloc_at _ _ _ _ rfl, ← HCS.out]
    simp only [List.getElem?_toArray]
    rw [keyL_get _ _ _ hi]
    simp [kv, hi, hb]
  generalize w.alloc (.cells cs.toArray 26) = w0 at *
  have HK0 : Hid (∀ i, i < 16 → bt om i = true → w0.cell? ⟨w.heap.size, i, none⟩ = some (.pointer (some ⟨kO i, 0, none⟩))) := hk0
  have HKK : Hid (∀ x, x ∈ idx bC 16 → w.cell? ⟨kO x, 0, none⟩ = some (.string (idS x))) := hK
  clear hk0 hK
  go_loopw [13, 14] (fun kv iv wr => ∃ I : Nat, I ≤ 16 ∧ iv = .int .i64 I ∧ kv = .int .i64 (idx bC I).length ∧ Below w0.heap.size w0 wr) (fun _ iv _ => 16 - (intOf iv).toNat)
  case atStart => exact ⟨0, Nat.zero_le _, rfl, rfl, Below.refl _ _⟩
  case round =>
    obtain ⟨I, hI, rfl, rfl, hb⟩ := hrel
    have hIl := idx_len bC I
    by_cases hlt : I < 16
    · have hltz : (I : Int) < 16 := by omega
      by_cases hc : bC I = true
      · have hc' := hc
        rw [HC.out] at hc'
        simp only [Bool.and_eq_true] at hc'
        have z1 : (bits BinOp.and IntKind.u16 (om / 2 ^ I) 1 == 1) = true := hc'.1
        have z2 : (bits BinOp.and IntKind.u16 (xm / 2 ^ I) 1 == 1) = true := hc'.2
        have hat := idx_at bC I hc 16 hlt
        have hkl2 : (idx bC I).length < (idx bC 16).length := (List.getElem?_eq_some_iff.1 hat).1
        obtain rfl := hga (by omega)
        have hbw : Below w.heap.size w wr := hb0.trans (hb.mono hb0.size)
        have g0 := cell_later hbw (hE.c0 _ _ hat)
        have g1 := cell_later hbw (hE.c1 _ _ hat)
        have k0 := cell_later hb (HK0.out I hlt hc'.1)
        have s0 : wr.cell? ⟨kO I, 0, none⟩ = some (.string ((⟨#[97, 98, 99, 100, 101, 102, 103, 104, 105, 106, 107, 108, 109, 110, 111, 112]⟩ : ByteArray).extract I (I + 1))) := cell_later hbw (HKK.out I (List.mem_of_getElem? hat))
        have HL : Hid (idx bC (I + 1) = idx bC I ++ [I]) := by simp [Hid, idx, hc]
        have r3 := bn_rng h3 I hlt
        have r4 := bn_rng h4 I hlt
        have hklz : ((idx bC I).length : Int) < ((idx bC 16).length : Int) := by omega
        have lw : w.heap.size < wr.heap.size := World.block_lt_of_cell? _ _ k0
        have lk : kO I < wr.heap.size := World.block_lt_of_cell? _ _ s0
        have hI0 : (0 : Int) ≤ (I : Int) := by omega
        have hwI : IntKind.i64.wrap ((I : Int) + 1) = (I : Int) + 1 := by rw [IntKind.wrap_i64]; omega
        have q1 : (0 : Int) ≤ (I : Int) + 1 := by omega
        have q2 : (I : Int) + 1 ≤ 16 := by omega
        have q3 : (I : Int) ≤ (I : Int) + 1 := by omega
        clear hc' hat
        have hways : (bn Z4 n4 I < bn Z3 n3 I ∧ wr.cell? ⟨gb, (idx bC I).length * 2 + 1, none⟩ = some (.int .u64 (bn Z4 n4 I))) ∨ (¬ bn Z4 n4 I < bn Z3 n3 I ∧ wr.cell? ⟨gb, (idx bC I).length * 2 + 1, none⟩ = some (.int .u64 (bn Z3 n3 I))) := by
          by_cases hmn : bn Z4 n4 I < bn Z3 n3 I
          · rw [if_pos hmn] at g1; exact .inl ⟨hmn, g1⟩
          · rw [if_neg hmn] at g1; exact .inr ⟨hmn, g1⟩
        clear g1
        rcases hways with ⟨hmn, g1⟩ | ⟨hmn, g1⟩
        all_goals
          go_wp2_with fail
          refine (bn_any a3 b3 o3 n3 c3 Z3 I wr hn3 hlt (h3.later hbw)).mono ?_
          rintro e w1 ⟨rfl, hw⟩
          have hw := hw.symm
          subst hw
          go_wp2_with fail
          refine (bn_any a4 b4 o4 n4 c4 Z4 I wr hn4 hlt (h4.later hbw)).mono ?_
          rintro e w1 ⟨rfl, hw⟩
          have hw := hw.symm
          subst hw
          go_wp2_with fail
          go_quiet (fail)
          go_wp2_with fail
          go_roundw
          case rel => exact ⟨I + 1, by omega, by go_num, by rw [HL.out]; simp, below_drewN (hb.alloc hb.size _) _⟩
          case measure => simp [intOf]; omega
      · have hcf : bC I = false := by simpa using hc
        have HL : Hid (idx bC (I + 1) = idx bC I) := by simp [Hid, idx, hcf]
        have hways : (bits BinOp.and IntKind.u16 (om / 2 ^ I) 1 == 1) = false ∨ ((bits BinOp.and IntKind.u16 (om / 2 ^ I) 1 == 1) = true ∧ (bits BinOp.and IntKind.u16 (xm / 2 ^ I) 1 == 1) = false) := by
          have h1 : (bt om I && bt xm I) = false := by rw [HC.out] at hcf; exact hcf
          cases h2 : bt om I
          · exact .inl h2
          · rw [h2] at h1
            exact .inr ⟨h2, h1⟩
        clear hc hcf
        rcases hways with z1 | ⟨z1, z2⟩
        all_goals
          go_wp2_with fail
          go_roundw
          case rel => exact ⟨I + 1, by omega, by go_num, by rw [HL.out], hb⟩
          case measure => simp [intOf]; omega
    · obtain rfl : I = 16 := by omega
      have hltz : ¬ ((16 : Nat) : Int) < 16 := by omega
      go_wp2_with fail
      go_ret
      exact ⟨rfl, hb0.trans (hb.mono hb0.size)⟩

end Go.Proofs.Ybulkeee
