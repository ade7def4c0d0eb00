/-
  LawS0254CFromReader's walk.
-/
import Derived.Test.YbulkefuDoorWord
namespace Go.Proofs.YbulkefuDoor
open Go.RowKit

/-- The chunks as they came in. -/
structure Cks (w : World) (a : Option Addr) (b o nc : Nat) (A : Nat → Option Addr) (L C Ab Ao : Nat → Nat) (Z : Nat → Nat → Int) : Prop where
  addr : 0 < nc → a = some ⟨b, o, none⟩
  row : ∀ r, r < nc → w.cell? ⟨b, o + r, none⟩ = some (.slice (A r) (L r) (C r))
  bs : ∀ r, r < nc → Bs w (A r) (Ab r) (Ao r) (L r) (Z r)

theorem Ybad.info22 : (Ybad.prog.info? 22).map (fun i => (i.zero, i.size, i.bytes)) = some (some (.slice none 0 0), 1, 24) := by kernel_rfl
theorem make39 (n : Nat) (hn : n ≤ 1000) (w : World) :
    (Instr.makeSlice 39 (.int .i64 n) (.int .i64 n)).run Ybad.prog w = .ok (.slice (some ⟨w.heap.size, 0, none⟩) n n) (w.alloc (.cells (madeCells #[.slice none 0 0] n) 22)) :=
  run_make_row' 39 22 _ 24 Ybad.underlying39 Ybad.info22 rfl .i64 .i64 n (by omega) (by omega) w
theorem make22z (c : Nat) (hc : c ≤ 1000000) (w : World) :
    (Instr.makeSlice 22 (.int .i64 0) (.int .i64 c)).run Ybad.prog w = .ok (.slice (some ⟨w.heap.size, 0, none⟩) 0 c) (w.alloc (.cells (madeCells #[.int .u8 0] c) 5)) :=
  make22c 0 c (by omega) hc w

set_option maxHeartbeats 1600000 in
set_option maxRecDepth 100000 in
theorem fr_walk (a0 : Option Addr) (b0 o0 np c0 : Nat) (Zp : Nat → Int) (a1 : Option Addr) (b1 o1 nc c1 : Nat) (A : Nat → Option Addr) (L C Ab Ao : Nat → Nat) (Z : Nat → Nat → Int) (x : Int) (ea : Addr) (w : World)
    (hp : Bs w a0 b0 o0 np Zp) (hC : Cks w a1 b1 o1 nc A L C Ab Ao Z) (hx : 0 ≤ x ∧ x ≤ 65535) (hnp : np ≤ 1024) (hnc : nc ≤ 64) (heof : w.cell? ⟨0, 0, none⟩ = some (.iface 48 (.pointer (some ea)))) :
    Calls Ybad.prog 4 #[.slice a0 np c0, .slice a1 nc c1, .int .u16 x] w fun e w' => e = .returned (.bool true) ∧ Below w.heap.size w w' := by
  have hnp' : ¬ 1024 < np := by omega
  have hnc' : ¬ 64 < nc := by omega
  have HC : Hid (Cks w a1 b1 o1 nc A L C Ab Ao Z) := hC
  have HP : Hid (Bs w a0 b0 o0 np Zp) := hp
  have HE : Hid (w.cell? ⟨0, 0, none⟩ = some (.iface 48 (.pointer (some ea)))) := heof
  clear hC hp heof
  go_enter Ybad.func4, Ybad.ntmps4
  go_wp2_with fail
  go_loopw [7] (fun v wr => ∃ k : Nat, v = .int .i64 k ∧ k ≤ nc ∧ wr = w ∧ Hid (∀ r, r < k → L r ≤ 1024)) (fun v _ => nc - (intOf v).toNat)
  case atStart => exact ⟨0, rfl, Nat.zero_le _, rfl, fun r hr => absurd hr (Nat.not_lt_zero _)⟩
  case round =>
    obtain ⟨k, rfl, hkn, hw, hall⟩ := hrel
    have hw := hw.symm
    subst hw
    by_cases hk : k < nc
    · have hk' : (k : Int) < (nc : Int) := by omega
      obtain rfl := HC.out.addr (by omega)
      have hrow := HC.out.row k hk
      obtain ⟨lk, hlk⟩ : ∃ l, L k = l := ⟨_, rfl⟩
      rw [hlk] at hrow
      have HLK : Hid (L k = lk) := hlk
      clear hlk
      by_cases hl : 1024 < lk
      · have hl' : (1024 : Int) < (lk : Int) := by omega
        go_wp2_with fail
        go_ret
        exact ⟨rfl, Below.refl _ _⟩
      · have hl' : ¬ (1024 : Int) < (lk : Int) := by omega
        go_wp2_with fail
        go_roundw
        case rel => exact ⟨k + 1, by go_num, by omega, by first | rfl | trivial, fun r hr => by
          by_cases e : r = k
          · subst e; rw [HLK.out]; omega
          · exact hall.out r (by omega)⟩
        case measure => simp [intOf]; omega
    · have hk' : ¬ (k : Int) < (nc : Int) := by omega
      obtain rfl : nc = k := by omega
      have HL : Hid (∀ r, r < nc → L r ≤ 1024) := hall
      clear hall hk hkn
      have hmk1 := make39 nc (by omega)
      have hmk2 := make22z np (by omega)
      go_wp2_with fail
      refine (map_any a0 b0 o0 np c0 Zp w HP.out hnp).mono ?_
      rintro e w1 ⟨rfl, hM⟩
      have HM : Hid (Mp w w1 np Zp np) := hM
      have hP1 := hM.row.lt
      obtain ⟨N0, hN0⟩ : ∃ N0 : List Value, N0 = (List.range np).map fun j => .int .u8 (mp (Zp j)) := ⟨_, rfl⟩
      have hNl : N0.length = np := by simp [hN0]
      have HNc : Hid (∀ j u, N0[j]? = some u → ((w1.alloc (.cells (madeCells #[.slice none 0 0] nc) 22)).alloc (.cells (madeCells #[.int .u8 0] np) 5)).cell? ⟨w.heap.size, j, none⟩ = some u) := fun j u hu => by
        have hj := (List.getElem?_eq_some_iff.1 hu).1
        rw [hNl] at hj
        have hrow := hM.row.cell hj
        rw [if_pos hj] at hrow
        rw [World.cell?_alloc_past _ _ _ (by simp; omega), World.cell?_alloc_past _ _ _ hP1, hrow, ← hu, hN0]
        simp [hj]
      have HN1 : Hid (∀ u ∈ N0, u.oneCell' = true) := fun u hu => by
        rw [hN0] at hu
        simp only [List.mem_map] at hu
        obtain ⟨_, _, rfl⟩ := hu
        rfl
      have HN0 : Hid (N0 = (List.range np).map fun j => .int .u8 (mp (Zp j))) := hN0
      have HNl : Hid (N0.length = np) := hNl
      have HO : Hid (((w1.alloc (.cells (madeCells #[.slice none 0 0] nc) 22)).alloc (.cells (madeCells #[.int .u8 0] np) 5)).ownsRow (w1.heap.size + 1) 5 1 (.slice (some ⟨w1.heap.size + 1, 0, none⟩) 0 np) 0 []) := by
        show World.ownsRow _ _ _ _ _ _ _
        have := World.ownsRow_made (base := w1.heap.size + 1) (size := 1) (e := 5) (w1.alloc (.cells (madeCells #[.slice none 0 0] nc) 22)) (madeCells #[.int .u8 0] np) np (by simp) (by unfold maxLen; omega) (by rw [size_madeCells]; omega)
        simpa using this
      clear hN0 hNl hM
      go_wp2_with (at_builtin; refine app22 (by rfl) (.tmp 45) (.tmp 46) (by rfl) (w1.heap.size + 1) (w1.heap.size + 1) 0 np [] (by rfl) HO.out w.heap.size np np N0 (by rfl) HNl.out HNc.out HN1.out (by omega) (by simp) ?_; intro g cap w4 ho hgr hat)
      have HF0 : Hid (FI w w4 np nc w1.heap.size Zp L Z 0 0 (fun _ => 0) g cap) := FI.start HM.out (size_madeCells _ _) (fun i hi => by simp [madeCells, hi, Nat.mod_one]) (by rw [← HN0.out]; simpa using ho) hgr
      clear ho hgr hat HNc HN1 HN0 HNl HO hmk1 hmk2
      have hS0 := HM.out.row.lt
      generalize hS0e : w1.heap.size = S0 at *
      clear hS0e HM hP1
      go_loopw [10, 11] (fun v i wr => ∃ (k : Nat) (Cb : Nat → Nat) (g cap : Nat), i = .int .i64 k ∧ k ≤ nc ∧ v = .slice (some ⟨g, 0, none⟩) (ps np L k) cap ∧ FI w wr np nc S0 Zp L Z k k Cb g cap) (fun _ i _ => nc - (intOf i).toNat)
      case atStart => exact ⟨0, _, g, cap, rfl, Nat.zero_le _, by simp [ps], HF0.out⟩
      case round =>
        clear HF0
        obtain ⟨w5, ew⟩ : ∃ x, x = wr := ⟨_, rfl⟩
        subst ew
        obtain ⟨k, Cb, g, cap, rfl, hkn, rfl, hF⟩ := hrel
        have HF : Hid (FI w w5 np nc S0 Zp L Z k k Cb g cap) := hF
        by_cases hk : k < nc
        · have hk2 : (k : Int) < (nc : Int) := by omega
          obtain rfl := HC.out.addr (by omega)
          have hrow := cell_later hF.below (HC.out.row k hk)
          have hLk := HL.out k hk
          have HBk : Hid (Bs w5 (A k) (Ab k) (Ao k) (L k) (Z k)) := (HC.out.bs k hk).later hF.below
          clear hF
          go_wp2_with fail
          refine (map_any (A k) (Ab k) (Ao k) (L k) (C k) (Z k) w5 HBk.out hLk).mono ?_
          rintro e w6 ⟨rfl, hM6⟩
          have cS : w6.cell? ⟨S0, k, none⟩ = some (.slice none 0 0) := by
            have := (HF.out.cs.of_block (hM6.below.block _ HF.out.cs.lt)).cell hk
            rw [if_neg (Nat.lt_irrefl _)] at this
            exact this
          have fS : w6.frozen? ⟨S0, k, none⟩ = false := (HF.out.cs.of_block (hM6.below.block _ HF.out.cs.lt)).frozen k
          have HF7 : Hid (FI w (w6.setCell ⟨S0, k, none⟩ (.slice (some ⟨w5.heap.size, 0, none⟩) (L k) (L k))) np nc S0 Zp L Z (k + 1) k (fun r => if r = k then w5.heap.size else Cb r) g cap) := HF.out.map hk hM6
          have HLk : Hid (L k ≤ 1024) := hLk
          clear hM6 HF HBk hrow hLk
          obtain ⟨N, hN⟩ : ∃ N : List Value, N = (List.range (L k)).map fun j => .int .u8 (mp (Z k j)) := ⟨_, rfl⟩
          have HN : Hid (N = (List.range (L k)).map fun j => .int .u8 (mp (Z k j))) := hN
          have HNl : Hid (N.length = L k) := by show _ = _; simp [hN]
          have HNc : Hid (∀ j u, N[j]? = some u → (w6.setCell ⟨S0, k, none⟩ (.slice (some ⟨w5.heap.size, 0, none⟩) (L k) (L k))).cell? ⟨w5.heap.size, j, none⟩ = some u) := fun j u hu => by
            have hj := (List.getElem?_eq_some_iff.1 hu).1
            rw [HNl.out] at hj
            have h1 := (HF7.out.ch k (by omega)).cell hj
            simp only [if_true] at h1
            rw [h1, ← hu, hN]
            simp [hj]
          have HN1 : Hid (∀ u ∈ N, u.oneCell' = true) := fun u hu => by
            rw [hN] at hu
            simp only [List.mem_map] at hu
            obtain ⟨_, _, rfl⟩ := hu
            rfl
          have HBd : Hid (ps np L k + L k ≤ 1000000) := by
            show _ ≤ _
            have h1 := ps_le np L hnp HL.out k hkn
            have h2 := HLk.out
            omega
          have HBs : Hid (S0 + 1 ≤ (w6.setCell ⟨S0, k, none⟩ (.slice (some ⟨w5.heap.size, 0, none⟩) (L k) (L k))).heap.size) := by
            show _ ≤ _
            have := HF7.out.lt
            omega
          have HA : Hid (∀ w8 g2 cap2, w8.ownsRow (S0 + 1) 5 1 (.slice (some ⟨g2, 0, none⟩) (ps np L k + L k) cap2) (ps np L k + L k) ((wl np Zp L Z k).map (.int .u8) ++ N) → (w6.setCell ⟨S0, k, none⟩ (.slice (some ⟨w5.heap.size, 0, none⟩) (L k) (L k))).grownBy w8 (some g) → (g2 = g ∨ g2 = (w6.setCell ⟨S0, k, none⟩ (.slice (some ⟨w5.heap.size, 0, none⟩) (L k) (L k))).heap.size) → FI w w8 np nc S0 Zp L Z (k + 1) (k + 1) (fun r => if r = k then w5.heap.size else Cb r) g2 cap2) := fun w8 g2 cap2 h1 h2 h3 => HF7.out.app (by rw [← HN.out]; exact h1) h2 h3
          have HOw := HF7.out.own
          have HOw' : Hid ((w6.setCell ⟨S0, k, none⟩ (.slice (some ⟨w5.heap.size, 0, none⟩) (L k) (L k))).ownsRow (S0 + 1) 5 1 (.slice (some ⟨g, 0, none⟩) (ps np L k) cap) (ps np L k) ((wl np Zp L Z k).map (.int .u8))) := HOw
          clear hN HF7 HOw HN
          have hps : Hid (ps np L (k + 1) = ps np L k + L k) := rfl
          generalize (wl np Zp L Z k).map (Value.int .u8) = X at *
          generalize L k = lk at *
          generalize ps np L k = pk at *
          go_wp2_with (at_builtin; refine app22 (by rfl) (.tmp 62) (.tmp 66) (by rfl) (S0 + 1) g pk cap X (by rfl) HOw'.out w5.heap.size lk lk N (by rfl) HNl.out HNc.out HN1.out HBd.out HBs.out ?_; intro g2 cap2 w8 ho hgr hat; have HF8 := HA.out w8 g2 cap2 ho hgr hat; clear ho hgr hat)
          go_roundw
          case rel => exact ⟨k + 1, _, g2, cap2, by go_num, by omega, by rw [hps.out], HF8⟩
          case measure => simp [intOf]; omega
        · have hk2 : ¬ (k : Int) < (nc : Int) := by omega
          obtain rfl : nc = k := by omega
          have hnb := ps_le np L hnp HL.out nc (Nat.le_refl _)
          have HRS := HF.out.rs hnp hnc HL.out HE.out (w7 := (w5.alloc (.cells #[.slice (some ⟨S0, 0, none⟩) nc nc, .int .i64 0, .int .i64 0] 42)).alloc (.cells #[.slice (some ⟨w.heap.size, 0, none⟩) np np, .int .i64 0, .iface 40 (.pointer (some ⟨w5.heap.size, 0, none⟩)), .bool false, .nilIface, .int .i64 0, .int .i64 0, .int .i64 0, .slice none 0 0, .slice none 0 0, .slice none 0 0, .slice none 0 0] 34)) rfl
          obtain ⟨hFx, hRS0, hWh, hgl, hgn⟩ := HRS
          have HB : Hid (∀ j, j < ps np L nc → 0 ≤ wb np Zp L Z nc j ∧ wb np Zp L Z nc j < 256) := hWh.rng
          have HFx : Hid (Fx w _ w.heap.size S0 w5.heap.size nc np L Cb (wb np Zp L Z nc) ea) := hFx
          have HRS0 : Hid (RS w _ w.heap.size S0 w5.heap.size nc np L (wb np Zp L Z nc) _ 0 np np 0 false w.heap.size np) := hRS0
          have HWh : Hid (Bs _ (some ⟨g, 0, none⟩) g 0 (ps np L nc) (wb np Zp L Z nc)) := hWh
          have HW := word_rd hFx HB.out
          have HW' : Hid (Word _ _ _ _) := HW
          have hnp0 : np ≤ ps np L nc := ps_mono np L (Nat.zero_le nc)
          clear hF HF hFx hRS0 hWh HW
          generalize wb np Zp L Z nc = B at *
          generalize ps np L nc = n at *
          obtain ⟨i, hi, hi2⟩ : ∃ i : Nat, x % ((n : Int) + 4) = (i : Int) ∧ i ≤ 200000 := by
            have h1 := Int.emod_nonneg x (b := (n : Int) + 4) (by omega)
            have h2 := Int.emod_lt_of_pos x (b := (n : Int) + 4) (by omega)
            exact ⟨(x % ((n : Int) + 4)).toNat, by omega, by omega⟩
          have hnb2 : n ≤ 100000 := by omega
          clear hnb
          go_wp2_with fail
          generalize (w5.alloc (.cells #[.slice (some ⟨S0, 0, none⟩) nc nc, .int .i64 0, .int .i64 0] 42)).alloc (.cells #[.slice (some ⟨w.heap.size, 0, none⟩) np np, .int .i64 0, .iface 40 (.pointer (some ⟨w5.heap.size, 0, none⟩)), .bool false, .nilIface, .int .i64 0, .int .i64 0, .int .i64 0, .slice none 0 0, .slice none 0 0, .slice none 0 0, .slice none 0 0] 34) = w7 at *
          generalize w5.heap.size = R at *
          refine (digits_any (R + 1) n B _ HW'.out (by omega) i np (by omega) w7 ⟨0, 0, false, w.heap.size, np, HRS0.out, fun _ => Nat.le_refl _⟩).mono ?_
          rintro e w8 ⟨r, m, rfl, hd, ⟨q, calls, eof, bb, c, hR8, _⟩, _, hwr, hr⟩
          have HD : Hid (Dig B n i r) := hd
          have HR8 : Hid (RS w w7 w.heap.size S0 R nc np L B w8 q m m calls eof bb c) := hR8
          have HB8 : Hid (Bs w8 (some ⟨g, 0, none⟩) g 0 n B) := ⟨HWh.out.addr, fun j hj => by
            rw [World.cell?_of_block (w := w7) (hR8.fix g hgl hgn)]
            exact HWh.out.cell j hj, HWh.out.rng⟩
          have HX : Hid (w8 = w7 ∨ np ≤ r) := hwr
          have HMn : Hid (m ≤ n) := (HW'.out.buf w8 m ⟨q, calls, eof, bb, c, hR8, by assumption⟩).1
          clear hd hR8 hwr HW'
          go_wp2_with fail
          refine (want_any _ g 0 n cap B i w8 HB8.out (by omega) (by omega)).mono ?_
          rintro e w9 ⟨⟨s, rfl, hs, _⟩, hw9⟩
          subst hw9
          obtain rfl := HD.out.unique hs
          clear hs HD
          have d0 : w9.cell? ⟨R + 1, 0, none⟩ = some (.slice (some ⟨bb, 0, none⟩) m c) := HR8.out.dec.cell (by decide)
          have hmn := HMn.out
          have hmn' : ¬ (n : Int) < (m : Int) := by omega
          have hmc := HR8.out.hmc
          have hDl := HR8.out.dec.lt
          have hRl := HR8.out.rd.lt
          have hgl9 : g < w9.heap.size := by omega
          have hbl9 : bb < w9.heap.size := by
            obtain ⟨cur, h1, _⟩ := HR8.out.buf
            exact (Array.getElem?_eq_some_iff.1 h1).1
          have HCa : Hid (r < np → w9.cell? ⟨R, 2, none⟩ = some (.int .i64 0)) := fun h => by
            rcases HX.out with e | e
            · rw [e]; exact HRS0.out.rd.cell (i := 2) (by decide)
            · omega
          have HBel : Hid (Below w.heap.size w w9) := HR8.out.below
          go_wp2_with fail
          go_loopw [16] (fun v wr => ∃ k nq : Nat, v = .int .i64 k ∧ k ≤ m ∧ wr = w9.drewN nq) (fun v _ => m - (intOf v).toNat)
          case atStart => exact ⟨0, 0, rfl, Nat.zero_le _, rfl⟩
          case round =>
            obtain ⟨k, nq, rfl, hkm, rfl⟩ := hrel
            by_cases hk3 : k < m
            · have hk3' : (k : Int) < (m : Int) := by omega
              have hkn3 : k < n := by omega
              have hc1 := HR8.out.bys k hk3
              have hc2 := HB8.out.cell k (by omega)
              rw [Nat.zero_add] at hc2
              have hc1' : (w9.drewN nq).cell? ⟨bb, k, none⟩ = some (.int .u8 (B k)) := hc1
              have hc2' : (w9.drewN nq).cell? ⟨g, k, none⟩ = some (.int .u8 (B k)) := hc2
              go_wp2_with fail
              go_quiet (fail)
              go_wp2_with fail
              go_roundw
              case rel => exact ⟨k + 1, _, by go_num, by omega, rfl⟩
              case measure => simp [intOf]; omega
            · have hk3' : ¬ (k : Int) < (m : Int) := by omega
              by_cases hrn : r < np
              · have hrn' : (r : Int) < (np : Int) := by omega
                have hc2 := HCa.out hrn
                go_wp2_with fail
                go_ret
                exact ⟨rfl, below_drewN HBel.out _⟩
              · have hrn' : ¬ (r : Int) < (np : Int) := by omega
                go_wp2_with fail
                go_ret
                exact ⟨rfl, below_drewN HBel.out _⟩

set_option maxHeartbeats 400000 in
theorem fr_long (a0 a1 : Option Addr) (np c0 nc c1 : Nat) (x : Int) (w : World) (h : 1024 < np ∨ 64 < nc) :
    Calls Ybad.prog 4 #[.slice a0 np c0, .slice a1 nc c1, .int .u16 x] w fun e w' => e = .returned (.bool true) ∧ Below w.heap.size w w' := by
  by_cases h3 : 1024 < np
  · go_enter Ybad.func4, Ybad.ntmps4
    go_wp2
    go_ret
    exact ⟨rfl, Below.refl _ _⟩
  · have h4 : 64 < nc := by omega
    go_enter Ybad.func4, Ybad.ntmps4
    go_wp2
    go_ret
    exact ⟨rfl, Below.refl _ _⟩

end Go.Proofs.YbulkefuDoor
