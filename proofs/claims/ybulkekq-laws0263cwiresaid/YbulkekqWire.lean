/-
  LawS0263CWire: the walk.
-/
import Derived.Test.YbulkekqPre
namespace Go.Proofs.Ybulkekq
open Go.RowKit
open Pk

set_option maxHeartbeats 1600000 in
set_option maxRecDepth 100000 in
theorem wire_any (a0 a1 : Option Addr) (np c0 b o n c1 : Nat) (X : List Int) (O : Nat → OfD) (SA : Nat → Option Addr) (SB SO SC : Nat → Nat) (w : World) (hI : Inp w a1 b o n O SA SB SO SC) (hP : Pre w a0 np c0 X) :
    Calls Yba.prog 3 #[.slice a0 np c0, .slice a1 n c1] w (Fin w) := by
  have HI : Hid (Inp w a1 b o n O SA SB SO SC) := hI
  have HP : Hid (Pre w a0 np c0 X) := hP
  clear hI hP
  have hG := guard_any a0 a1 np c0 b o n c1 O SA SB SO SC w HI.out
  by_cases hg : gd np n O = true
  · obtain ⟨hnp, hn, ht⟩ := of_decide_eq_true hg
    rw [hg] at hG
    have HG : Hid (Calls Yba.prog 5 #[.slice a0 np c0, .slice a1 n c1] w fun e w' => e = .returned (.bool true) ∧ w' = w) := hG
    have HT : Hid (tot O n ≤ 1024) := ht
    have HBd : Hid (Calls Yba.prog 6 #[.slice a1 n c1] w (Built w n O)) := build_any a1 b o n c1 O SA SB SO SC w HI.out hn ht
    clear hG hg ht
    go_enter Yba.func3, Yba.ntmps3
    go_wp2_with fail
    refine HG.out.mono ?_
    rintro e w' ⟨rfl, rfl⟩
    go_wp2_with fail
    refine HBd.out.mono ?_
    rintro e w1 ⟨F, SB', g, rfl, hB⟩
    have HB : Hid (Bk w' w1 F n O SB' n g) := hB
    have HP1 : Hid (Pre w1 a0 np c0 X) := HP.out.later rfl hB.below
    clear hB HG HBd
    go_wp2_with (at_builtin; refine wpList_pre (by rfl) (.tmp 18) (by rfl) w1.heap.size (Nat.le_refl _) a0 np c0 X HP1.out (by rfl) hnp ?_; intro v2 w2 hO2 hb2)
    have HC7 : Hid (Calls Yba.prog 7 #[.pointer (some ⟨F + 1, 0, none⟩), v2] w2 (App w1.heap.size w2 (X ++ (be 4 n ++ encAll O n)))) := by
      show Calls _ _ _ _ _
      have hlt := HB.out.mlt
      exact body_any w1.heap.size w2 v2 X (F + 1) F n O (fun i => some ⟨SB' i, 0, none⟩) SB' (fun _ => 0) (fun i => (O i).S.length) (cell_below hb2 (by exact hlt) HB.out.m)
        (fun i hi => (HB.out.done i hi).later hb2 (by omega) (fun _ => (HB.out.sb i hi).2)) HI.out.ok hn HT.out (by omega) (fun _ => by omega) (fun i hi _ => (HB.out.sb i hi).2) hO2 (by rw [HP.out.len]; omega)
    refine HC7.out.mono ?_
    rintro e w3 ⟨v3, rfl, hO3, hb3⟩
    have HB3 : Hid (Below w'.heap.size w' w3) := HB.out.below.trans ((hb2.trans hb3).mono HB.out.below.size)
    have HO3 : Hid (Ow w1.heap.size w3 v3 (X ++ (be 4 n ++ encAll O n))) := hO3
    have HP3 : Hid (Pre w3 a0 np c0 X) := HP.out.later rfl HB3.out
    clear hO3 hb3 hb2 hO2 HC7 HP1
    go_wp2_with (at_builtin; refine wpList_pre (by rfl) (.tmp 21) (by rfl) w3.heap.size (Nat.le_refl _) a0 np c0 X HP3.out (by rfl) hnp ?_; intro v4 w4 hO4 hb4)
    obtain ⟨base, hbs⟩ : ∃ x, x = w3.heap.size := ⟨_, rfl⟩
    rw [← hbs] at hO4 hb4
    have HBs : Hid (base = w3.heap.size) := hbs
    have HC4 : Hid (Calls Yba.prog 8 #[v4, .int .u64 n, .int .i64 4] w4 (App base w4 (X ++ be 4 n))) := zbe_any base w4 v4 X n 4 (by omega) (by decide) hO4 (by rw [HP.out.len]; omega)
    have HB4 : Hid (Below base w3 w4) := hb4
    clear hbs hO4 hb4 HP3
    refine HC4.out.mono ?_
    rintro e w5 ⟨v5, rfl, hO5, hb5⟩
    obtain ⟨Y, hY⟩ : ∃ Y, Y = X ++ be 4 n := ⟨_, rfl⟩
    have HY : Hid (Y.length ≤ 2004) := by show _ ≤ _; rw [hY, List.length_append, be_len, HP.out.len]; omega
    have HEq : Hid (X ++ (be 4 n ++ encAll O n) = Y ++ encAll O n) := by show _ = _; rw [hY, List.append_assoc]
    have H0 : Hid (Bi base w3 w5 v5 Y O n 0) := ⟨Nat.zero_le _, by rw [hY]; simpa [encAll] using hO5, HB4.out.trans hb5⟩
    have HIn : Hid (∀ i, i < n → OfAt w3 b (o + i * 72) (O i) (SA i) (SB i) (SO i) (SC i) ∧ b < base ∧ (0 < (O i).S.length → SB i < base)) := fun i hi => by
      have h1 := HI.out.lt hi
      have h2 := HB3.out.size
      have h3 := HBs.out
      exact ⟨(HI.out.of_ i hi).later HB3.out h1.1 h1.2, by omega, fun h => by have := h1.2 h; omega⟩
    clear hO5 hb5 HC4 HB4 hY
    go_wp2_with fail
    go_loopw [7, 30] (fun v k wr => ∃ i : Nat, k = .int .i64 i ∧ Bi base w3 wr v Y O n i) (fun _ k _ => n - (intOf k).toNat)
    case atStart => exact ⟨0, rfl, H0.out⟩
    case round =>
      clear H0
      obtain ⟨w6, ew⟩ : ∃ x, x = wr := ⟨_, rfl⟩
      subst ew
      obtain ⟨i, rfl, hBi⟩ := hrel
      have HBi : Hid (Bi base w3 w6 u7 Y O n i) := hBi
      have hin := hBi.le
      clear hBi
      by_cases hlt : i < n
      · have hlt' : (i : Int) < (n : Int) := by omega
        obtain rfl := HI.out.addr (by omega)
        have HK : Hid (OfOk (O i)) := HI.out.ok i hlt
        have hbB : b < base := (HIn.out i hlt).2.1
        have HSB : Hid (0 < (O i).S.length → SB i < base) := (HIn.out i hlt).2.2
        have hl : (O i).S.length ≤ 1024 := by
          have h1 := HT.out
          have h2 : tot O (i + 1) ≤ tot O n := tot_mono O (by omega)
          simp only [tot] at h2
          omega
        have HL0 : Hid ((Y ++ encAll O i).length ≤ 200000) := by
          show _ ≤ _
          have h1 := encAll_len O i (fun j hj => HI.out.ok j (by omega))
          have h2 : tot O i ≤ tot O n := tot_mono O (by omega)
          have h3 := HT.out
          have h4 := HY.out
          rw [List.length_append, h1]
          omega
        have HA0 : Hid (OfAt w6 b (o + i * 72) (O i) (SA i) (SB i) (SO i) (SC i)) := (HIn.out i hlt).1.later HBi.out.below hbB HSB.out
        obtain ⟨X0, hX⟩ : ∃ l, l = Y ++ encAll O i := ⟨_, rfl⟩
        have HX0 : Hid (X0 = Y ++ encAll O i) := hX
        have HO0 : Hid (Ow base w6 u7 X0) := by
          show Ow _ _ _ _
          rw [hX]; exact HBi.out.ow
        have HB0 : Hid (Below base w3 w6) := HBi.out.below
        rw [← hX] at HL0
        clear hX HBi
        have HC : Hid (Calls Yba.prog 8 #[u7, .int .u64 (O i).H, .int .i64 8] w6 (App base w6 (X0 ++ be 8 (O i).H))) := zbe_any base w6 u7 X0 (O i).H 8 HK.out.h (by decide) HO0.out (by have := HL0.out; omega)
        have cX := HA0.out.h
        go_wp2_with fail
        clear cX
        refine HC.out.mono ?_
        rintro e x1 ⟨v1x, rfl, hO, hb⟩
        obtain ⟨X1, hX⟩ : ∃ l, l = X0 ++ be 8 (O i).H := ⟨_, rfl⟩
        rw [← hX] at hO
        have HX1 : Hid (X1 = X0 ++ be 8 (O i).H) := hX
        have HO1 : Hid (Ow base x1 v1x X1) := hO
        have HA1 : Hid (OfAt x1 b (o + i * 72) (O i) (SA i) (SB i) (SO i) (SC i)) := HA0.out.later hb hbB HSB.out
        have HB1 : Hid (Below base w3 x1) := HB0.out.trans hb
        have HL1 : Hid (X1.length ≤ 200008) := by
          show _ ≤ _
          rw [hX, List.length_append, be_len]
          have := HL0.out
          omega
        clear hX hO hb HA0 HO0 HB0 HL0
        clear HC
        have HSrc : Hid (∀ j u, (((O i).D).map (Value.int .u8))[j]? = some u → x1.cell? ((⟨b, o + i * 72 + 1, none⟩ : Addr).add j) = some u) := HA1.out.d.src
        have Hlen : Hid (((O i).D).length = 32) := HK.out.d
        have HLL : Hid (X1.length + 32 ≤ 1000000) := by show _ ≤ _; have := HL1.out; omega
        go_upto_region 13 with (at_builtin; refine wpList_app (by rfl) (.tmp 42) (.tmp 46) (by rfl) base v1x X1 ((O i).D) (by rfl) HO1.out ⟨b, o + i * 72 + 1, none⟩ 32 32 (by rfl) Hlen.out HSrc.out HLL.out ?_; intro v2x x2 hO hb)
        obtain ⟨X2, hX⟩ : ∃ l, l = X1 ++ (O i).D := ⟨_, rfl⟩
        rw [← hX] at hO
        have HX2 : Hid (X2 = X1 ++ (O i).D) := hX
        have HO2 : Hid (Ow base x2 v2x X2) := hO
        have HA2 : Hid (OfAt x2 b (o + i * 72) (O i) (SA i) (SB i) (SO i) (SC i)) := HA1.out.later hb hbB HSB.out
        have HB2 : Hid (Below base w3 x2) := HB1.out.trans hb
        have HL2 : Hid (X2.length ≤ 200040) := by
          show _ ≤ _
          rw [hX, List.length_append, Hlen.out]
          have := HL1.out
          omega
        clear hX hO hb HA1 HO1 HB1 HL1
        clear HSrc Hlen HLL
        have HLL : Hid (X2.length + 1 ≤ 1000000) := by show _ ≤ _; have := HL2.out; omega
        have HOa : Hid (∀ o, Ow base (x2.alloc o) v2x X2) := fun o => HO2.out.alloc o
        have HBa : Hid (∀ o, Below base x2 (x2.alloc o)) := fun o => ((Below.refl _ _).alloc (Nat.le_refl _) _).mono HO2.out.le
        have cX := HA2.out.k
        go_upto_region 14 with (at_builtin; refine wpList_app (by rfl) (.tmp 48) (.tmp 53) (by rfl) base v2x X2 [(O i).K] (by rfl) (HOa.out _) ⟨x2.heap.size, 0, none⟩ 1 1 (by rfl) (by rfl) (new_bytes x2 [(O i).K] 5) HLL.out ?_; intro v3x x3 hO hb)
        clear cX
        have hbb := (HBa.out _).trans hb
        obtain ⟨X3, hX⟩ : ∃ l, l = X2 ++ [(O i).K] := ⟨_, rfl⟩
        rw [← hX] at hO
        have HX3 : Hid (X3 = X2 ++ [(O i).K]) := hX
        have HO3 : Hid (Ow base x3 v3x X3) := hO
        have HA3 : Hid (OfAt x3 b (o + i * 72) (O i) (SA i) (SB i) (SO i) (SC i)) := HA2.out.later hbb hbB HSB.out
        have HB3 : Hid (Below base w3 x3) := HB2.out.trans hbb
        have HL3 : Hid (X3.length ≤ 200041) := by
          show _ ≤ _
          rw [hX, List.length_append, List.length_singleton]
          have := HL2.out
          omega
        clear hX hO hb HA2 HO2 HB2 HL2
        clear HLL HOa HBa hbb
        have HC : Hid (Calls Yba.prog 8 #[v3x, .int .u64 (O i).V, .int .i64 8] x3 (App base x3 (X3 ++ be 8 (O i).V))) := zbe_any base x3 v3x X3 (O i).V 8 HK.out.v (by decide) HO3.out (by have := HL3.out; omega)
        have cX := HA3.out.v
        go_wp2_with fail
        clear cX
        refine HC.out.mono ?_
        rintro e x4 ⟨v4x, rfl, hO, hb⟩
        obtain ⟨X4, hX⟩ : ∃ l, l = X3 ++ be 8 (O i).V := ⟨_, rfl⟩
        rw [← hX] at hO
        have HX4 : Hid (X4 = X3 ++ be 8 (O i).V) := hX
        have HO4 : Hid (Ow base x4 v4x X4) := hO
        have HA4 : Hid (OfAt x4 b (o + i * 72) (O i) (SA i) (SB i) (SO i) (SC i)) := HA3.out.later hb hbB HSB.out
        have HB4 : Hid (Below base w3 x4) := HB3.out.trans hb
        have HL4 : Hid (X4.length ≤ 200049) := by
          show _ ≤ _
          rw [hX, List.length_append, be_len]
          have := HL3.out
          omega
        clear hX hO hb HA3 HO3 HB3 HL3
        clear HC
        have HSrc : Hid (∀ j u, (((O i).Hs).map (Value.int .u8))[j]? = some u → x4.cell? ((⟨b, o + i * 72 + 35, none⟩ : Addr).add j) = some u) := HA4.out.hs.src
        have Hlen : Hid (((O i).Hs).length = 32) := HK.out.hs
        have HLL : Hid (X4.length + 32 ≤ 1000000) := by show _ ≤ _; have := HL4.out; omega
        go_upto_region 16 with (at_builtin; refine wpList_app (by rfl) (.tmp 61) (.tmp 65) (by rfl) base v4x X4 ((O i).Hs) (by rfl) HO4.out ⟨b, o + i * 72 + 35, none⟩ 32 32 (by rfl) Hlen.out HSrc.out HLL.out ?_; intro v5x x5 hO hb)
        obtain ⟨X5, hX⟩ : ∃ l, l = X4 ++ (O i).Hs := ⟨_, rfl⟩
        rw [← hX] at hO
        have HX5 : Hid (X5 = X4 ++ (O i).Hs) := hX
        have HO5 : Hid (Ow base x5 v5x X5) := hO
        have HA5 : Hid (OfAt x5 b (o + i * 72) (O i) (SA i) (SB i) (SO i) (SC i)) := HA4.out.later hb hbB HSB.out
        have HB5 : Hid (Below base w3 x5) := HB4.out.trans hb
        have HL5 : Hid (X5.length ≤ 200081) := by
          show _ ≤ _
          rw [hX, List.length_append, Hlen.out]
          have := HL4.out
          omega
        clear hX hO hb HA4 HO4 HB4 HL4
        clear HSrc Hlen HLL
        have HC : Hid (Calls Yba.prog 8 #[v5x, .int .u64 (O i).BV, .int .i64 8] x5 (App base x5 (X5 ++ be 8 (O i).BV))) := zbe_any base x5 v5x X5 (O i).BV 8 HK.out.bv (by decide) HO5.out (by have := HL5.out; omega)
        have cX := HA5.out.bv
        go_wp2_with fail
        clear cX
        refine HC.out.mono ?_
        rintro e x6 ⟨v6x, rfl, hO, hb⟩
        obtain ⟨X6, hX⟩ : ∃ l, l = X5 ++ be 8 (O i).BV := ⟨_, rfl⟩
        rw [← hX] at hO
        have HX6 : Hid (X6 = X5 ++ be 8 (O i).BV) := hX
        have HO6 : Hid (Ow base x6 v6x X6) := hO
        have HA6 : Hid (OfAt x6 b (o + i * 72) (O i) (SA i) (SB i) (SO i) (SC i)) := HA5.out.later hb hbB HSB.out
        have HB6 : Hid (Below base w3 x6) := HB5.out.trans hb
        have HL6 : Hid (X6.length ≤ 200089) := by
          show _ ≤ _
          rw [hX, List.length_append, be_len]
          have := HL5.out
          omega
        clear hX hO hb HA5 HO5 HB5 HL5
        clear HC
        have HC : Hid (Calls Yba.prog 8 #[v6x, .int .u64 (O i).PV, .int .i64 8] x6 (App base x6 (X6 ++ be 8 (O i).PV))) := zbe_any base x6 v6x X6 (O i).PV 8 HK.out.pv (by decide) HO6.out (by have := HL6.out; omega)
        have cX := HA6.out.pv
        go_wp2_with fail
        clear cX
        refine HC.out.mono ?_
        rintro e x7 ⟨v7x, rfl, hO, hb⟩
        obtain ⟨X7, hX⟩ : ∃ l, l = X6 ++ be 8 (O i).PV := ⟨_, rfl⟩
        rw [← hX] at hO
        have HX7 : Hid (X7 = X6 ++ be 8 (O i).PV) := hX
        have HO7 : Hid (Ow base x7 v7x X7) := hO
        have HA7 : Hid (OfAt x7 b (o + i * 72) (O i) (SA i) (SB i) (SO i) (SC i)) := HA6.out.later hb hbB HSB.out
        have HB7 : Hid (Below base w3 x7) := HB6.out.trans hb
        have HL7 : Hid (X7.length ≤ 200097) := by
          show _ ≤ _
          rw [hX, List.length_append, be_len]
          have := HL6.out
          omega
        clear hX hO hb HA6 HO6 HB6 HL6
        clear HC
        have HC : Hid (Calls Yba.prog 8 #[v7x, .int .u64 (O i).BH, .int .i64 8] x7 (App base x7 (X7 ++ be 8 (O i).BH))) := zbe_any base x7 v7x X7 (O i).BH 8 HK.out.bh (by decide) HO7.out (by have := HL7.out; omega)
        have cX := HA7.out.bh
        go_wp2_with fail
        clear cX
        refine HC.out.mono ?_
        rintro e x8 ⟨v8x, rfl, hO, hb⟩
        obtain ⟨X8, hX⟩ : ∃ l, l = X7 ++ be 8 (O i).BH := ⟨_, rfl⟩
        rw [← hX] at hO
        have HX8 : Hid (X8 = X7 ++ be 8 (O i).BH) := hX
        have HO8 : Hid (Ow base x8 v8x X8) := hO
        have HA8 : Hid (OfAt x8 b (o + i * 72) (O i) (SA i) (SB i) (SO i) (SC i)) := HA7.out.later hb hbB HSB.out
        have HB8 : Hid (Below base w3 x8) := HB7.out.trans hb
        have HL8 : Hid (X8.length ≤ 200105) := by
          show _ ≤ _
          rw [hX, List.length_append, be_len]
          have := HL7.out
          omega
        clear hX hO hb HA7 HO7 HB7 HL7
        clear HC
        obtain ⟨bv, hbv⟩ : ∃ x, x = (O i).Vt := ⟨_, rfl⟩
        have HVt : Hid (bv = (O i).Vt) := hbv
        have HV1 : Hid (x8.cell? ⟨b, o + i * 72 + 70, none⟩ = some (.bool bv)) := by
          show _ = _
          rw [hbv]; exact HA8.out.vt
        clear hbv
        cases bv with
        | true =>
          have HLL : Hid (X8.length + 1 ≤ 1000000) := by show _ ≤ _; have := HL8.out; omega
          have HOa : Hid (∀ o, Ow base (x8.alloc o) v8x X8) := fun o => HO8.out.alloc o
          have HBa : Hid (∀ o, Below base x8 (x8.alloc o)) := fun o => ((Below.refl _ _).alloc (Nat.le_refl _) _).mono HO8.out.le
          have cX := HV1.out
          clear HV1
          go_upto_region 22 with (at_builtin; refine wpList_app (by rfl) (.tmp 89) (.tmp 90) (by rfl) base v8x X8 [1] (by rfl) (HOa.out _) ⟨x8.heap.size, 0, none⟩ 1 1 (by rfl) (by rfl) (new_bytes x8 [1] 5) HLL.out ?_; intro v9x x9 hO hb)
          clear cX
          have hbb := (HBa.out _).trans hb
          obtain ⟨X9, hX⟩ : ∃ l, l = X8 ++ [1] := ⟨_, rfl⟩
          rw [← hX] at hO
          have HX9 : Hid (X9 = X8 ++ [1]) := hX
          have HO9 : Hid (Ow base x9 v9x X9) := hO
          have HA9 : Hid (OfAt x9 b (o + i * 72) (O i) (SA i) (SB i) (SO i) (SC i)) := HA8.out.later hbb hbB HSB.out
          have HB9 : Hid (Below base w3 x9) := HB8.out.trans hbb
          have HL9 : Hid (X9.length ≤ 200106) := by
            show _ ≤ _
            rw [hX, List.length_append, List.length_singleton]
            have := HL8.out
            omega
          clear hX hO hb HA8 HO8 HB8 HL8
          clear HLL HOa HBa hbb
          have HC : Hid (Calls Yba.prog 8 #[v9x, .int .u64 (O i).S.length, .int .i64 2] x9 (App base x9 (X9 ++ be 2 (O i).S.length))) := zbe_any base x9 v9x X9 (O i).S.length 2 (by omega) (by decide) HO9.out (by have := HL9.out; omega)
          have cX := HA9.out.sl
          go_wp2_with fail
          clear cX
          refine HC.out.mono ?_
          rintro e x10 ⟨v10x, rfl, hO, hb⟩
          obtain ⟨X10, hX⟩ : ∃ l, l = X9 ++ be 2 (O i).S.length := ⟨_, rfl⟩
          rw [← hX] at hO
          have HX10 : Hid (X10 = X9 ++ be 2 (O i).S.length) := hX
          have HO10 : Hid (Ow base x10 v10x X10) := hO
          have HA10 : Hid (OfAt x10 b (o + i * 72) (O i) (SA i) (SB i) (SO i) (SC i)) := HA9.out.later hb hbB HSB.out
          have HB10 : Hid (Below base w3 x10) := HB9.out.trans hb
          have HL10 : Hid (X10.length ≤ 200108) := by
            show _ ≤ _
            rw [hX, List.length_append, be_len]
            have := HL9.out
            omega
          clear hX hO hb HA9 HO9 HB9 HL9
          clear HC
          have HE : Hid (X10 ++ encSigs (O i).S = Y ++ encAll O (i + 1)) := by
            show _ = _
            have hv := HVt.out
            rw [HX10.out, HX9.out, HX8.out, HX7.out, HX6.out, HX5.out, HX4.out, HX3.out, HX2.out, HX1.out, HX0.out]
            simp only [encAll, encOf, ← hv, List.append_assoc]
            rfl
          have HS0 : Hid (Sj base w3 x10 v10x X10 (O i).S 0) := ⟨Nat.zero_le _, by simpa [encSigs] using HO10.out, HB10.out⟩
          have HSok : Hid (∀ x ∈ (O i).S, x.sig.length = 64 ∧ -9223372036854775808 ≤ x.signer ∧ x.signer ≤ 9223372036854775807) := HK.out.s
          have cX := HA10.out.sl
          clear HX0 HX1 HX2 HX3 HX4 HX5 HX6 HX7 HX8 HX9 HX10 HVt HA10 HO10 HB10
          go_wp2_with fail
          clear cX
          go_loopw [7, 108] (fun v k wr => ∃ j : Nat, k = .int .i64 j ∧ Sj base w3 wr v X10 (O i).S j) (fun _ k _ => (O i).S.length - (intOf k).toNat)
          case atStart => exact ⟨0, rfl, HS0.out⟩
          case round =>
            clear HS0
            obtain ⟨w8, ew⟩ : ∃ x, x = wr := ⟨_, rfl⟩
            subst ew
            obtain ⟨j, rfl, hSj⟩ := hrel
            have HSj : Hid (Sj base w3 w8 u7 X10 (O i).S j) := hSj
            have hjn := hSj.le
            clear hSj
            have HAj : Hid (OfAt w8 b (o + i * 72) (O i) (SA i) (SB i) (SO i) (SC i)) := (HIn.out i hlt).1.later HSj.out.below hbB HSB.out
            have cS := HAj.out.sl
            by_cases hj : j < (O i).S.length
            · have hj' : (j : Int) < ((O i).S.length : Int) := by omega
              obtain ⟨s, hs⟩ : ∃ s, (O i).S[j]? = some s := ⟨(O i).S[j], by simp [hj]⟩
              have HSs : Hid ((O i).S[j]? = some s) := hs
              have hsB : SB i < base := HSB.out (by omega)
              have hsg := HAj.out.sg j s hs
              rw [Nat.mul_comm 65 j] at hsg
              have cG := hsg.signer
              have HSg : Hid (By w8 (SB i) (SO i + j * 65 + 1) s.sig) := hsg.sig
              have hsa := HAj.out.sa (by omega)
              rw [hsa] at cS
              have Hlen : Hid (s.sig.length = 64) := (HSok.out s (List.mem_of_getElem? hs)).1
              have HTk : Hid (encSigs ((O i).S.take (j + 1)) = encSigs ((O i).S.take j) ++ (be 2 s.signer ++ s.sig)) := take_nextS hs
              obtain ⟨Z, hZ⟩ : ∃ Z, Z = X10 ++ encSigs ((O i).S.take j) := ⟨_, rfl⟩
              have HZ : Hid (Z = X10 ++ encSigs ((O i).S.take j)) := hZ
              have HZl : Hid (Z.length + 66 ≤ 1000000) := by
                show _ ≤ _
                rw [hZ, List.length_append, encSigs_len _ (fun x hx => (HSok.out x (List.mem_of_mem_take hx)).1), List.length_take]
                have := HL10.out
                omega
              have HC2 : Hid (Calls Yba.prog 8 #[u7, .int .u64 (s.signer % 18446744073709551616), .int .i64 2] w8 (App base w8 (Z ++ be 2 s.signer))) := by
                show Calls _ _ _ _ _
                rw [← be2_u64]
                exact zbe_any base w8 u7 Z _ 2 (by omega) (by decide) (by rw [hZ]; exact HSj.out.ow) (by have := HZl.out; omega)
              have HB8 : Hid (Below base w3 w8) := HSj.out.below
              have cS8 := cS
              have HcS : Hid (w8.cell? ⟨b, o + i * 72 + 71, none⟩ = some (.slice (some ⟨SB i, SO i, none⟩) (O i).S.length (SC i))) := cS8
              clear hs hsg hsa hZ cS8 HAj HSj
              go_wp2_with fail
              refine HC2.out.mono ?_
              rintro e w9 ⟨v9, rfl, hO9, hb9⟩
              clear cS cG
              have cS : w9.cell? ⟨b, o + i * 72 + 71, none⟩ = some (.slice (some ⟨SB i, SO i, none⟩) (O i).S.length (SC i)) := cell_below hb9 hbB HcS.out
              have HSrc : Hid (∀ q u, (s.sig.map (Value.int .u8))[q]? = some u → w9.cell? ((⟨SB i, SO i + j * 65 + 1, none⟩ : Addr).add q) = some u) := (HSg.out.later hb9 hsB).src
              have HO9 : Hid (Ow base w9 v9 (Z ++ be 2 s.signer)) := hO9
              have HB9 : Hid (Below base w3 w9) := HB8.out.trans hb9
              have HLL : Hid ((Z ++ be 2 s.signer).length + 64 ≤ 1000000) := by
                show _ ≤ _
                rw [List.length_append, be_len]
                have := HZl.out
                omega
              clear hO9 hb9 HcS HC2 HSg HB8
              go_wp2_with (at_builtin; refine wpList_app (by rfl) (.tmp 122) (.tmp 130) (by rfl) base v9 (Z ++ be 2 s.signer) s.sig (by rfl) HO9.out ⟨SB i, SO i + j * 65 + 1, none⟩ 64 64 (by rfl) Hlen.out HSrc.out HLL.out ?_; intro v10 w10 hO10 hb10)
              go_roundw
              case rel =>
                refine ⟨j + 1, by go_num, by omega, ?_, HB9.out.trans hb10⟩
                rw [HTk.out, ← List.append_assoc, ← List.append_assoc, ← HZ.out]
                exact hO10
              case measure => simp [intOf]; omega
            · have hj' : ¬ (j : Int) < ((O i).S.length : Int) := by omega
              have HN : Hid (Bi base w3 w8 u7 Y O n (i + 1)) := by
                refine ⟨by omega, ?_, HSj.out.below⟩
                have h1 := HSj.out.ow
                rw [List.take_of_length_le (by omega), HE.out] at h1
                exact h1
              go_wp2_with fail
              go_roundw
              case rel => exact ⟨i + 1, by go_num, HN.out⟩
              case measure => simp [intOf]; omega
        | false =>
          have HLL : Hid (X8.length + 1 ≤ 1000000) := by show _ ≤ _; have := HL8.out; omega
          have HOa : Hid (∀ o, Ow base (x8.alloc o) v8x X8) := fun o => HO8.out.alloc o
          have HBa : Hid (∀ o, Below base x8 (x8.alloc o)) := fun o => ((Below.refl _ _).alloc (Nat.le_refl _) _).mono HO8.out.le
          have cX := HV1.out
          clear HV1
          go_upto_region 22 with (at_builtin; refine wpList_app (by rfl) (.tmp 92) (.tmp 93) (by rfl) base v8x X8 [0] (by rfl) (HOa.out _) ⟨x8.heap.size, 0, none⟩ 1 1 (by rfl) (by rfl) (new_bytes x8 [0] 5) HLL.out ?_; intro v9x x9 hO hb)
          clear cX
          have hbb := (HBa.out _).trans hb
          obtain ⟨X9, hX⟩ : ∃ l, l = X8 ++ [0] := ⟨_, rfl⟩
          rw [← hX] at hO
          have HX9 : Hid (X9 = X8 ++ [0]) := hX
          have HO9 : Hid (Ow base x9 v9x X9) := hO
          have HA9 : Hid (OfAt x9 b (o + i * 72) (O i) (SA i) (SB i) (SO i) (SC i)) := HA8.out.later hbb hbB HSB.out
          have HB9 : Hid (Below base w3 x9) := HB8.out.trans hbb
          have HL9 : Hid (X9.length ≤ 200106) := by
            show _ ≤ _
            rw [hX, List.length_append, List.length_singleton]
            have := HL8.out
            omega
          clear hX hO hb HA8 HO8 HB8 HL8
          clear HLL HOa HBa hbb
          have HC : Hid (Calls Yba.prog 8 #[v9x, .int .u64 (O i).S.length, .int .i64 2] x9 (App base x9 (X9 ++ be 2 (O i).S.length))) := zbe_any base x9 v9x X9 (O i).S.length 2 (by omega) (by decide) HO9.out (by have := HL9.out; omega)
          have cX := HA9.out.sl
          go_wp2_with fail
          clear cX
          refine HC.out.mono ?_
          rintro e x10 ⟨v10x, rfl, hO, hb⟩
          obtain ⟨X10, hX⟩ : ∃ l, l = X9 ++ be 2 (O i).S.length := ⟨_, rfl⟩
          rw [← hX] at hO
          have HX10 : Hid (X10 = X9 ++ be 2 (O i).S.length) := hX
          have HO10 : Hid (Ow base x10 v10x X10) := hO
          have HA10 : Hid (OfAt x10 b (o + i * 72) (O i) (SA i) (SB i) (SO i) (SC i)) := HA9.out.later hb hbB HSB.out
          have HB10 : Hid (Below base w3 x10) := HB9.out.trans hb
          have HL10 : Hid (X10.length ≤ 200108) := by
            show _ ≤ _
            rw [hX, List.length_append, be_len]
            have := HL9.out
            omega
          clear hX hO hb HA9 HO9 HB9 HL9
          clear HC
          have HE : Hid (X10 ++ encSigs (O i).S = Y ++ encAll O (i + 1)) := by
            show _ = _
            have hv := HVt.out
            rw [HX10.out, HX9.out, HX8.out, HX7.out, HX6.out, HX5.out, HX4.out, HX3.out, HX2.out, HX1.out, HX0.out]
            simp only [encAll, encOf, ← hv, List.append_assoc]
            rfl
          have HS0 : Hid (Sj base w3 x10 v10x X10 (O i).S 0) := ⟨Nat.zero_le _, by simpa [encSigs] using HO10.out, HB10.out⟩
          have HSok : Hid (∀ x ∈ (O i).S, x.sig.length = 64 ∧ -9223372036854775808 ≤ x.signer ∧ x.signer ≤ 9223372036854775807) := HK.out.s
          have cX := HA10.out.sl
          clear HX0 HX1 HX2 HX3 HX4 HX5 HX6 HX7 HX8 HX9 HX10 HVt HA10 HO10 HB10
          go_wp2_with fail
          clear cX
          go_loopw [7, 108] (fun v k wr => ∃ j : Nat, k = .int .i64 j ∧ Sj base w3 wr v X10 (O i).S j) (fun _ k _ => (O i).S.length - (intOf k).toNat)
          case atStart => exact ⟨0, rfl, HS0.out⟩
          case round =>
            clear HS0
            obtain ⟨w8, ew⟩ : ∃ x, x = wr := ⟨_, rfl⟩
            subst ew
            obtain ⟨j, rfl, hSj⟩ := hrel
            have HSj : Hid (Sj base w3 w8 u7 X10 (O i).S j) := hSj
            have hjn := hSj.le
            clear hSj
            have HAj : Hid (OfAt w8 b (o + i * 72) (O i) (SA i) (SB i) (SO i) (SC i)) := (HIn.out i hlt).1.later HSj.out.below hbB HSB.out
            have cS := HAj.out.sl
            by_cases hj : j < (O i).S.length
            · have hj' : (j : Int) < ((O i).S.length : Int) := by omega
              obtain ⟨s, hs⟩ : ∃ s, (O i).S[j]? = some s := ⟨(O i).S[j], by simp [hj]⟩
              have HSs : Hid ((O i).S[j]? = some s) := hs
              have hsB : SB i < base := HSB.out (by omega)
              have hsg := HAj.out.sg j s hs
              rw [Nat.mul_comm 65 j] at hsg
              have cG := hsg.signer
              have HSg : Hid (By w8 (SB i) (SO i + j * 65 + 1) s.sig) := hsg.sig
              have hsa := HAj.out.sa (by omega)
              rw [hsa] at cS
              have Hlen : Hid (s.sig.length = 64) := (HSok.out s (List.mem_of_getElem? hs)).1
              have HTk : Hid (encSigs ((O i).S.take (j + 1)) = encSigs ((O i).S.take j) ++ (be 2 s.signer ++ s.sig)) := take_nextS hs
              obtain ⟨Z, hZ⟩ : ∃ Z, Z = X10 ++ encSigs ((O i).S.take j) := ⟨_, rfl⟩
              have HZ : Hid (Z = X10 ++ encSigs ((O i).S.take j)) := hZ
              have HZl : Hid (Z.length + 66 ≤ 1000000) := by
                show _ ≤ _
                rw [hZ, List.length_append, encSigs_len _ (fun x hx => (HSok.out x (List.mem_of_mem_take hx)).1), List.length_take]
                have := HL10.out
                omega
              have HC2 : Hid (Calls Yba.prog 8 #[u7, .int .u64 (s.signer % 18446744073709551616), .int .i64 2] w8 (App base w8 (Z ++ be 2 s.signer))) := by
                show Calls _ _ _ _ _
                rw [← be2_u64]
                exact zbe_any base w8 u7 Z _ 2 (by omega) (by decide) (by rw [hZ]; exact HSj.out.ow) (by have := HZl.out; omega)
              have HB8 : Hid (Below base w3 w8) := HSj.out.below
              have cS8 := cS
              have HcS : Hid (w8.cell? ⟨b, o + i * 72 + 71, none⟩ = some (.slice (some ⟨SB i, SO i, none⟩) (O i).S.length (SC i))) := cS8
              clear hs hsg hsa hZ cS8 HAj HSj
              go_wp2_with fail
              refine HC2.out.mono ?_
              rintro e w9 ⟨v9, rfl, hO9, hb9⟩
              clear cS cG
              have cS : w9.cell? ⟨b, o + i * 72 + 71, none⟩ = some (.slice (some ⟨SB i, SO i, none⟩) (O i).S.length (SC i)) := cell_below hb9 hbB HcS.out
              have HSrc : Hid (∀ q u, (s.sig.map (Value.int .u8))[q]? = some u → w9.cell? ((⟨SB i, SO i + j * 65 + 1, none⟩ : Addr).add q) = some u) := (HSg.out.later hb9 hsB).src
              have HO9 : Hid (Ow base w9 v9 (Z ++ be 2 s.signer)) := hO9
              have HB9 : Hid (Below base w3 w9) := HB8.out.trans hb9
              have HLL : Hid ((Z ++ be 2 s.signer).length + 64 ≤ 1000000) := by
                show _ ≤ _
                rw [List.length_append, be_len]
                have := HZl.out
                omega
              clear hO9 hb9 HcS HC2 HSg HB8
              go_wp2_with (at_builtin; refine wpList_app (by rfl) (.tmp 122) (.tmp 130) (by rfl) base v9 (Z ++ be 2 s.signer) s.sig (by rfl) HO9.out ⟨SB i, SO i + j * 65 + 1, none⟩ 64 64 (by rfl) Hlen.out HSrc.out HLL.out ?_; intro v10 w10 hO10 hb10)
              go_roundw
              case rel =>
                refine ⟨j + 1, by go_num, by omega, ?_, HB9.out.trans hb10⟩
                rw [HTk.out, ← List.append_assoc, ← List.append_assoc, ← HZ.out]
                exact hO10
              case measure => simp [intOf]; omega
            · have hj' : ¬ (j : Int) < ((O i).S.length : Int) := by omega
              have HN : Hid (Bi base w3 w8 u7 Y O n (i + 1)) := by
                refine ⟨by omega, ?_, HSj.out.below⟩
                have h1 := HSj.out.ow
                rw [List.take_of_length_le (by omega), HE.out] at h1
                exact h1
              go_wp2_with fail
              go_roundw
              case rel => exact ⟨i + 1, by go_num, HN.out⟩
              case measure => simp [intOf]; omega
      · have hlt' : ¬ (i : Int) < (n : Int) := by omega
        have hin' : i = n := by omega
        have HQ : Hid (Calls Yba.prog 9 #[v3, u7] w6 fun e w'' => e = .returned (.bool true) ∧ w'' = w6) := by
          refine equal_any w1.heap.size base w6 v3 u7 (Y ++ encAll O n) ?_ ?_
          · have h1 := (HO3.out.later (by have := HBi.out.below; rw [HBs.out] at this; exact this)).own
            rw [HEq.out] at h1
            exact h1
          · have h1 := HBi.out.ow.own
            rw [hin'] at h1
            exact h1
        clear hin'
        go_wp2_with fail
        refine HQ.out.mono ?_
        rintro e w7 ⟨rfl, rfl⟩
        go_wp2_with fail
        go_ret
        exact ⟨rfl, HB3.out.trans (HBi.out.below.mono (by rw [HBs.out]; exact HB3.out.size))⟩
  · have hg' : gd np n O = false := by simpa using hg
    rw [hg'] at hG
    have HG : Hid (Calls Yba.prog 5 #[.slice a0 np c0, .slice a1 n c1] w fun e w' => e = .returned (.bool false) ∧ w' = w) := hG
    clear hG hg hg'
    go_enter Yba.func3, Yba.ntmps3
    go_wp2_with fail
    refine HG.out.mono ?_
    rintro e w' ⟨rfl, rfl⟩
    go_wp2_with fail
    go_ret
    exact ⟨rfl, Below.refl _ _⟩
end Go.Proofs.Ybulkekq
