/-
  (*Checkpoints).appendBody.
-/
import Derived.Test.YbulkekqCert
namespace Go.Proofs.Ybulkekq
open Go.RowKit
open Pk

/-- i offers are appended. -/
structure Bi (base : Nat) (w wr : World) (v : Value) (Y : List Int) (O : Nat → OfD) (n i : Nat) : Prop where
  le : i ≤ n
  ow : Ow base wr v (Y ++ encAll O i)
  below : Below base w wr

theorem encOf_split (o : OfD) : encOf o = (be 8 o.H ++ o.D) ++ ([o.K] ++ (be 8 o.V ++ ((o.Hs ++ (be 8 o.BV ++ (be 8 o.PV ++ (be 8 o.BH ++ [if o.Vt then 1 else 0])))) ++ (be 2 o.S.length ++ encSigs o.S)))) := by
  simp only [encOf, List.append_assoc]

set_option maxHeartbeats 800000 in
set_option maxRecDepth 100000 in
theorem body_any (base : Nat) (w : World) (v : Value) (X : List Int) (M F n : Nat) (O : Nat → OfD) (SA : Nat → Option Addr) (SB SO SC : Nat → Nat) (hM : w.cell? ⟨M, 0, none⟩ = some (.slice (some ⟨F, 0, none⟩) n n)) (hA : ∀ i, i < n → OfAt w F (i * 72) (O i) (SA i) (SB i) (SO i) (SC i))
    (hk : ∀ i, i < n → OfOk (O i)) (hn : n ≤ 256) (ht : tot O n ≤ 1024) (hMB : M < base) (hFB : 0 < n → F < base) (hS : ∀ i, i < n → 0 < (O i).S.length → SB i < base) (hW : Ow base w v X) (hb : X.length ≤ 2000) :
    Calls Yba.prog 7 #[.pointer (some ⟨M, 0, none⟩), v] w (App base w (X ++ (be 4 n ++ encAll O n))) := by
  have HA : Hid (∀ i, i < n → OfAt w F (i * 72) (O i) (SA i) (SB i) (SO i) (SC i)) := hA
  have HK : Hid (∀ i, i < n → OfOk (O i)) := hk
  have HS : Hid (∀ i, i < n → 0 < (O i).S.length → SB i < base) := hS
  have HC0 : Hid (Calls Yba.prog 10 #[.agg #[], v, .int .u32 ((n : Int) % 4294967296)] w.drew (App base w.drew (X ++ be 4 n))) := by
    have e : ((n : Int) % 4294967296) = n := by omega
    show Calls _ _ _ _ _
    rw [e]
    exact u32_any base w.drew v X n (by omega) hW.drew (by omega)
  clear hA hk hS hW
  go_enter Yba.func7, Yba.ntmps7
  go_wp2_with fail
  go_region_held3 (fun w' => w'.cell? ⟨M, 0, none⟩ = some (.slice (some ⟨F, 0, none⟩) n n)) (first | exact hM | exact keepC hM hMB hb1)
    (first | (go_at_call 10; refine HC0.out.mono ?_; rintro e w1 ⟨v1, rfl, hO1, hb1⟩))
  rename_i hHeld
  clear hHeld
  obtain ⟨Y, hY⟩ : ∃ Y, Y = X ++ be 4 n := ⟨_, rfl⟩
  have HY : Hid (Y.length ≤ 2004) := by show _ ≤ _; rw [hY, List.length_append, be_len]; omega
  have HT : Hid (X ++ (be 4 n ++ encAll O n) = Y ++ encAll O n) := by show _ = _; rw [hY, List.append_assoc]
  have h0 : Bi base w w1 v1 Y O n 0 := ⟨Nat.zero_le _, by rw [hY]; simpa [encAll] using hO1, (Below.refl _ _).drew.trans hb1⟩
  have m1 := keepC hM hMB hb1
  clear hO1 hb1 HC0 hY
  go_wp2_with fail
  go_loopw [1, 20] (fun v k wr => ∃ i : Nat, k = .int .i64 i ∧ Bi base w wr v Y O n i) (fun _ k _ => n - (intOf k).toNat)
  case atStart => exact ⟨0, rfl, h0⟩
  case round =>
    clear h0 m1
    obtain ⟨w5, ew⟩ : ∃ x, x = wr := ⟨_, rfl⟩
    subst ew
    obtain ⟨i, rfl, hC⟩ := hrel
    have HBi : Hid (Bi base w w5 u1 Y O n i) := hC
    have hi := hC.le
    have m5 := cell_below hC.below hMB hM
    clear hC
    by_cases hlt : i < n
    · have hlt' : (i : Int) < (n : Int) := by omega
      have HA5 : Hid (OfAt w5 F (i * 72) (O i) (SA i) (SB i) (SO i) (SC i)) := (HA.out i hlt).later HBi.out.below (hFB (by omega)) (HS.out i hlt)
      have HKi : Hid (OfOk (O i)) := HK.out i hlt
      have HLen : Hid ((Y ++ encAll O i).length + (108 + 66 * (O i).S.length) ≤ 1000000 ∧ (O i).S.length ≤ 1024) := by
        show _ ∧ _
        have h1 := encAll_len O i (fun j hj => HK.out j (by omega))
        have h2 : tot O (i + 1) ≤ tot O n := tot_mono O (by omega)
        simp only [tot] at h2
        rw [List.length_append, h1]
        have := HY.out
        omega
      have HLen2 : Hid (((Y ++ encAll O i) ++ (be 8 (O i).H ++ (O i).D)).length + (68 + 66 * (O i).S.length) ≤ 1000000) := by
        show _ ≤ _
        have h1 := HLen.out
        have h2 : (be 8 (O i).H ++ (O i).D).length = 40 := by rw [List.length_append, be_len, HKi.out.d]
        rw [List.length_append, h2]
        omega
      have HC1 : Hid (Calls Yba.prog 11 #[u1, .pointer (some ⟨F, i * 72, none⟩)] w5 (App base w5 ((Y ++ encAll O i) ++ (be 8 (O i).H ++ (O i).D)))) :=
        ck_any base w5 u1 _ F (i * 72) (O i).H (O i).D HKi.out.h HA5.out.h HA5.out.d HKi.out.d (hFB (by omega)) HBi.out.ow (by have := HLen.out; omega)
      go_wp2_with fail
      refine HC1.out.mono ?_
      rintro e w6 ⟨v6, rfl, hO6, hb6⟩
      have HB6 : Hid (Below base w5 w6) := hb6
      have m6 := cell_below hb6 hMB m5
      have HC2 : Hid (Calls Yba.prog 12 #[v6, .pointer (some ⟨F, i * 72 + 33, none⟩)] w6 (App base w6 (((Y ++ encAll O i) ++ (be 8 (O i).H ++ (O i).D)) ++ ([(O i).K] ++ (be 8 (O i).V ++ (((O i).Hs ++ (be 8 (O i).BV ++ (be 8 (O i).PV ++ (be 8 (O i).BH ++ [if (O i).Vt then 1 else 0])))) ++ (be 2 (O i).S.length ++ encSigs (O i).S))))))) :=
        cert_any base w6 v6 _ F (i * 72 + 33) (O i) (SA i) (SB i) (SO i) (SC i) (HA5.out.later hb6 (hFB (by omega)) (HS.out i hlt)).ct HKi.out HLen.out.2 (hFB (by omega)) (HS.out i hlt) hO6 HLen2.out
      clear hO6 hb6 HC1 m5
      go_wp2_with fail
      refine HC2.out.mono ?_
      rintro e w7 ⟨v7, rfl, hO7, hb7⟩
      have HN : Hid (Bi base w w7 v7 Y O n (i + 1)) := ⟨by omega, by
        have e : Y ++ encAll O (i + 1) = ((Y ++ encAll O i) ++ (be 8 (O i).H ++ (O i).D)) ++ ([(O i).K] ++ (be 8 (O i).V ++ (((O i).Hs ++ (be 8 (O i).BV ++ (be 8 (O i).PV ++ (be 8 (O i).BH ++ [if (O i).Vt then 1 else 0])))) ++ (be 2 (O i).S.length ++ encSigs (O i).S)))) := by
          simp only [encAll, encOf_split, List.append_assoc]
        rw [e]; exact hO7, (HBi.out.below.trans HB6.out).trans hb7⟩
      clear hO7 hb7 HC2 m6
      go_wp2_with fail
      go_roundw
      case rel => exact ⟨i + 1, by go_num, HN.out⟩
      case measure => simp [intOf]; omega
    · have hlt' : ¬ (i : Int) < (n : Int) := by omega
      go_wp2_with fail
      go_ret
      refine ⟨u1, rfl, ?_, HBi.out.below⟩
      have e : i = n := by omega
      have := HBi.out.ow
      rw [e] at this
      rw [HT.out]
      exact this

end Go.Proofs.Ybulkekq
