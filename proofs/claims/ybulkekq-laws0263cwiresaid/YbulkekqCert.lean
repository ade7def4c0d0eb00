/-
  appendCert.
-/
import Derived.Test.YbulkekqRef
namespace Go.Proofs.Ybulkekq
open Go.RowKit
open Pk

theorem Yba.cells55 : Yba.prog.cellsOf 55 = 65 := by kernel_rfl

/-- j signatures are appended. -/
structure Ci (base : Nat) (w wr : World) (v : Value) (Y : List Int) (S : List SigD) (j : Nat) : Prop where
  le : j ≤ S.length
  ow : Ow base wr v (Y ++ encSigs (S.take j))
  below : Below base w wr

theorem take_next {S : List SigD} {j : Nat} {s : SigD} (h : S[j]? = some s) : encSigs (S.take (j + 1)) = encSigs (S.take j) ++ (be 2 s.signer ++ s.sig) := by
  obtain ⟨hlt, he⟩ := List.getElem?_eq_some_iff.1 h
  rw [List.take_succ_eq_append_getElem hlt, encSigs_app, he]
  simp [encSigs]

theorem len_take {S : List SigD} {j : Nat} (h : ∀ s ∈ S, s.sig.length = 64) (hj : j ≤ S.length) : (encSigs (S.take j)).length = 66 * j := by
  rw [encSigs_len _ (fun s hs => h s (List.mem_of_mem_take hs)), List.length_take]
  rw [Nat.min_eq_left hj]

/-- A certificate at ⟨b, p⟩. -/
structure CtAt (w : World) (b p : Nat) (O : OfD) (sa : Option Addr) (sb so sc : Nat) : Prop where
  k : w.cell? ⟨b, p, none⟩ = some (.int .u8 O.K)
  v : w.cell? ⟨b, p + 1, none⟩ = some (.int .u64 O.V)
  hs : By w b (p + 2) O.Hs
  bv : w.cell? ⟨b, p + 2 + 32, none⟩ = some (.int .u64 O.BV)
  pv : w.cell? ⟨b, p + 2 + 33, none⟩ = some (.int .u64 O.PV)
  bh : w.cell? ⟨b, p + 2 + 34, none⟩ = some (.int .u64 O.BH)
  vt : w.cell? ⟨b, p + 2 + 35, none⟩ = some (.bool O.Vt)
  sl : w.cell? ⟨b, p + 38, none⟩ = some (.slice sa O.S.length sc)
  sa : 0 < O.S.length → sa = some ⟨sb, so, none⟩
  sg : ∀ j s, O.S[j]? = some s → SgAt w sb (so + 65 * j) s

theorem OfAt.ct {w : World} {b o : Nat} {O : OfD} {sa : Option Addr} {sb so sc : Nat} (h : OfAt w b o O sa sb so sc) : CtAt w b (o + 33) O sa sb so sc :=
  ⟨h.k, h.v, h.hs, h.bv, h.pv, h.bh, h.vt, h.sl, h.sa, h.sg⟩

theorem CtAt.later {w w' : World} {b p B : Nat} {O : OfD} {sa : Option Addr} {sb so sc : Nat} (h : CtAt w b p O sa sb so sc) (hb : Below B w w') (hB : b < B) (hS : 0 < O.S.length → sb < B) : CtAt w' b p O sa sb so sc :=
  ⟨cell_below hb hB h.k, cell_below hb hB h.v, h.hs.later hb hB, cell_below hb hB h.bv, cell_below hb hB h.pv, cell_below hb hB h.bh, cell_below hb hB h.vt, cell_below hb hB h.sl, h.sa,
    fun j s hs => (h.sg j s hs).later hb (hS (by have := (List.getElem?_eq_some_iff.1 hs).1; omega))⟩

set_option maxHeartbeats 400000 in
set_option maxRecDepth 100000 in
theorem cert_any (base : Nat) (w : World) (v : Value) (X : List Int) (b p : Nat) (O : OfD) (sa : Option Addr) (sb so sc : Nat) (hO : CtAt w b p O sa sb so sc) (hk : OfOk O) (hn : O.S.length ≤ 1024) (hB : b < base) (hS : 0 < O.S.length → sb < base) (hW : Ow base w v X) (hb : X.length + (68 + 66 * O.S.length) ≤ 1000000) :
    Calls Yba.prog 12 #[v, .pointer (some ⟨b, p, none⟩)] w (App base w (X ++ ([O.K] ++ (be 8 O.V ++ ((O.Hs ++ (be 8 O.BV ++ (be 8 O.PV ++ (be 8 O.BH ++ [if O.Vt then 1 else 0])))) ++ (be 2 O.S.length ++ encSigs O.S)))))) := by
  have HA : Hid (CtAt w b p O sa sb so sc) := hO
  have HK : Hid (OfOk O) := hk
  have c0 : w.cell? ⟨b, p, none⟩ = some (.int .u8 O.K) := hO.k
  have HW : Hid (∀ o, Ow base (w.alloc o) v X) := fun o => hW.alloc o
  have HBa : Hid (∀ o, Below base w (w.alloc o)) := fun o => ((Below.refl _ _).alloc (Nat.le_refl _) _).mono hW.le
  obtain ⟨T, hT⟩ : ∃ T, T = X ++ ([O.K] ++ (be 8 O.V ++ ((O.Hs ++ (be 8 O.BV ++ (be 8 O.PV ++ (be 8 O.BH ++ [if O.Vt then 1 else 0])))) ++ (be 2 O.S.length ++ encSigs O.S)))) := ⟨_, rfl⟩
  rw [← hT]
  have HT : Hid (T = X ++ ([O.K] ++ (be 8 O.V ++ ((O.Hs ++ (be 8 O.BV ++ (be 8 O.PV ++ (be 8 O.BH ++ [if O.Vt then 1 else 0])))) ++ (be 2 O.S.length ++ encSigs O.S))))) := hT
  clear hT hO hk hW
  go_enter Yba.func12, Yba.ntmps12
  go_wp2_with (at_builtin; refine wpList_app (by rfl) (.tmp 6) (.tmp 11) (by rfl) base v X [O.K] (by rfl) (HW.out _) ⟨w.heap.size, 0, none⟩ 1 1 (by rfl) (by rfl) (new_bytes w [O.K] 5) (by omega) ?_; intro v1 w1 hO1 hb1)
  have hb1' := (HBa.out _).trans hb1
  have HB1 : Hid (Below base w w1) := hb1'
  have c1 : w1.cell? ⟨b, p + 1, none⟩ = some (.int .u64 O.V) := cell_below hb1' hB HA.out.v
  have HC1 : Hid (Calls Yba.prog 13 #[.agg #[], v1, .int .u64 O.V] w1.drew (App base w1.drew ((X ++ [O.K]) ++ be 8 O.V))) := u64_any base w1.drew v1 _ O.V HK.out.v hO1.drew (by simp only [List.length_append, List.length_cons, List.length_nil]; omega)
  clear hb1 hb1' hO1 HW HBa c0
  go_wp2_with fail
  go_region_held3 (fun w' => w'.cell? ⟨b, p + 1, none⟩ = some (.int .u64 O.V)) (first | exact c1 | exact keepC c1 hB hb2)
    (first | (go_at_call 13; refine HC1.out.mono ?_; rintro e w2 ⟨v2, rfl, hO2, hb2⟩))
  rename_i hHeld
  clear hHeld
  have HB2 : Hid (Below base w w2) := HB1.out.drew.trans hb2
  have HA2 : Hid (CtAt w2 b p O sa sb so sc) := HA.out.later HB2.out hB hS
  have HC2 : Hid (Calls Yba.prog 14 #[v2, .pointer (some ⟨b, p + 2, none⟩)] w2 (App base w2 (((X ++ [O.K]) ++ be 8 O.V) ++ (O.Hs ++ (be 8 O.BV ++ (be 8 O.PV ++ (be 8 O.BH ++ [if O.Vt then 1 else 0]))))))) :=
    ref_any base w2 v2 _ b (p + 2) O.Hs O.BV O.PV O.BH O.Vt HK.out.bv HK.out.pv HK.out.bh HA2.out.hs HK.out.hs HA2.out.bv HA2.out.pv HA2.out.bh HA2.out.vt hB hO2 (by simp only [List.length_append, List.length_cons, List.length_nil, be_len]; omega)
  clear hO2 hb2 HC1 HB1 c1
  go_wp2_with fail
  refine HC2.out.mono ?_
  rintro e w3 ⟨v3, rfl, hO3, hb3⟩
  have HB3 : Hid (Below base w w3) := HB2.out.trans hb3
  have HA3 : Hid (CtAt w3 b p O sa sb so sc) := HA.out.later HB3.out hB hS
  have c3 : w3.cell? ⟨b, p + 38, none⟩ = some (.slice sa O.S.length sc) := HA3.out.sl
  have HC3 : Hid (Calls Yba.prog 15 #[.agg #[], v3, .int .u16 ((O.S.length : Int) % 65536)] w3.drew (App base w3.drew ((((X ++ [O.K]) ++ be 8 O.V) ++ (O.Hs ++ (be 8 O.BV ++ (be 8 O.PV ++ (be 8 O.BH ++ [if O.Vt then 1 else 0]))))) ++ be 2 O.S.length))) := by
    show Calls _ _ _ _ _
    rw [← be2_mod O.S.length]
    exact u16_any base w3.drew v3 _ ((O.S.length : Int) % 65536) (by omega) hO3.drew (by simp only [List.length_append, List.length_cons, List.length_nil, be_len, HK.out.hs]; omega)
  clear hO3 hb3 HC2 HB2 HA2
  go_wp2_with fail
  go_region_held3 (fun w' => w'.cell? ⟨b, p + 38, none⟩ = some (.slice sa O.S.length sc)) (first | exact c3 | exact keepC c3 hB hb4)
    (first | (go_at_call 15; refine HC3.out.mono ?_; rintro e w4 ⟨v4, rfl, hO4, hb4⟩))
  rename_i hHeld
  clear hHeld
  have HB4 : Hid (Below base w w4) := HB3.out.drew.trans hb4
  obtain ⟨Y, hY⟩ : ∃ Y, Y = (((X ++ [O.K]) ++ be 8 O.V) ++ (O.Hs ++ (be 8 O.BV ++ (be 8 O.PV ++ (be 8 O.BH ++ [if O.Vt then 1 else 0]))))) ++ be 2 O.S.length := ⟨_, rfl⟩
  have HY : Hid (Y.length = X.length + 68) := by
    show _ = _
    rw [hY]
    simp only [List.length_append, List.length_cons, List.length_nil, be_len, HK.out.hs]
  have HT2 : Hid (T = Y ++ encSigs O.S) := by
    show _ = _
    rw [HT.out, hY]
    simp only [List.append_assoc]
  have h0 : Ci base w w4 v4 Y O.S 0 := ⟨Nat.zero_le _, by rw [hY]; simpa [encSigs] using hO4, HB4.out⟩
  have c4 : w4.cell? ⟨b, p + 38, none⟩ = some (.slice sa O.S.length sc) := keepC c3 hB hb4
  clear hO4 hb4 HC3 HB3 HA3 c3 hY HT HB4
  go_wp2_with fail
  go_loopw [0, 39] (fun v k wr => ∃ j : Nat, k = .int .i64 j ∧ Ci base w wr v Y O.S j) (fun _ k _ => O.S.length - (intOf k).toNat)
  case atStart => exact ⟨0, rfl, h0⟩
  case round =>
    clear h0 c4
    obtain ⟨w5, ew⟩ : ∃ x, x = wr := ⟨_, rfl⟩
    subst ew
    obtain ⟨j, rfl, hC⟩ := hrel
    have HCi : Hid (Ci base w w5 u0 Y O.S j) := hC
    have hj := hC.le
    have HA5 : Hid (CtAt w5 b p O sa sb so sc) := HA.out.later hC.below hB hS
    have c5 := HA5.out.sl
    clear hC
    by_cases hlt : j < O.S.length
    · have hlt' : (j : Int) < (O.S.length : Int) := by omega
      obtain ⟨s, hs⟩ : ∃ s, O.S[j]? = some s := ⟨O.S[j], by simp [hlt]⟩
      have HSj : Hid (O.S[j]? = some s) := hs
      have hsa := HA5.out.sa (by omega)
      have HCs : Hid (Calls Yba.prog 16 #[u0, .pointer (some ⟨sb, so + j * 65, none⟩)] w5 (App base w5 ((Y ++ encSigs (O.S.take j)) ++ (be 2 s.signer ++ s.sig)))) :=
        sig_any base w5 u0 _ sb (so + j * 65) s (by rw [Nat.mul_comm]; exact HA5.out.sg j s hs) ((HK.out.s s (List.mem_of_getElem? hs)).1) (hS (by omega)) HCi.out.ow (by rw [List.length_append, len_take (fun s hs => (HK.out.s s hs).1) hj, HY.out]; omega)
      subst hsa
      clear hs
      go_wp2_with fail
      refine HCs.out.mono ?_
      rintro e w6 ⟨v6, rfl, hO6, hb6⟩
      have HN : Hid (Ci base w w6 v6 Y O.S (j + 1)) := ⟨by omega, by rw [take_next HSj.out, ← List.append_assoc]; exact hO6, HCi.out.below.trans hb6⟩
      clear hO6 hb6
      go_wp2_with fail
      go_roundw
      case rel => exact ⟨j + 1, by go_num, HN.out⟩
      case measure => simp [intOf]; omega
    · have hlt' : ¬ (j : Int) < (O.S.length : Int) := by omega
      go_wp2_with fail
      go_ret
      refine ⟨u0, rfl, ?_, HCi.out.below⟩
      have e : O.S.take j = O.S := List.take_of_length_le (by omega)
      have := HCi.out.ow
      rw [e] at this
      rw [HT2.out]
      exact this

end Go.Proofs.Ybulkekq
