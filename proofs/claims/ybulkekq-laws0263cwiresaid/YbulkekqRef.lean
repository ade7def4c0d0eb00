/-
  appendRef.
-/
import Derived.Test.YbulkekqOf
namespace Go.Proofs.Ybulkekq
open Go.RowKit
open Pk

theorem hid_len {X Y : List Int} {n k : Nat} (h : X.length + n ≤ 1000000) (hY : Y.length + k ≤ n) : (X ++ Y).length + k ≤ 1000000 := by
  rw [List.length_append]; omega

set_option maxHeartbeats 1600000 in
theorem ref_any (base : Nat) (w : World) (v : Value) (X : List Int) (b o : Nat) (Hs : List Int) (BV PV BH : Int) (Vt : Bool) (hBV : 0 ≤ BV ∧ BV < 18446744073709551616) (hPV : 0 ≤ PV ∧ PV < 18446744073709551616) (hBH : 0 ≤ BH ∧ BH < 18446744073709551616)
    (h0 : By w b o Hs) (hl : Hs.length = 32) (h1 : w.cell? ⟨b, o + 32, none⟩ = some (.int .u64 BV)) (h2 : w.cell? ⟨b, o + 33, none⟩ = some (.int .u64 PV)) (h3 : w.cell? ⟨b, o + 34, none⟩ = some (.int .u64 BH)) (h4 : w.cell? ⟨b, o + 35, none⟩ = some (.bool Vt))
    (hB : b < base) (hO : Ow base w v X) (hb : X.length + 57 ≤ 1000000) :
    Calls Yba.prog 14 #[v, .pointer (some ⟨b, o, none⟩)] w (App base w (X ++ (Hs ++ (be 8 BV ++ (be 8 PV ++ (be 8 BH ++ [if Vt then 1 else 0])))))) := by
  have HO : Hid (Ow base w v X) := hO
  have HSrc : Hid (∀ j u, (Hs.map (Value.int .u8))[j]? = some u → w.cell? ((⟨b, o, none⟩ : Addr).add j) = some u) := h0.src
  have Hl : Hid (Hs.length = 32) := hl
  have HL : Hid (X.length + 57 ≤ 1000000) := hb
  clear hO h0
  obtain ⟨T, hT⟩ : ∃ T, T = X ++ (Hs ++ (be 8 BV ++ (be 8 PV ++ (be 8 BH ++ [if Vt then 1 else 0])))) := ⟨_, rfl⟩
  rw [← hT]
  have HT : Hid (T = X ++ (Hs ++ (be 8 BV ++ (be 8 PV ++ (be 8 BH ++ [if Vt then 1 else 0]))))) := hT
  clear hT
  go_enter Yba.func14, Yba.ntmps14
  go_wp2_with (at_builtin; refine wpList_app (by rfl) (.tmp 5) (.tmp 9) (by rfl) base v X Hs (by rfl) HO.out ⟨b, o, none⟩ 32 32 (by rfl) Hl.out HSrc.out (by omega) ?_; intro v1 w1 hO1 hb1)
  have c1 := cell_below hb1 hB h1
  have c2 := cell_below hb1 hB h2
  have c3 := cell_below hb1 hB h3
  have c4 := cell_below hb1 hB h4
  have HB1 : Hid (Below base w w1) := hb1
  have HC1 : Hid (Calls Yba.prog 13 #[.agg #[], v1, .int .u64 BV] w1.drew (App base w1.drew ((X ++ Hs) ++ be 8 BV))) := u64_any base w1.drew v1 _ BV hBV hO1.drew (by rw [List.length_append, hl]; omega)
  clear HO HSrc hO1 hb1 h1 h2 h3 h4
  go_wp2_with fail
  go_region_held3 (fun w' => w'.cell? ⟨b, o + 32, none⟩ = some (.int .u64 BV)) (first | exact c1 | exact keepC c1 hB hb2)
    (first | (go_at_call 13; refine HC1.out.mono ?_; rintro e w2 ⟨v2, rfl, hO2, hb2⟩))
  rename_i hHeld
  clear hHeld
  have d2 := keepC c2 hB hb2
  have d3 := keepC c3 hB hb2
  have d4 := keepC c4 hB hb2
  have HB2 : Hid (Below base w w2) := HB1.out.drew.trans hb2
  have HC2 : Hid (Calls Yba.prog 13 #[.agg #[], v2, .int .u64 PV] w2.drew (App base w2.drew (((X ++ Hs) ++ be 8 BV) ++ be 8 PV))) := u64_any base w2.drew v2 _ PV hPV hO2.drew (by simp only [List.length_append, hl, be_len]; omega)
  clear c1 c2 c3 c4 HC1 hO2 hb2 HB1
  go_wp2_with fail
  go_region_held3 (fun w' => w'.cell? ⟨b, o + 33, none⟩ = some (.int .u64 PV)) (first | exact d2 | exact keepC d2 hB hb3)
    (first | (go_at_call 13; refine HC2.out.mono ?_; rintro e w3 ⟨v3, rfl, hO3, hb3⟩))
  rename_i hHeld
  clear hHeld
  have e3 := keepC d3 hB hb3
  have e4 := keepC d4 hB hb3
  have HB3 : Hid (Below base w w3) := HB2.out.drew.trans hb3
  have HC3 : Hid (Calls Yba.prog 13 #[.agg #[], v3, .int .u64 BH] w3.drew (App base w3.drew ((((X ++ Hs) ++ be 8 BV) ++ be 8 PV) ++ be 8 BH))) := u64_any base w3.drew v3 _ BH hBH hO3.drew (by simp only [List.length_append, hl, be_len]; omega)
  clear d2 d3 d4 HC2 hO3 hb3 HB2
  go_wp2_with fail
  go_region_held3 (fun w' => w'.cell? ⟨b, o + 34, none⟩ = some (.int .u64 BH)) (first | exact e3 | exact keepC e3 hB hb4)
    (first | (go_at_call 13; refine HC3.out.mono ?_; rintro e w4 ⟨v4, rfl, hO4, hb4⟩))
  rename_i hHeld
  clear hHeld
  have g4 := keepC e4 hB hb4
  have HB4 : Hid (Below base w w4) := HB3.out.drew.trans hb4
  have HC4 : Hid (Calls Yba.prog 17 #[v4, .bool Vt] w4 (App base w4 (((((X ++ Hs) ++ be 8 BV) ++ be 8 PV) ++ be 8 BH) ++ [if Vt then 1 else 0]))) := bool_any base w4 v4 _ Vt hO4 (by simp only [List.length_append, hl, be_len]; omega)
  clear e3 e4 HC3 hO4 hb4 HB3
  go_wp2_with fail
  refine HC4.out.mono ?_
  rintro e w5 ⟨v5, rfl, hO5, hb5⟩
  go_wp2_with fail
  go_ret
  exact ⟨v5, rfl, by rw [HT.out]; simpa only [List.append_assoc] using hO5, HB4.out.trans hb5⟩

end Go.Proofs.Ybulkekq
