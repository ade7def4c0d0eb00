/-
  An offer in memory; appendSignature, appendCheckpointRef, appendRef.
-/
import Derived.Test.YbulkekqBe
import Derived.Deep.MidRow
namespace Go.Proofs.Ybulkekq
open Go.RowKit
open Pk

/-- The bytes Y lie at ⟨b, o⟩. -/
def By (w : World) (b o : Nat) (Y : List Int) : Prop := w.rangeAt b o (Y.map (Value.int .u8))

/-- A signature at ⟨b, o⟩. -/
structure SgAt (w : World) (b o : Nat) (s : SigD) : Prop where
  signer : w.cell? ⟨b, o, none⟩ = some (.int .i64 s.signer)
  sig : By w b (o + 1) s.sig

/-- An offer at ⟨b, o⟩, its signatures at ⟨sb, so⟩. -/
structure OfAt (w : World) (b o : Nat) (O : OfD) (sa : Option Addr) (sb so sc : Nat) : Prop where
  h : w.cell? ⟨b, o, none⟩ = some (.int .u64 O.H)
  d : By w b (o + 1) O.D
  k : w.cell? ⟨b, o + 33, none⟩ = some (.int .u8 O.K)
  v : w.cell? ⟨b, o + 34, none⟩ = some (.int .u64 O.V)
  hs : By w b (o + 35) O.Hs
  bv : w.cell? ⟨b, o + 67, none⟩ = some (.int .u64 O.BV)
  pv : w.cell? ⟨b, o + 68, none⟩ = some (.int .u64 O.PV)
  bh : w.cell? ⟨b, o + 69, none⟩ = some (.int .u64 O.BH)
  vt : w.cell? ⟨b, o + 70, none⟩ = some (.bool O.Vt)
  sl : w.cell? ⟨b, o + 71, none⟩ = some (.slice sa O.S.length sc)
  sa : 0 < O.S.length → sa = some ⟨sb, so, none⟩
  sg : ∀ j s, O.S[j]? = some s → SgAt w sb (so + 65 * j) s

theorem By.later {w w' : World} {b o B : Nat} {Y : List Int} (h : By w b o Y) (hb : Below B w w') (hB : b < B) : By w' b o Y := fun j v hv => by
  rw [World.cell?_of_block (w := w) (hb.block b hB)]
  exact h j v hv

theorem cell_below {w w' : World} {B : Nat} {a : Addr} {v : Value} (hb : Below B w w') (hB : a.block < B) (h : w.cell? a = some v) : w'.cell? a = some v := by
  rw [World.cell?_of_block (w := w) (hb.block _ hB)]
  exact h

theorem SgAt.later {w w' : World} {b o B : Nat} {s : SigD} (h : SgAt w b o s) (hb : Below B w w') (hB : b < B) : SgAt w' b o s :=
  ⟨cell_below hb hB h.signer, h.sig.later hb hB⟩

theorem OfAt.later {w w' : World} {b o B : Nat} {O : OfD} {sa : Option Addr} {sb so sc : Nat} (h : OfAt w b o O sa sb so sc) (hb : Below B w w') (hB : b < B) (hS : 0 < O.S.length → sb < B) : OfAt w' b o O sa sb so sc :=
  ⟨cell_below hb hB h.h, h.d.later hb hB, cell_below hb hB h.k, cell_below hb hB h.v, h.hs.later hb hB, cell_below hb hB h.bv, cell_below hb hB h.pv, cell_below hb hB h.bh, cell_below hb hB h.vt, cell_below hb hB h.sl, h.sa,
    fun j s hs => (h.sg j s hs).later hb (hS (by have := (List.getElem?_eq_some_iff.1 hs).1; omega))⟩

theorem add_at (b o j : Nat) : (⟨b, o, none⟩ : Addr).add j = ⟨b, o + j, none⟩ := by unfold Addr.add; split <;> simp_all

theorem By.src {w : World} {b o : Nat} {Y : List Int} (h : By w b o Y) : ∀ j u, (Y.map (Value.int .u8))[j]? = some u → w.cell? ((⟨b, o, none⟩ : Addr).add j) = some u := fun j u hu => by
  rw [add_at]
  exact h j u hu

theorem be2_mod (z : Int) : be 2 (z % 65536) = be 2 z := by
  simp only [be]
  congr 1
  · show z % 65536 / 2 ^ 8 % 256 = z / 2 ^ 8 % 256; omega
  · congr 1
    show z % 65536 / 2 ^ 0 % 256 = z / 2 ^ 0 % 256; omega

theorem Ow.drew {base : Nat} {w : World} {v : Value} {X : List Int} (h : Ow base w v X) : Ow base w.drew v X := h.later (Below.refl _ _).drew

theorem keepC {base : Nat} {w w' : World} {a : Addr} {v : Value} (h : w.cell? a = some v) (hB : a.block < base) (hb : Below base w.drew w') : w'.cell? a = some v :=
  cell_below hb hB (show w.drew.cell? a = some v from h)

set_option maxHeartbeats 800000 in
theorem sig_any (base : Nat) (w : World) (v : Value) (X : List Int) (b o : Nat) (s : SigD) (hs : SgAt w b o s) (hl : s.sig.length = 64) (hB : b < base) (hO : Ow base w v X) (hb : X.length + 66 ≤ 1000000) :
    Calls Yba.prog 16 #[v, .pointer (some ⟨b, o, none⟩)] w (App base w (X ++ (be 2 s.signer ++ s.sig))) := by
  have c0 := hs.signer
  have HS : Hid (SgAt w b o s) := hs
  have HC : Hid (Calls Yba.prog 15 #[.agg #[], v, .int .u16 (s.signer % 65536)] w.drew (App base w.drew (X ++ be 2 s.signer))) := by
    show Calls _ _ _ _ _
    rw [← be2_mod]
    exact u16_any base w.drew v X _ (by omega) hO.drew (by omega)
  clear hs hO
  go_enter Yba.func16, Yba.ntmps16
  go_wp2_with fail
  go_region_held3 (fun w' => w'.cell? ⟨b, o, none⟩ = some (.int .i64 s.signer)) (first | exact c0 | exact keepC c0 hB hb1)
    (first | (go_at_call 15; refine HC.out.mono ?_; rintro e w1 ⟨v1, rfl, hO1, hb1⟩))
  rename_i hHeld
  clear hHeld
  have hsrc : ∀ j u, (s.sig.map (Value.int .u8))[j]? = some u → w1.cell? ((⟨b, o + 1, none⟩ : Addr).add j) = some u := (HS.out.sig.later ((Below.refl _ _).drew.trans hb1) hB).src
  have HSrc : Hid (∀ j u, (s.sig.map (Value.int .u8))[j]? = some u → w1.cell? ((⟨b, o + 1, none⟩ : Addr).add j) = some u) := hsrc
  have HO1 : Hid (Ow base w1 v1 (X ++ be 2 s.signer)) := hO1
  have HL : Hid ((X ++ be 2 s.signer).length + 64 ≤ 1000000) := by show _ ≤ _; simp only [List.length_append, be_len]; omega
  have HB1 : Hid (Below base w w1) := (Below.refl _ _).drew.trans hb1
  have Hl : Hid (s.sig.length = 64) := hl
  clear hsrc hO1 hb1 HC c0 hl HS
  go_wp2_with (at_builtin; refine wpList_app (by rfl) (.tmp 13) (.tmp 17) (by rfl) base v1 (X ++ be 2 s.signer) s.sig (by rfl) HO1.out ⟨b, o + 1, none⟩ 64 64 (by rfl) Hl.out HSrc.out HL.out ?_; intro v' w' hO' hb')
  go_ret
  exact ⟨_, rfl, by rw [← List.append_assoc]; exact hO', HB1.out.trans hb'⟩

/-- A checkpoint's reference at ⟨b, o⟩. -/
theorem ck_any (base : Nat) (w : World) (v : Value) (X : List Int) (b o : Nat) (H : Int) (D : List Int) (hH : 0 ≤ H ∧ H < 18446744073709551616) (h0 : w.cell? ⟨b, o, none⟩ = some (.int .u64 H)) (h1 : By w b (o + 1) D) (hl : D.length = 32) (hB : b < base) (hO : Ow base w v X) (hb : X.length + 40 ≤ 1000000) :
    Calls Yba.prog 11 #[v, .pointer (some ⟨b, o, none⟩)] w (App base w (X ++ (be 8 H ++ D))) := by
  have HC : Hid (Calls Yba.prog 13 #[.agg #[], v, .int .u64 H] w.drew (App base w.drew (X ++ be 8 H))) := u64_any base w.drew v X H hH hO.drew (by omega)
  have HS : Hid (By w b (o + 1) D) := h1
  clear h1 hO
  go_enter Yba.func11, Yba.ntmps11
  go_wp2_with fail
  go_region_held3 (fun w' => w'.cell? ⟨b, o, none⟩ = some (.int .u64 H)) (first | exact h0 | exact keepC h0 hB hb1)
    (first | (go_at_call 13; refine HC.out.mono ?_; rintro e w1 ⟨v1, rfl, hO1, hb1⟩))
  rename_i hHeld
  clear hHeld
  have HSrc : Hid (∀ j u, (D.map (Value.int .u8))[j]? = some u → w1.cell? ((⟨b, o + 1, none⟩ : Addr).add j) = some u) := (HS.out.later ((Below.refl _ _).drew.trans hb1) hB).src
  have HO1 : Hid (Ow base w1 v1 (X ++ be 8 H)) := hO1
  have HL : Hid ((X ++ be 8 H).length + 32 ≤ 1000000) := by show _ ≤ _; simp only [List.length_append, be_len]; omega
  have HB1 : Hid (Below base w w1) := (Below.refl _ _).drew.trans hb1
  have Hl : Hid (D.length = 32) := hl
  clear hO1 hb1 HC h0 hl HS
  go_wp2_with (at_builtin; refine wpList_app (by rfl) (.tmp 12) (.tmp 16) (by rfl) base v1 (X ++ be 8 H) D (by rfl) HO1.out ⟨b, o + 1, none⟩ 32 32 (by rfl) Hl.out HSrc.out HL.out ?_; intro v' w' hO' hb')
  go_ret
  exact ⟨_, rfl, by rw [← List.append_assoc]; exact hO', HB1.out.trans hb'⟩

end Go.Proofs.Ybulkekq
