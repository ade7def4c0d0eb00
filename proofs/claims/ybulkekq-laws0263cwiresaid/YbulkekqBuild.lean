/-
  zzs0263cbuild.
-/
import Derived.Test.YbulkekqSk
import Derived.Deep.Cut
namespace Go.Proofs.Ybulkekq
open Go.RowKit
open Pk

theorem Yba.size31 : (Yba.prog.info? 31).map (·.size) = some 32 := by kernel_rfl
theorem Yba.size43 : (Yba.prog.info? 43).map (·.size) = some 32 := by kernel_rfl
theorem Yba.size35 : (Yba.prog.info? 35).map (·.size) = some 64 := by kernel_rfl
theorem Yba.bytes54 : (Yba.prog.info? 54).map (fun i => (i.zero.isSome, i.size, i.bytes)) = some (true, 72, 144) := by kernel_rfl
theorem Yba.bytes55 : (Yba.prog.info? 55).map (fun i => (i.zero.isSome, i.size, i.bytes)) = some (true, 65, 72) := by kernel_rfl

theorem make_any {t e : TypeId} {sz by_ : Nat} (hu : Yba.prog.underlying t = some (.slice e)) (hi : (Yba.prog.info? e).map (fun i => (i.zero.isSome, i.size, i.bytes)) = some (true, sz, by_)) (hb : by_ ≤ 1000) (n : Nat) (hn : n ≤ 100000) :
    ∃ A : Array Value, A.size = n * sz ∧ ∀ w, (Instr.makeSlice t (.int .i64 n) (.int .i64 n)).run Yba.prog w = .ok (.slice (some ⟨w.heap.size, 0, none⟩) n n) (w.alloc (.cells A e)) := by
  obtain ⟨i, h1, h2⟩ := Option.map_eq_some_iff.1 hi
  simp only [Prod.mk.injEq] at h2
  obtain ⟨hz, hs, hby⟩ := h2
  obtain ⟨z, hz⟩ := Option.isSome_iff_exists.1 hz
  have hm : (i.bytes : Int) * (n : Int) ≤ 281474976710656 := by
    rw [hby]
    have : by_ * n ≤ 1000 * 100000 := Nat.mul_le_mul hb hn
    have h3 : ((by_ * n : Nat) : Int) ≤ 100000000 := by omega
    rw [Int.natCast_mul] at h3
    omega
  refine ⟨madeCells z.cells (n * sz), size_madeCells _ _, fun w => ?_⟩
  have h := run_make (P := Yba.prog) w t e i z hu h1 hz .i64 .i64 n n (by omega) (by omega) hm (by omega)
  rw [hs] at h
  simpa using h

/-- What it leaves. -/
def Built (w : World) (n : Nat) (O : Nat → OfD) (e : Ending) (w' : World) : Prop := ∃ F SB' g, e = .returned (.pointer (some ⟨F + 1, 0, none⟩)) ∧ Bk w w' F n O SB' n g

set_option maxHeartbeats 800000 in
set_option maxRecDepth 100000 in
theorem build_any (a : Option Addr) (b o n c : Nat) (O : Nat → OfD) (SA : Nat → Option Addr) (SB SO SC : Nat → Nat) (w : World) (hI : Inp w a b o n O SA SB SO SC) (hn : n ≤ 256) (ht : tot O n ≤ 1024) :
    Calls Yba.prog 6 #[.slice a n c] w (Built w n O) := by
  have HI : Hid (Inp w a b o n O SA SB SO SC) := hI
  clear hI
  obtain ⟨A0, hA0, hmk⟩ := make_any Yba.underlying39 Yba.bytes54 (by decide) n (by omega)
  go_enter Yba.func6, Yba.ntmps6
  go_wp2_with fail
  obtain ⟨g0, h0⟩ := Bk.start w n O A0 hA0
  have H0 : Hid (Bk w ((w.alloc (.cells A0 54)).alloc (.cells #[.slice (some ⟨w.heap.size, 0, none⟩) n n] 41)) w.heap.size n O (fun _ => 0) 0 g0) := h0
  clear h0 hmk hA0
  generalize (w.alloc (.cells A0 54)).alloc (.cells #[.slice (some ⟨w.heap.size, 0, none⟩) n n] 41) = w1 at *
  obtain ⟨F, hF⟩ : ∃ F, w.heap.size = F := ⟨_, rfl⟩
  rw [hF] at H0 ⊢
  clear hF
  go_loopw [16] (fun i wr => ∃ (k : Nat) (SB' : Nat → Nat) (g : Nat → Value), i = .int .i64 k ∧ k ≤ n ∧ Bk w wr F n O SB' k g) (fun i _ => n - (intOf i).toNat)
  case atStart => exact ⟨0, _, _, rfl, Nat.zero_le _, H0.out⟩
  case round =>
    clear H0
    obtain ⟨w2, ew⟩ : ∃ x, x = wr := ⟨_, rfl⟩
    subst ew
    obtain ⟨k, SB', g, rfl, hkn, hB⟩ := hrel
    have HB : Hid (Bk w w2 F n O SB' k g) := hB
    have m2 := hB.m
    clear hB
    by_cases hk : k < n
    · have hk' : (k : Int) < (n : Int) := by omega
      have HOk : Hid (∀ i, i < k → OfOk (O i)) := fun i hi => HI.out.ok i (by omega)
      obtain rfl := HI.out.addr (by omega)
      have cX := (HB.out.inp HI.out hk).h
      have sX := HB.out.cell hk 0 (by decide)
      have fX := HB.out.frozen (k * 72)
      have sX' : w2.cell? ⟨F, k * 72, none⟩ = some (g 0) := sX
      clear sX
      go_upto_region 8 with fail
      obtain ⟨ga1, hg1⟩ : ∃ g' : Nat → Value, g' = fun x => if x = 0 then .int .u64 (O k).H else g x := ⟨_, rfl⟩
      have HG1 : Hid (ga1 = fun x => if x = 0 then .int .u64 (O k).H else g x) := hg1
      have HA1 : Hid (Bk w (w2.setCell ⟨F, k * 72, none⟩ (.int .u64 (O k).H)) F n O SB' k ga1) := by
        show Bk _ _ _ _ _ _ _ _
        rw [hg1]
        exact HB.out.set HOk.out hk 0 _
      clear hg1 cX sX' fX HB
      generalize w2.setCell ⟨F, k * 72, none⟩ (.int .u64 (O k).H) = wA1 at HA1 ⊢
      obtain ⟨cl2, hcl2⟩ : ∃ l : List Value, l = ((O k).D).map (Value.int .u8) := ⟨_, rfl⟩
      have HL2 : Hid (cl2 = ((O k).D).map (Value.int .u8)) := hcl2
      have hlen2 : cl2.length = 32 := by rw [hcl2, List.length_map]; exact (HI.out.ok k hk).d
      have HR : Hid (wA1.rangeAt b (o + k * 72 + 1) cl2) := by
        show World.rangeAt _ _ _ _
        rw [hcl2]; exact (HA1.out.inp HI.out hk).d
      have HTh : Hid (wA1.there F (k * 72 + 1) cl2.toArray.size) := by
        show World.there _ _ _ _
        rw [List.size_toArray, hlen2]; exact HA1.out.there hk 1 32 (by decide)
      have HS1 : Hid ((Yba.prog.info? 31).map (·.size) = some cl2.length) := by show _ = _; rw [Yba.size31, hlen2]
      have HS2 : Hid ((Yba.prog.info? 43).map (·.size) = some cl2.toArray.size) := by show _ = _; rw [Yba.size43, List.size_toArray, hlen2]
      have HOne : Hid ((cl2.toArray.all fun v => v.oneCell') = true) := all_oneCell_toArray (by rw [hcl2]; exact bytes_one _)
      have Hlen2 : Hid (cl2.length = 32) := hlen2
      clear hcl2 hlen2
      go_upto_region 9 with (first | (refine wpList_load_mid (by rfl) 31 (.tmp 39) (by rfl) b (o + k * 72 + 1) (by rfl) cl2 _ HR.out Yba.underlying31 (by rfl) HS1.out ?_) | (refine wpList_store_mid (by rfl) 43 (.tmp 43) (.tmp 40) (by rfl) F (k * 72 + 1) cl2.toArray (by rfl) (by rfl) HTh.out HS2.out HOne.out ?_))
      obtain ⟨ga2, hg2⟩ : ∃ g' : Nat → Value, g' = fun x => if 1 ≤ x ∧ x < 1 + cl2.length then cl2.getD (x - 1) (.bool false) else ga1 x := ⟨_, rfl⟩
      have HG2 : Hid (ga2 = fun x => if 1 ≤ x ∧ x < 1 + cl2.length then cl2.getD (x - 1) (.bool false) else ga1 x) := hg2
      have HA2 : Hid (Bk w (wA1.setCells F (k * 72 + 1) cl2.toArray.toList) F n O SB' k ga2) := by
        show Bk _ _ _ _ _ _ _ _
        rw [hg2]
        exact HA1.out.sets HOk.out hk 1 _
      clear hg2 HR HTh HS1 HS2 HOne HA1
      generalize wA1.setCells F (k * 72 + 1) cl2.toArray.toList = wA2 at HA2 ⊢
      have cX := (HA2.out.inp HI.out hk).k
      have sX := HA2.out.cell hk 33 (by decide)
      have fX := HA2.out.frozen (k * 72 + 33)
      have sX' : wA2.cell? ⟨F, k * 72 + 33, none⟩ = some (ga2 33) := sX
      clear sX
      go_upto_region 10 with fail
      obtain ⟨ga3, hg3⟩ : ∃ g' : Nat → Value, g' = fun x => if x = 33 then .int .u8 (O k).K else ga2 x := ⟨_, rfl⟩
      have HG3 : Hid (ga3 = fun x => if x = 33 then .int .u8 (O k).K else ga2 x) := hg3
      have HA3 : Hid (Bk w (wA2.setCell ⟨F, k * 72 + 33, none⟩ (.int .u8 (O k).K)) F n O SB' k ga3) := by
        show Bk _ _ _ _ _ _ _ _
        rw [hg3]
        exact HA2.out.set HOk.out hk 33 _
      clear hg3 cX sX' fX HA2
      generalize wA2.setCell ⟨F, k * 72 + 33, none⟩ (.int .u8 (O k).K) = wA3 at HA3 ⊢
      have cX := (HA3.out.inp HI.out hk).v
      have sX := HA3.out.cell hk 34 (by decide)
      have fX := HA3.out.frozen (k * 72 + 33 + 1)
      have sX' : wA3.cell? ⟨F, k * 72 + 33 + 1, none⟩ = some (ga3 34) := sX
      clear sX
      go_upto_region 11 with fail
      obtain ⟨ga4, hg4⟩ : ∃ g' : Nat → Value, g' = fun x => if x = 34 then .int .u64 (O k).V else ga3 x := ⟨_, rfl⟩
      have HG4 : Hid (ga4 = fun x => if x = 34 then .int .u64 (O k).V else ga3 x) := hg4
      have HA4 : Hid (Bk w (wA3.setCell ⟨F, k * 72 + 33 + 1, none⟩ (.int .u64 (O k).V)) F n O SB' k ga4) := by
        show Bk _ _ _ _ _ _ _ _
        rw [hg4]
        exact HA3.out.set HOk.out hk 34 _
      clear hg4 cX sX' fX HA3
      generalize wA3.setCell ⟨F, k * 72 + 33 + 1, none⟩ (.int .u64 (O k).V) = wA4 at HA4 ⊢
      obtain ⟨cl5, hcl5⟩ : ∃ l : List Value, l = ((O k).Hs).map (Value.int .u8) := ⟨_, rfl⟩
      have HL5 : Hid (cl5 = ((O k).Hs).map (Value.int .u8)) := hcl5
      have hlen5 : cl5.length = 32 := by rw [hcl5, List.length_map]; exact (HI.out.ok k hk).hs
      have HR : Hid (wA4.rangeAt b (o + k * 72 + 35) cl5) := by
        show World.rangeAt _ _ _ _
        rw [hcl5]; exact (HA4.out.inp HI.out hk).hs
      have HTh : Hid (wA4.there F (k * 72 + 33 + 2) cl5.toArray.size) := by
        show World.there _ _ _ _
        rw [List.size_toArray, hlen5]; exact HA4.out.there hk 35 32 (by decide)
      have HS1 : Hid ((Yba.prog.info? 31).map (·.size) = some cl5.length) := by show _ = _; rw [Yba.size31, hlen5]
      have HS2 : Hid ((Yba.prog.info? 43).map (·.size) = some cl5.toArray.size) := by show _ = _; rw [Yba.size43, List.size_toArray, hlen5]
      have HOne : Hid ((cl5.toArray.all fun v => v.oneCell') = true) := all_oneCell_toArray (by rw [hcl5]; exact bytes_one _)
      have Hlen5 : Hid (cl5.length = 32) := hlen5
      clear hcl5 hlen5
      go_upto_region 12 with (first | (refine wpList_load_mid (by rfl) 31 (.tmp 63) (by rfl) b (o + k * 72 + 35) (by rfl) cl5 _ HR.out Yba.underlying31 (by rfl) HS1.out ?_) | (refine wpList_store_mid (by rfl) 43 (.tmp 68) (.tmp 64) (by rfl) F (k * 72 + 33 + 2) cl5.toArray (by rfl) (by rfl) HTh.out HS2.out HOne.out ?_))
      obtain ⟨ga5, hg5⟩ : ∃ g' : Nat → Value, g' = fun x => if 35 ≤ x ∧ x < 35 + cl5.length then cl5.getD (x - 35) (.bool false) else ga4 x := ⟨_, rfl⟩
      have HG5 : Hid (ga5 = fun x => if 35 ≤ x ∧ x < 35 + cl5.length then cl5.getD (x - 35) (.bool false) else ga4 x) := hg5
      have HA5 : Hid (Bk w (wA4.setCells F (k * 72 + 33 + 2) cl5.toArray.toList) F n O SB' k ga5) := by
        show Bk _ _ _ _ _ _ _ _
        rw [hg5]
        exact HA4.out.sets HOk.out hk 35 _
      clear hg5 HR HTh HS1 HS2 HOne HA4
      generalize wA4.setCells F (k * 72 + 33 + 2) cl5.toArray.toList = wA5 at HA5 ⊢
      have cX := (HA5.out.inp HI.out hk).bv
      have sX := HA5.out.cell hk 67 (by decide)
      have fX := HA5.out.frozen (k * 72 + 33 + 2 + 32)
      have sX' : wA5.cell? ⟨F, k * 72 + 33 + 2 + 32, none⟩ = some (ga5 67) := sX
      clear sX
      go_upto_region 13 with fail
      obtain ⟨ga6, hg6⟩ : ∃ g' : Nat → Value, g' = fun x => if x = 67 then .int .u64 (O k).BV else ga5 x := ⟨_, rfl⟩
      have HG6 : Hid (ga6 = fun x => if x = 67 then .int .u64 (O k).BV else ga5 x) := hg6
      have HA6 : Hid (Bk w (wA5.setCell ⟨F, k * 72 + 33 + 2 + 32, none⟩ (.int .u64 (O k).BV)) F n O SB' k ga6) := by
        show Bk _ _ _ _ _ _ _ _
        rw [hg6]
        exact HA5.out.set HOk.out hk 67 _
      clear hg6 cX sX' fX HA5
      generalize wA5.setCell ⟨F, k * 72 + 33 + 2 + 32, none⟩ (.int .u64 (O k).BV) = wA6 at HA6 ⊢
      have cX := (HA6.out.inp HI.out hk).pv
      have sX := HA6.out.cell hk 68 (by decide)
      have fX := HA6.out.frozen (k * 72 + 33 + 2 + 33)
      have sX' : wA6.cell? ⟨F, k * 72 + 33 + 2 + 33, none⟩ = some (ga6 68) := sX
      clear sX
      go_upto_region 14 with fail
      obtain ⟨ga7, hg7⟩ : ∃ g' : Nat → Value, g' = fun x => if x = 68 then .int .u64 (O k).PV else ga6 x := ⟨_, rfl⟩
      have HG7 : Hid (ga7 = fun x => if x = 68 then .int .u64 (O k).PV else ga6 x) := hg7
      have HA7 : Hid (Bk w (wA6.setCell ⟨F, k * 72 + 33 + 2 + 33, none⟩ (.int .u64 (O k).PV)) F n O SB' k ga7) := by
        show Bk _ _ _ _ _ _ _ _
        rw [hg7]
        exact HA6.out.set HOk.out hk 68 _
      clear hg7 cX sX' fX HA6
      generalize wA6.setCell ⟨F, k * 72 + 33 + 2 + 33, none⟩ (.int .u64 (O k).PV) = wA7 at HA7 ⊢
      have cX := (HA7.out.inp HI.out hk).bh
      have sX := HA7.out.cell hk 69 (by decide)
      have fX := HA7.out.frozen (k * 72 + 33 + 2 + 34)
      have sX' : wA7.cell? ⟨F, k * 72 + 33 + 2 + 34, none⟩ = some (ga7 69) := sX
      clear sX
      go_upto_region 15 with fail
      obtain ⟨ga8, hg8⟩ : ∃ g' : Nat → Value, g' = fun x => if x = 69 then .int .u64 (O k).BH else ga7 x := ⟨_, rfl⟩
      have HG8 : Hid (ga8 = fun x => if x = 69 then .int .u64 (O k).BH else ga7 x) := hg8
      have HA8 : Hid (Bk w (wA7.setCell ⟨F, k * 72 + 33 + 2 + 34, none⟩ (.int .u64 (O k).BH)) F n O SB' k ga8) := by
        show Bk _ _ _ _ _ _ _ _
        rw [hg8]
        exact HA7.out.set HOk.out hk 69 _
      clear hg8 cX sX' fX HA7
      generalize wA7.setCell ⟨F, k * 72 + 33 + 2 + 34, none⟩ (.int .u64 (O k).BH) = wA8 at HA8 ⊢
      have cX := (HA8.out.inp HI.out hk).vt
      have sX := HA8.out.cell hk 70 (by decide)
      have fX := HA8.out.frozen (k * 72 + 33 + 2 + 35)
      have sX' : wA8.cell? ⟨F, k * 72 + 33 + 2 + 35, none⟩ = some (ga8 70) := sX
      clear sX
      go_upto_region 16 with fail
      obtain ⟨ga9, hg9⟩ : ∃ g' : Nat → Value, g' = fun x => if x = 70 then .bool (O k).Vt else ga8 x := ⟨_, rfl⟩
      have HG9 : Hid (ga9 = fun x => if x = 70 then .bool (O k).Vt else ga8 x) := hg9
      have HA9 : Hid (Bk w (wA8.setCell ⟨F, k * 72 + 33 + 2 + 35, none⟩ (.bool (O k).Vt)) F n O SB' k ga9) := by
        show Bk _ _ _ _ _ _ _ _
        rw [hg9]
        exact HA8.out.set HOk.out hk 70 _
      clear hg9 cX sX' fX HA8
      generalize wA8.setCell ⟨F, k * 72 + 33 + 2 + 35, none⟩ (.bool (O k).Vt) = wA9 at HA9 ⊢
      have HFl : Hid (Fl ga9 (O k)) := by
        show Fl _ _
        have e1 : ∀ x, ga1 x = if x = 0 then .int .u64 (O k).H else g x := fun x => congrFun HG1.out x
        have e2 : ∀ x, ga2 x = if 1 ≤ x ∧ x < 1 + cl2.length then cl2.getD (x - 1) (.bool false) else ga1 x := fun x => congrFun HG2.out x
        have l2 : cl2.length = 32 := Hlen2.out
        have e3 : ∀ x, ga3 x = if x = 33 then .int .u8 (O k).K else ga2 x := fun x => congrFun HG3.out x
        have e4 : ∀ x, ga4 x = if x = 34 then .int .u64 (O k).V else ga3 x := fun x => congrFun HG4.out x
        have e5 : ∀ x, ga5 x = if 35 ≤ x ∧ x < 35 + cl5.length then cl5.getD (x - 35) (.bool false) else ga4 x := fun x => congrFun HG5.out x
        have l5 : cl5.length = 32 := Hlen5.out
        have e6 : ∀ x, ga6 x = if x = 67 then .int .u64 (O k).BV else ga5 x := fun x => congrFun HG6.out x
        have e7 : ∀ x, ga7 x = if x = 68 then .int .u64 (O k).PV else ga6 x := fun x => congrFun HG7.out x
        have e8 : ∀ x, ga8 x = if x = 69 then .int .u64 (O k).BH else ga7 x := fun x => congrFun HG8.out x
        have e9 : ∀ x, ga9 x = if x = 70 then .bool (O k).Vt else ga8 x := fun x => congrFun HG9.out x
        refine ⟨?_, fun i v hv => ?_, ?_, ?_, fun i v hv => ?_, ?_, ?_, ?_, ?_⟩
        · rw [e9, if_neg (by omega), e8, if_neg (by omega), e7, if_neg (by omega), e6, if_neg (by omega), e5, if_neg (by omega), e4, if_neg (by omega), e3, if_neg (by omega), e2, if_neg (by omega), e1, if_pos rfl]
        · rw [← HL2.out] at hv
          have hi := (List.getElem?_eq_some_iff.1 hv).1
          rw [l2] at hi
          rw [e9, if_neg (by omega), e8, if_neg (by omega), e7, if_neg (by omega), e6, if_neg (by omega), e5, if_neg (by omega), e4, if_neg (by omega), e3, if_neg (by omega), e2, if_pos (by omega), Nat.add_sub_cancel_left]
          simp only [List.getD, hv, Option.getD_some]
        · rw [e9, if_neg (by omega), e8, if_neg (by omega), e7, if_neg (by omega), e6, if_neg (by omega), e5, if_neg (by omega), e4, if_neg (by omega), e3, if_pos rfl]
        · rw [e9, if_neg (by omega), e8, if_neg (by omega), e7, if_neg (by omega), e6, if_neg (by omega), e5, if_neg (by omega), e4, if_pos rfl]
        · rw [← HL5.out] at hv
          have hi := (List.getElem?_eq_some_iff.1 hv).1
          rw [l5] at hi
          rw [e9, if_neg (by omega), e8, if_neg (by omega), e7, if_neg (by omega), e6, if_neg (by omega), e5, if_pos (by omega), Nat.add_sub_cancel_left]
          simp only [List.getD, hv, Option.getD_some]
        · rw [e9, if_neg (by omega), e8, if_neg (by omega), e7, if_neg (by omega), e6, if_pos rfl]
        · rw [e9, if_neg (by omega), e8, if_neg (by omega), e7, if_pos rfl]
        · rw [e9, if_neg (by omega), e8, if_pos rfl]
        · rw [e9, if_pos rfl]
      clear HG1 HG2 HG3 HG4 HG5 HG6 HG7 HG8 HG9 HL2 HL5 Hlen2 Hlen5
      have HLk : Hid ((O k).S.length ≤ 1024) := by
        show _ ≤ _
        have h2 : tot O (k + 1) ≤ tot O n := tot_mono O (by omega)
        simp only [tot] at h2
        omega
      obtain ⟨A1, hA1, hmk1⟩ := make_any Yba.underlying50 Yba.bytes55 (by decide) (O k).S.length (by have := HLk.out; omega)
      have cS := (HA9.out.inp HI.out hk).sl
      have HS0 : Hid (Sk wA9 (wA9.alloc (.cells A1 55)) (O k).S 0) := Sk.start wA9 _ A1 hA1
      have HLt : Hid (b < wA9.heap.size) := by
        show _ < _
        have := (HI.out.lt hk).1
        have := HA9.out.below.size
        omega
      have hlt9 := HLt.out
      go_upto_region 17 with fail
      clear hmk1 hA1 cS hlt9
      generalize wA9.alloc (.cells A1 55) = wB at HS0 ⊢
      have cS := ((HA9.out.later HS0.out.below).inp HI.out hk).sl
      go_wp2_with fail
      clear cS
      go_loopw [116] (fun i wr => ∃ j : Nat, i = .int .i64 j ∧ j ≤ (O k).S.length ∧ Sk wA9 wr (O k).S j) (fun i _ => (O k).S.length - (intOf i).toNat)
      case atStart => exact ⟨0, rfl, Nat.zero_le _, HS0.out⟩
      case round =>
        clear HS0
        obtain ⟨w3, ew⟩ : ∃ x, x = wr := ⟨_, rfl⟩
        subst ew
        obtain ⟨j, rfl, hjn, hSk⟩ := hrel
        have HSk : Hid (Sk wA9 w3 (O k).S j) := hSk
        have HAi : Hid (OfAt w3 b (o + k * 72) (O k) (SA k) (SB k) (SO k) (SC k)) := (HA9.out.later hSk.below).inp HI.out hk
        have cS := HAi.out.sl
        clear hSk
        have hl9 : (O k).S.length ≤ 1024 := HLk.out
        by_cases hj : j < (O k).S.length
        · have hj' : (j : Int) < ((O k).S.length : Int) := by omega
          obtain ⟨s, hs⟩ : ∃ s, (O k).S[j]? = some s := ⟨(O k).S[j], by simp [hj]⟩
          have HSs : Hid ((O k).S[j]? = some s) := hs
          have hsa := HAi.out.sa (by omega)
          have hsg := HAi.out.sg j s hs
          rw [Nat.mul_comm 65 j] at hsg
          have cG := hsg.signer
          have HSig : Hid (By w3 (SB k) (SO k + j * 65 + 1) s.sig) := hsg.sig
          rw [hsa] at cS
          have hm : (j + 1) * 65 ≤ (O k).S.length * 65 := Nat.mul_le_mul_right _ hj
          obtain ⟨v0, sG⟩ := HSk.out.cell (x := j * 65) (by omega)
          have fG := HSk.out.frozen (j * 65)
          clear hs hsa hsg hm
          have HB3 : Hid (Below wA9.heap.size w3 (w3.setCell ⟨wA9.heap.size, j * 65, none⟩ (.int .i64 s.signer))) := by
            show Below _ _ _
            have h0 : Below wA9.heap.size w3 w3 := Below.refl _ _
            exact h0.setCell (Nat.le_refl _) _
          have HS9 : Hid (SB k < wA9.heap.size) := by
            show _ < _
            have := (HI.out.lt hk).2 (by omega)
            have := HA9.out.below.size
            omega
          have HAj : Hid (OfAt (w3.setCell ⟨wA9.heap.size, j * 65, none⟩ (.int .i64 s.signer)) b (o + k * 72) (O k) (SA k) (SB k) (SO k) (SC k)) := HAi.out.later HB3.out HLt.out (fun _ => HS9.out)
          have HNx : Hid (Sk wA9 ((w3.setCell ⟨wA9.heap.size, j * 65, none⟩ (.int .i64 s.signer)).setCells wA9.heap.size (j * 65 + 1) (s.sig.map (Value.int .u8))) (O k).S (j + 1)) := HSk.out.next HSs.out (fun x hx => ((HI.out.ok k hk).s x hx).1)
          obtain ⟨cl, hcl⟩ : ∃ l : List Value, l = s.sig.map (Value.int .u8) := ⟨_, rfl⟩
          have hlen : cl.length = 64 := by rw [hcl, List.length_map]; exact ((HI.out.ok k hk).s s (List.mem_of_getElem? HSs.out)).1
          have HTh : Hid ((w3.setCell ⟨wA9.heap.size, j * 65, none⟩ (.int .i64 s.signer)).there wA9.heap.size (j * 65 + 1) cl.toArray.size) := by
            show World.there _ _ _ _
            rw [show cl.toArray.size = 64 by rw [List.size_toArray, hlen]]
            exact HSk.out.there1 hj _
          rw [← hcl] at HNx
          have HR : Hid ((w3.setCell ⟨wA9.heap.size, j * 65, none⟩ (.int .i64 s.signer)).rangeAt (SB k) (SO k + j * 65 + 1) cl) := by
            show World.rangeAt _ _ _ _
            have h1 := (HAj.out.sg j s HSs.out).sig
            rw [Nat.mul_comm 65 j] at h1
            rw [hcl]; exact h1
          have HS1 : Hid ((Yba.prog.info? 35).map (·.size) = some cl.length) := by show _ = _; rw [Yba.size35, hlen]
          have HS2 : Hid ((Yba.prog.info? 35).map (·.size) = some cl.toArray.size) := by show _ = _; rw [Yba.size35, List.size_toArray, hlen]
          have HOne : Hid ((cl.toArray.all fun v => v.oneCell') = true) := all_oneCell_toArray (by rw [hcl]; exact bytes_one _)
          clear hcl hlen HSs HB3 HS9
          go_upto_region 21 with fail
          clear cS cG sG fG HSig HAi HSk
          have cS := HAj.out.sl
          rw [HAj.out.sa (by omega)] at cS
          clear HAj
          generalize w3.setCell ⟨wA9.heap.size, j * 65, none⟩ (.int .i64 s.signer) = w4 at *
          go_wp2_with (first | (refine wpList_load_mid (by rfl) 35 (.tmp 139) (by rfl) (SB k) (SO k + j * 65 + 1) (by rfl) cl _ HR.out Yba.underlying35 (by rfl) HS1.out ?_) | (refine wpList_store_mid (by rfl) 35 (.tmp 142) (.tmp 140) (by rfl) wA9.heap.size (j * 65 + 1) cl.toArray (by rfl) (by rfl) HTh.out HS2.out HOne.out ?_))
          go_roundw
          case rel => exact ⟨j + 1, by go_num, by omega, HNx.out⟩
          case measure => simp [intOf]; omega
        · have hj' : ¬ (j : Int) < ((O k).S.length : Int) := by omega
          obtain rfl : j = (O k).S.length := by omega
          have HB9 : Hid (Bk w w3 F n O SB' k ga9) := HA9.out.later HSk.out.below
          have sL := HB9.out.cell hk 71 (by decide)
          have fL := HB9.out.frozen (k * 72 + 71)
          have HN : Hid (∃ SB2 g2, Bk w (w3.setCell ⟨F, k * 72 + 71, none⟩ (.slice (some ⟨wA9.heap.size, 0, none⟩) (O k).S.length (O k).S.length)) F n O SB2 (k + 1) g2) := by
            show ∃ _ _, _
            refine HB9.out.offer HI.out.ok hk HFl.out HSk.out ?_
            have := HA9.out.mlt
            omega
          go_wp2_with fail
          go_roundw
          case rel =>
            obtain ⟨SB2, g2, h2⟩ := HN.out
            exact ⟨k + 1, SB2, g2, by go_num, by omega, h2⟩
          case measure => simp [intOf]; omega
    · have hk' : ¬ (k : Int) < (n : Int) := by omega
      obtain rfl : k = n := by omega
      go_wp2_with fail
      go_ret
      exact ⟨F, SB', g, rfl, HB.out⟩
end Go.Proofs.Ybulkekq
