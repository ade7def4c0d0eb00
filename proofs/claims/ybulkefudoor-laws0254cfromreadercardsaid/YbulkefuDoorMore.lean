/-
  (*Decoder).more over the law's reader.
-/
import Derived.Test.YbulkefuDoorRead
import Derived.Test.YbulkefuDoorNeq
import Derived.Deep.RegionHeld3
import Derived.Deep.DrawnRows
import Derived.Deep.Cut
namespace Go.Proofs.YbulkefuDoor
open Go.RowKit

theorem make22c (m c : Nat) (hm : m ≤ c) (hc : c ≤ 1000000) (w : World) :
    (Instr.makeSlice 22 (.int .i64 m) (.int .i64 c)).run Ybad.prog w = .ok (.slice (some ⟨w.heap.size, 0, none⟩) m c) (w.alloc (.cells (madeCells #[.int .u8 0] c) 5)) := by
  obtain ⟨i, h1, h2, h3, h4⟩ := info_parts Ybad.info5
  have h := run_make (P := Ybad.prog) w 22 5 i _ Ybad.underlying22 h1 h2 .i64 .i64 m c (by omega) (by omega) (by rw [h4]; omega) (by omega)
  rw [h3] at h
  simpa [Value.cells] using h

theorem method_read (a : Addr) (w : World) : (method 178 40 (.pointer (some a)) "Read").run Ybad.prog w = .ok (25, .pointer (some a)) w := by kernel_rfl

section
variable {w0 w1 : World} {P0 S0 R nc np : Nat} {L Cb : Nat → Nat} {B : Nat → Int} {ea : Addr}

def MorePost (w0 w1 : World) (P0 S0 R nc np : Nat) (L : Nat → Nat) (B : Nat → Int) (q m : Nat) (e : Ending) (w' : World) : Prop :=
  ∃ (t : Bool) (q' m' calls' : Nat) (eof' : Bool) (bb' c' : Nat), e = .returned (.bool t) ∧ RS w0 w1 P0 S0 R nc np L B w' q' m' m' calls' eof' bb' c' ∧ (eof' = false → calls' ≤ q') ∧ q ≤ q' ∧ (t = true → m < m') ∧ (t = false → q' = nc ∧ m' = m)

set_option maxHeartbeats 1600000 in
set_option maxRecDepth 100000 in
theorem more_any (hF : Fx w0 w1 P0 S0 R nc np L Cb B ea) (w : World) (q m calls : Nat) (bb c : Nat) (h : RS w0 w1 P0 S0 R nc np L B w q m m calls false bb c) (hca : calls ≤ q) :
    Calls Ybad.prog 9 #[.pointer (some ⟨R + 1, 0, none⟩)] w (MorePost w0 w1 P0 S0 R nc np L B q m) := by
  have d0 : w.cell? ⟨R + 1, 0, none⟩ = some (.slice (some ⟨bb, 0, none⟩) m c) := h.dec.cell (by decide)
  have d3 : w.cell? ⟨R + 1, 3, none⟩ = some (.bool false) := h.dec.cell (by decide)
  have hDlt := h.dec.lt
  have hmc := h.hmc
  have hc := h.hc
  have HF : Hid (Fx w0 w1 P0 S0 R nc np L Cb B ea) := hF
  have H : Hid (RS w0 w1 P0 S0 R nc np L B w q m m calls false bb c) := h
  clear h hF
  go_enter Ybad.func9, Ybad.ntmps9
  go_wp2_with fail
  go_quiet (fail)
  go_upto_if 21 with fail
  go_cut [3, 21] from 22 (fun _ _ w' => ∃ bb' c', RS w0 w1 P0 S0 R nc np L B w' q m m calls false bb' c' ∧ 32768 ≤ c' - m ∧ R + 1 < bb')
  case first =>
    by_cases hg : c - m < 32768
    · have hg' : (c : Int) - (m : Int) < 32768 := by omega
      have hmk := make22c m (2 * c + 65536) (by omega) (by omega)
      have e2 : ((2 * c + 65536 : Nat) : Int) = 2 * (c : Int) + 65536 := by omega
      rw [e2] at hmk
      go_wp2_with fail
      go_region
      have HD := H.out.drewN (nq + 1)
      have hNs : (w.drewN (nq + 1)).heap.size = w.heap.size := rfl
      clear hmk
      generalize w.drewN (nq + 1) = wD at HD hNs ⊢
      rw [← hNs]
      clear hNs d0 d3 hDlt H
      have hsz : (madeCells #[.int .u8 0] (2 * c + 65536)).size = 2 * c + 65536 := size_madeCells _ _
      generalize madeCells #[.int .u8 0] (2 * c + 65536) = mk at hsz ⊢
      have d0 : wD.cell? ⟨R + 1, 0, none⟩ = some (.slice (some ⟨bb, 0, none⟩) m c) := HD.dec.cell (by decide)
      have hDlt := HD.dec.lt
      have f0 := HD.dec.frozen 0
      have hg3 : (wD.alloc (.cells mk 5)).heap[wD.heap.size]? = some (.cells mk.toList.toArray 5 (0, 0)) := heap_alloc_new _ _
      have hn : (blL B m).length = Nat.min m m := by rw [blL_len]; exact (Nat.min_self m).symm
      have hsrc : ∀ j v, (blL B m)[j]? = some v → (wD.alloc (.cells mk 5)).cell? ((⟨bb, 0, none⟩ : Addr).add j) = some v := fun j v hv => by
        have hj := (List.getElem?_eq_some_iff.1 hv).1
        rw [blL_len] at hj
        rw [blL_get _ _ _ hj] at hv
        have hc := HD.bys j hj
        rw [addP, Nat.zero_add, World.cell?_alloc_past _ _ _ (World.block_lt_of_cell? _ _ hc), hc]
        exact hv
      have HB : Hid ((blL B m).length = m) := blL_len B m
      have HH : Hid (∀ w5, Below wD.heap.size wD w5 → w5.heap[wD.heap.size]? = some (.cells (splice mk.toList 0 (blL B m)).toArray 5 (0, 0)) → RS w0 w1 P0 S0 R nc np L B (w5.setCell ⟨R + 1, 0, none⟩ (.slice (some ⟨wD.heap.size, 0, none⟩) m (2 * c + 65536))) q m m calls false wD.heap.size (2 * c + 65536) ∧ R + 1 < wD.heap.size) := fun w5 h5 hg5 =>
        HD.grow HF.out (by simpa using hsz) (by omega) (by have := HD.hmb; have := ps_le np L HF.out.hnp HF.out.hL q HD.hq; have := HF.out.hnc; have := HD.hq; omega) h5 hg5
      have H1 : Hid (∀ v ∈ blL B m, v.oneCell' = true) := blL_one B m
      have HG3 : Hid ((wD.alloc (.cells mk 5)).heap[wD.heap.size]? = some (.cells mk.toList.toArray 5 (0, 0))) := hg3
      have HN : Hid ((blL B m).length = Nat.min m m) := hn
      have HS : Hid (∀ j v, (blL B m)[j]? = some v → (wD.alloc (.cells mk 5)).cell? ((⟨bb, 0, none⟩ : Addr).add j) = some v) := hsrc
      clear hg3 hn hsrc HD
      generalize blL B m = bl at *
      have hb3 : Below wD.heap.size wD (wD.alloc (.cells mk 5)) := (Below.refl _ _).alloc (Nat.le_refl _) _
      go_wp2_with (refine wpList_copy_splice (by rfl) (.tmp 35) (.tmp 39) 22 22 (by rfl) 5 Ybad.underlying22 Ybad.size5 _ _ _ _ _ _ (by rfl) (by rfl) wD.heap.size 0 mk.toList 5 HG3.out bl HN.out (fun _ => ⟨rfl, _, rfl, HS.out⟩) (by rw [HB.out, Array.length_toList, hsz]; omega) H1.out wD.heap.size wD hb3 (Nat.le_refl _) ?_; intro w5 HG5 hB5; have f5 : w5.frozen? ⟨R + 1, 0, none⟩ = false := (hB5.frozen (p := ⟨R + 1, 0, none⟩) hDlt).trans f0; have d5 := cell_later hB5 d0)
      go_meet
      case rel => exact ⟨_, _, (HH.out w5 hB5 HG5.out).1, by omega, (HH.out w5 hB5 HG5.out).2⟩
    · have hg' : ¬ (c : Int) - (m : Int) < 32768 := by omega
      go_wp2_with fail
      go_meet
      case rel => exact ⟨bb, c, H.out.drewN _, by omega, by
        rcases H.out.hbb with e | e
        · omega
        · exact e⟩
  case rest =>
    obtain ⟨bb', c', hR, hroom, hbb'⟩ := hcut
    have HR : Hid (RS w0 w1 P0 S0 R nc np L B wc q m m calls false bb' c') := hR
    clear hR d0 d3 hDlt H
    go_wp2_with fail
    go_loopw [4, 5, 45] (fun _ _ v wr => ∃ t : Nat, v = .int .i64 t ∧ q + t ≤ nc ∧ RS w0 w1 P0 S0 R nc np L B wr (q + t) m m (calls + t) false bb' c') (fun _ _ v _ => 100 - (intOf v).toNat)
    case atStart => exact ⟨0, rfl, HR.out.hq, HR.out⟩
    case round =>
      clear HR
      obtain ⟨w3, ew⟩ : ∃ x, x = wr := ⟨_, rfl⟩
      subst ew
      obtain ⟨t, rfl, hqt, hS⟩ := hrel
      have hnc := HF.out.hnc
      have ht100 : (t : Int) < 100 := by omega
      have d0 : w3.cell? ⟨R + 1, 0, none⟩ = some (.slice (some ⟨bb', 0, none⟩) m c') := hS.dec.cell (by decide)
      have d2 : w3.cell? ⟨R + 1, 2, none⟩ = some (.iface 40 (.pointer (some ⟨R, 0, none⟩))) := hS.dec.cell (by decide)
      have HS : Hid (RS w0 w1 P0 S0 R nc np L B w3 (q + t) m m (calls + t) false bb' c') := hS
      have hmc2 := hS.hmc
      have hc2 := hS.hc
      clear hS
      have hmeth := fun (a : Addr) (w : World) => method_read a w
      by_cases hend : q + t = nc
      · have HE := HS.out
        rw [hend] at HE
        have HE' : Hid (RS w0 w1 P0 S0 R nc np L B w3.drew nc m m (calls + t) false bb' c') := HE.drewN 1
        clear HE
        go_wp2_with fail
        go_region_held3 (fun w' => w'.cell? ⟨R + 1, 0, none⟩ = some (.slice (some ⟨bb', 0, none⟩) m c') ∧ w'.cell? ⟨R + 1, 2, none⟩ = some (.iface 40 (.pointer (some ⟨R, 0, none⟩))))
          (first | exact ⟨d0, d2⟩ | exact ⟨d0', d2'⟩) (first | (go_at_call 25; refine (read_end HF.out w3.drew m m (calls + t) bb' c' false HE'.out (by omega) _).mono ?_; rintro e w4 ⟨rfl, HQ⟩; have d0' : w4.cell? ⟨R + 1, 0, none⟩ = some (.slice (some ⟨bb', 0, none⟩) m c') := HQ.dec.cell (by decide); have d2' : w4.cell? ⟨R + 1, 2, none⟩ = some (.iface 40 (.pointer (some ⟨R, 0, none⟩))) := HQ.dec.cell (by decide)))
        rename_i hHeld
        clear hHeld
        have HQ' : Hid (RS w0 w1 P0 S0 R nc np L B w4 nc m m (calls + t + 1) false bb' c') := HQ
        have f0 := HQ.dec.frozen 0
        have hlt4 := HQ.dec.lt
        have hmcc : ¬ (c' : Int) < (m : Int) := by omega
        clear HQ d0 d2 HS HE' d2' hmeth
        go_wp2_with fail
        go_region
        have H5 : Hid (RS w0 w1 P0 S0 R nc np L B (w4.setCell ⟨R + 1, 0, none⟩ (.slice (some ⟨bb', 0, none⟩) m c')).drew nc m m (calls + t + 1) false bb' c') := (HQ'.out.said HF.out rfl).drewN 1
        clear d0' HQ' f0 hlt4
        generalize (w4.setCell ⟨R + 1, 0, none⟩ (.slice (some ⟨bb', 0, none⟩) m c')).drew = w5 at H5 ⊢
        have d3 : w5.cell? ⟨R + 1, 3, none⟩ = some (.bool false) := H5.out.dec.cell (by decide)
        have f3 := H5.out.dec.frozen 3
        have he := H5.out.eofc HF.out
        have hlt5 := H5.out.dec.lt
        have H6 : Hid (RS w0 w1 P0 S0 R nc np L B (w5.setCell ⟨R + 1, 3, none⟩ (.bool true)) nc m m (calls + t + 1) true bb' c') := H5.out.ended HF.out
        have hq1 := fun v w => neq_nil v w
        have hq2 := fun a w => neq_same a w
        go_wp2_with fail
        go_ret
        exact ⟨false, nc, m, calls + t + 1, true, bb', c', rfl, H6.out, fun h => by simp at h, by omega, fun h => by simp at h, fun _ => ⟨rfl, rfl⟩⟩
      · have hlt : q + t < nc := by omega
        have hL := HF.out.hL (q + t) hlt
        have HS' : Hid (RS w0 w1 P0 S0 R nc np L B w3.drew (q + t) m m (calls + t) false bb' c') := HS.out.drewN 1
        have hps : ps np L (q + t + 1) = m + L (q + t) := by rw [HS.out.hmb]; rfl
        have HC : Hid (∀ v, v = .slice (some ⟨bb', m, none⟩) (c' - m) (c' - m) → Calls Ybad.prog 25 #[.pointer (some ⟨R, 0, none⟩), v] w3.drew fun e w' => e = .returned (.tuple #[.int .i64 (L (q + t)), .nilIface]) ∧ RS w0 w1 P0 S0 R nc np L B w' (q + t + 1) m (ps np L (q + t + 1)) (calls + t + 1) false bb' c') := fun v hv => by rw [hv]; exact read_hit HF.out w3.drew (q + t) m (calls + t) bb' c' HS'.out (by omega) hlt hbb' (by omega)
        rw [hps] at HC
        clear hps HS HS'
        generalize L (q + t) = l at *
        go_wp2_with fail
        go_region_held3 (fun w' => w'.cell? ⟨R + 1, 0, none⟩ = some (.slice (some ⟨bb', 0, none⟩) m c') ∧ w'.cell? ⟨R + 1, 2, none⟩ = some (.iface 40 (.pointer (some ⟨R, 0, none⟩))))
          (first | exact ⟨d0, d2⟩ | exact ⟨d0', d2'⟩) (first | (go_at_call 25; refine (HC.out _ (by rw [if_neg (by omega)])).mono ?_; rintro e w4 ⟨rfl, HQ⟩; have d0' : w4.cell? ⟨R + 1, 0, none⟩ = some (.slice (some ⟨bb', 0, none⟩) m c') := HQ.dec.cell (by decide); have d2' : w4.cell? ⟨R + 1, 2, none⟩ = some (.iface 40 (.pointer (some ⟨R, 0, none⟩))) := HQ.dec.cell (by decide)))
        rename_i hHeld
        clear hHeld
        have HQ' : Hid (RS w0 w1 P0 S0 R nc np L B w4 (q + t + 1) m (m + l) (calls + t + 1) false bb' c') := HQ
        have f0 := HQ.dec.frozen 0
        have hlt4 := HQ.dec.lt
        have hle : (m : Int) + (l : Int) ≤ (c' : Int) := by omega
        have hge : 0 ≤ (m : Int) + (l : Int) := by omega
        have hwr : IntKind.i64.wrap ((m : Int) + (l : Int)) = (m : Int) + (l : Int) := by rw [IntKind.wrap_i64]; omega
        have htn : ((m : Int) + (l : Int)).toNat = m + l := by omega
        clear HQ d0 d2 d2' hmeth HC
        go_wp2_with fail
        go_big_region
        have H5 : Hid (RS w0 w1 P0 S0 R nc np L B (w4.setCell ⟨R + 1, 0, none⟩ (.slice (some ⟨bb', 0, none⟩) (m + l) c')).drew (q + t + 1) (m + l) (m + l) (calls + t + 1) false bb' c') := (HQ'.out.said HF.out rfl).drewN 1
        clear d0' HQ' f0 hlt4 hle hge hwr htn
        generalize (w4.setCell ⟨R + 1, 0, none⟩ (.slice (some ⟨bb', 0, none⟩) (m + l) c')).drew = w5 at H5 ⊢
        have d3 : w5.cell? ⟨R + 1, 3, none⟩ = some (.bool false) := H5.out.dec.cell (by decide)
        have hq3 := fun w => nil_nil w
        by_cases hl0 : 0 < l
        · have hl0' : (0 : Int) < (l : Int) := by omega
          go_wp2_with fail
          go_ret
          exact ⟨true, q + t + 1, m + l, calls + t + 1, false, bb', c', rfl, H5.out, fun _ => by omega, by omega, fun _ => by omega, fun h => by simp at h⟩
        · have hl0' : ¬ (0 : Int) < (l : Int) := by omega
          obtain rfl : l = 0 := by omega
          have H6 : Hid (RS w0 w1 P0 S0 R nc np L B w5 (q + (t + 1)) m m (calls + (t + 1)) false bb' c') := H5.out
          clear H5
          go_wp2_with fail
          go_roundw
          case rel => exact ⟨t + 1, by go_num, by omega, H6.out⟩
          case measure => simp [intOf]; omega
end
end Go.Proofs.YbulkefuDoor
