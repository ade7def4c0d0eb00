/-
  A decoder over the law's reader keeps its word; its first state.
-/
import Derived.Test.YbulkefuDoorFrInv
import Derived.Test.YbulkefuDoorMore
namespace Go.Proofs.YbulkefuDoor
open Go.RowKit

section
variable {w0 w1 : World} {P0 S0 R nc np : Nat} {L Cb : Nat → Nat} {B : Nat → Int} {ea : Addr}

/-- m bytes have come. -/
def RD (w0 w1 : World) (P0 S0 R nc np : Nat) (L : Nat → Nat) (B : Nat → Int) (w : World) (m : Nat) : Prop :=
  ∃ (q calls : Nat) (eof : Bool) (bb c : Nat), RS w0 w1 P0 S0 R nc np L B w q m m calls eof bb c ∧ (eof = false → calls ≤ q)

theorem word_rd (hF : Fx w0 w1 P0 S0 R nc np L Cb B ea) (hB : ∀ j, j < ps np L nc → 0 ≤ B j ∧ B j < 256) : Word (R + 1) (ps np L nc) B (RD w0 w1 P0 S0 R nc np L B) := by
  refine ⟨fun w m ⟨q, calls, eof, bb, c, h, _⟩ => ?_, fun w m ⟨q, calls, eof, bb, c, h, hc⟩ => ?_⟩
  · have hle : m ≤ ps np L nc := by rw [h.hmb]; exact ps_mono np L h.hq
    exact ⟨hle, some ⟨bb, 0, none⟩, bb, 0, c, h.dec.cell (by decide), fun _ => rfl, fun i hi => by rw [Nat.zero_add]; exact h.bys i hi, fun i hi => hB i (by omega)⟩
  · cases eof with
    | true =>
      refine (more_eof (R + 1) w (h.dec.cell (by decide))).mono ?_
      rintro e w' ⟨rfl, rfl⟩
      have hm : m = ps np L nc := by rw [h.hmb, (h.end_ rfl).1]
      exact ⟨false, m, rfl, ⟨q, calls, true, bb, c, h, hc⟩, fun h => by simp at h, fun _ => hm, Nat.le_refl _⟩
    | false =>
      refine (more_any hF w q m calls bb c h (hc rfl)).mono ?_
      rintro e w' ⟨t, q', m', calls', eof', bb', c', rfl, h', hc', hq, ht, hf⟩
      refine ⟨t, m', rfl, ⟨q', calls', eof', bb', c', h', hc'⟩, ht, fun e => ?_, ?_⟩
      · rw [← (hf e).2, h'.hmb, (hf e).1]
      · rw [h.hmb, h'.hmb]
        exact ps_mono np L hq

/-- The first state. -/
theorem FI.rs {w wr : World} {Zp : Nat → Int} {Z : Nat → Nat → Int} {g cap : Nat} (h : FI w wr np nc S0 Zp L Z nc nc Cb g cap) (hnp : np ≤ 1024) (hnc : nc ≤ 64) (hL : ∀ k, k < nc → L k ≤ 1024) (heof : w.cell? ⟨0, 0, none⟩ = some (.iface 48 (.pointer (some ea)))) {w7 : World}
    (hw7 : w7 = (wr.alloc (.cells #[.slice (some ⟨S0, 0, none⟩) nc nc, .int .i64 0, .int .i64 0] 42)).alloc (.cells #[.slice (some ⟨w.heap.size, 0, none⟩) np np, .int .i64 0, .iface 40 (.pointer (some ⟨wr.heap.size, 0, none⟩)), .bool false, .nilIface, .int .i64 0, .int .i64 0, .int .i64 0, .slice none 0 0, .slice none 0 0, .slice none 0 0, .slice none 0 0] 34)) :
    Fx w w7 w.heap.size S0 wr.heap.size nc np L Cb (wb np Zp L Z nc) ea ∧ RS w w7 w.heap.size S0 wr.heap.size nc np L (wb np Zp L Z nc) w7 0 np np 0 false w.heap.size np ∧ Bs w7 (some ⟨g, 0, none⟩) g 0 (ps np L nc) (wb np Zp L Z nc) ∧ g < wr.heap.size ∧ g ≠ w.heap.size := by
  have hS := h.hS
  have hg := h.lt
  have hsz := h.below.size
  have hcl := h.cs.lt
  have hpl := h.pre.lt
  have hb7 : Below wr.heap.size wr w7 := by
    subst hw7
    exact ((Below.refl _ _).alloc (Nat.le_refl _) _).alloc (by simp) _
  have hblk : ∀ b, b < wr.heap.size → w7.heap[b]? = wr.heap[b]? := hb7.block
  refine ⟨⟨heof, hnp, hnc, hL, Nat.le_refl _, hpl, hcl, by omega, fun k hk => ?_, fun k hk => ?_, fun k hk j hj => ?_⟩, ⟨h.below.trans (hb7.mono hsz), Nat.zero_le _, rfl, Nat.le_refl _, Nat.le_refl _, by omega, ?_, ?_, ?_, .inl ⟨rfl, hnp⟩, fun _ _ _ => rfl, fun e => by simp at e⟩, ⟨fun _ => rfl, fun i hi => ?_, fun i hi => ?_⟩, hg.2, by omega⟩
  · have h1 := h.cb k hk
    have h2 := (h.ch k hk).lt
    omega
  · rw [(h.cs.of_block (hblk _ hcl)).cell hk, if_pos hk]
  · rw [((h.ch k hk).of_block (hblk _ (h.ch k hk).lt)).cell hj, wb_ch _ _ _ _ _ _ _ hk hj]
  · subst hw7
    refine (World.rowIs_alloc wr #[.slice (some ⟨S0, 0, none⟩) nc nc, .int .i64 0, .int .i64 0] 42 (rf S0 nc 0 0) (fun i hi => ?_)).alloc _
    have : i = 0 ∨ i = 1 ∨ i = 2 := by simp at hi; omega
    rcases this with rfl | rfl | rfl <;> rfl
  · subst hw7
    have h2 := World.rowIs_alloc (wr.alloc (.cells #[.slice (some ⟨S0, 0, none⟩) nc nc, .int .i64 0, .int .i64 0] 42)) #[.slice (some ⟨w.heap.size, 0, none⟩) np np, .int .i64 0, .iface 40 (.pointer (some ⟨wr.heap.size, 0, none⟩)), .bool false, .nilIface, .int .i64 0, .int .i64 0, .int .i64 0, .slice none 0 0, .slice none 0 0, .slice none 0 0, .slice none 0 0] 34 (df wr.heap.size w.heap.size np np false) (fun i hi => by
      have : i = 0 ∨ i = 1 ∨ i = 2 ∨ i = 3 ∨ i = 4 ∨ i = 5 ∨ i = 6 ∨ i = 7 ∨ i = 8 ∨ i = 9 ∨ i = 10 ∨ i = 11 := by simp at hi; omega
      rcases this with rfl | rfl | rfl | rfl | rfl | rfl | rfl | rfl | rfl | rfl | rfl | rfl <;> rfl)
    simpa using h2
  · obtain ⟨c, h1, h2, h3⟩ := h.pre.of_block (hblk _ hpl)
    refine ⟨c.toList, by simpa using h1, by simpa using h2, fun j hj => ?_⟩
    rw [wb_pre _ _ _ _ _ _ hj]
    simpa using h3 j hj
  · rw [Nat.zero_add]
    have h1 := h.own.cellAt i (by omega)
    have h2 : w7.cell? ⟨g, i, none⟩ = wr.cell? ⟨g, i, none⟩ := World.cell?_of_block (w := wr) (hblk _ hg.2)
    rw [h2, h1]
    have hlt : i < (wl np Zp L Z nc).length := by rw [wl_len]; exact hi
    simp [wb, hlt]
  · have hlt : i < (wl np Zp L Z nc).length := by rw [wl_len]; exact hi
    unfold wb
    rw [List.getElem?_eq_getElem hlt, Option.getD_some]
    exact wb_rng np Zp L Z nc _ (List.getElem_mem _)
end
end Go.Proofs.YbulkefuDoor
