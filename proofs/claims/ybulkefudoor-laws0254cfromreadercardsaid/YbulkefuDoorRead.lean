/-
  (*zzs0254creader).Read.
-/
import Derived.Test.YbulkefuDoorRdInv
import Derived.BigQuiet
namespace Go.Proofs.YbulkefuDoor
open Go.RowKit

theorem Ybad.size5 : (Ybad.prog.info? 5).map (·.size) = some 1 := by kernel_rfl

theorem addP (b o i : Nat) : (⟨b, o, none⟩ : Addr).add i = ⟨b, o + i, none⟩ := by unfold Addr.add; split <;> simp_all

section
variable {w0 w1 : World} {P0 S0 R nc np : Nat} {L Cb : Nat → Nat} {B : Nat → Int} {ea : Addr}

theorem RS.drewN {w : World} {q m mb calls : Nat} {eof : Bool} {bb c : Nat} (h : RS w0 w1 P0 S0 R nc np L B w q m mb calls eof bb c) (n : Nat) : RS w0 w1 P0 S0 R nc np L B (w.drewN n) q m mb calls eof bb c :=
  h.later (below_drewN (Below.refl _ _) n)

set_option maxHeartbeats 800000 in
theorem read_end (hF : Fx w0 w1 P0 S0 R nc np L Cb B ea) (w : World) (m mb calls : Nat) (bb c : Nat) (eof : Bool) (h : RS w0 w1 P0 S0 R nc np L B w nc m mb calls eof bb c) (hca : calls ≤ 1000) (v : Value) :
    Calls Ybad.prog 25 #[.pointer (some ⟨R, 0, none⟩), v] w fun e w' => e = .returned (.tuple #[.int .i64 0, .iface 48 (.pointer (some ea))]) ∧ RS w0 w1 P0 S0 R nc np L B w' nc m mb (calls + 1) eof bb c := by
  have r2 : w.cell? ⟨R, 2, none⟩ = some (.int .i64 calls) := h.rd.cell (by decide)
  have f2 := h.rd.frozen 2
  have hRlt := h.rd.lt
  have hR0 : R ≠ 0 := by have := hF.p0R; omega
  have h' := h.count hF (calls + 1)
  have ec : ((calls + 1 : Nat) : Int) = (calls : Int) + 1 := by omega
  rw [ec] at h'
  have HF : Hid (Fx w0 w1 P0 S0 R nc np L Cb B ea) := hF
  have H' : Hid (RS w0 w1 P0 S0 R nc np L B (w.setCell ⟨R, 2, none⟩ (.int .i64 ((calls : Int) + 1))) nc m mb (calls + 1) eof bb c) := h'
  clear h h' hF
  go_enter Ybad.func25, Ybad.ntmps25
  go_wp2_with fail
  clear r2 f2 hRlt
  generalize w.setCell ⟨R, 2, none⟩ (.int .i64 ((calls : Int) + 1)) = wA at H' ⊢
  have r0 : wA.cell? ⟨R, 0, none⟩ = some (.slice (some ⟨S0, 0, none⟩) nc nc) := H'.out.rd.cell (by decide)
  have r1 : wA.cell? ⟨R, 1, none⟩ = some (.int .i64 nc) := H'.out.rd.cell (by decide)
  have hRlt := H'.out.rd.lt
  have he := H'.out.eofc HF.out
  have h0lt : 0 < wA.heap.size := by omega
  go_quiet (fail)
  go_wp2_with fail
  go_quiet (fail)
  go_wp2_with fail
  go_ret2
  exact ⟨rfl, (H'.out.drewN _).drewN _⟩

set_option maxHeartbeats 800000 in
theorem read_hit (hF : Fx w0 w1 P0 S0 R nc np L Cb B ea) (w : World) (q m calls : Nat) (bb c : Nat) (h : RS w0 w1 P0 S0 R nc np L B w q m m calls false bb c) (hca : calls ≤ 1000) (hq : q < nc) (hbb : R + 1 < bb) (hroom : m + L q ≤ c) :
    Calls Ybad.prog 25 #[.pointer (some ⟨R, 0, none⟩), .slice (some ⟨bb, m, none⟩) (c - m) (c - m)] w fun e w' => e = .returned (.tuple #[.int .i64 (L q), .nilIface]) ∧ RS w0 w1 P0 S0 R nc np L B w' (q + 1) m (ps np L (q + 1)) (calls + 1) false bb c := by
  have r2 : w.cell? ⟨R, 2, none⟩ = some (.int .i64 calls) := h.rd.cell (by decide)
  have f2 := h.rd.frozen 2
  have hRlt := h.rd.lt
  have hnc := hF.hnc
  have h' := h.count hF (calls + 1)
  have ec : ((calls + 1 : Nat) : Int) = (calls : Int) + 1 := by omega
  rw [ec] at h'
  have HF : Hid (Fx w0 w1 P0 S0 R nc np L Cb B ea) := hF
  have H' : Hid (RS w0 w1 P0 S0 R nc np L B (w.setCell ⟨R, 2, none⟩ (.int .i64 ((calls : Int) + 1))) q m m (calls + 1) false bb c) := h'
  clear h h' hF
  go_enter Ybad.func25, Ybad.ntmps25
  go_wp2_with fail
  clear r2 f2 hRlt
  generalize w.setCell ⟨R, 2, none⟩ (.int .i64 ((calls : Int) + 1)) = wA at H' ⊢
  have r0 : wA.cell? ⟨R, 0, none⟩ = some (.slice (some ⟨S0, 0, none⟩) nc nc) := H'.out.rd.cell (by decide)
  have r1 : wA.cell? ⟨R, 1, none⟩ = some (.int .i64 q) := H'.out.rd.cell (by decide)
  have f1 := H'.out.rd.frozen 1
  have hRlt := H'.out.rd.lt
  have hcs := H'.out.cs HF.out q hq
  have hSlt : S0 < wA.heap.size := by have := HF.out.s0; omega
  have hqn : ¬ (nc : Int) ≤ (q : Int) := by omega
  obtain ⟨cur, hcur, hclen, _⟩ := H'.out.buf
  have HC : Hid (wA.heap[bb]? = some (.cells cur.toArray 5 (0, 0))) := hcur
  have HL : Hid (cur.length = c) := hclen
  have hgB : Hid (∀ n v, ((wA.drewN n).setCell ⟨R, 1, none⟩ v).heap[bb]? = some (.cells cur.toArray 5 (0, 0))) := fun n v => by
    rw [Below.heap_setCell _ _ _ _ (by show bb ≠ R; omega)]; exact hcur
  have hchB : Hid (∀ n v j x, (chL np L B q)[j]? = some x → ((wA.drewN n).setCell ⟨R, 1, none⟩ v).cell? ((⟨Cb q, 0, none⟩ : Addr).add j) = some x) := fun n v j x hx => by
    have hj := (List.getElem?_eq_some_iff.1 hx).1
    rw [chL_len] at hj
    rw [chL_get _ _ _ _ _ hj] at hx
    rw [addP, Nat.zero_add, World.cell?_of_block (w := wA.drewN n) (Below.heap_setCell _ _ _ _ (by have := (HF.out.cb q hq).1; show Cb q ≠ R; omega)), World.cell?_drewN, H'.out.ch HF.out q hq j hj]
    exact hx
  have HN : Hid ((chL np L B q).length = Nat.min (L q) (c - m)) := by
    show _ = _
    rw [chL_len]
    exact (Nat.min_eq_left (by omega)).symm
  have H1 : Hid (∀ v ∈ chL np L B q, v.oneCell' = true) := chL_one np L B q
  have HE : Hid ((chL np L B q).length = L q) := chL_len np L B q
  have HH : Hid (∀ n w2, Below bb ((wA.drewN n).setCell ⟨R, 1, none⟩ (.int .i64 ((q : Int) + 1))) w2 → w2.heap[bb]? = some (.cells (splice cur m (chL np L B q)).toArray 5 (0, 0)) → RS w0 w1 P0 S0 R nc np L B w2 (q + 1) m (ps np L (q + 1)) (calls + 1) false bb c) := fun n w2 h1 h2 =>
    (H'.out.drewN n).hit HF.out hq hbb rfl hroom (by rw [show (((q : Nat) + 1 : Nat) : Int) = (q : Int) + 1 by omega]; exact h1) hcur h2
  clear hcur hclen
  generalize chL np L B q = cl at *
  go_quiet (fail)
  go_wp2_with fail
  go_quiet (fail)
  go_wp2_with (refine wpList_copy_splice (by rfl) (.tmp 43) (.tmp 44) 22 22 (by rfl) 5 Ybad.underlying22 Ybad.size5 _ _ _ _ _ _ (by rfl) (by rfl) bb m cur 5 (hgB.out _ _) cl HN.out (fun _ => ⟨rfl, _, rfl, hchB.out _ _⟩) (by rw [HE.out, HL.out]; exact hroom) H1.out bb _ (Below.refl _ _) (Nat.le_refl _) ?_; intro w5 HG5 hB5)
  go_ret2
  refine ⟨?_, HH.out _ _ hB5 HG5.out⟩
  rw [← HE.out]
  rfl
end
end Go.Proofs.YbulkefuDoor
