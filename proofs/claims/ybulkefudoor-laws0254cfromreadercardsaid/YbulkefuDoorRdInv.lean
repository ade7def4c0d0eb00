/-
  A decoder over the law's reader: what lies in memory. No walk.
-/
import Derived.Test.YbulkefuDoorDigits
import Derived.Laws.CopyOwn
namespace Go.Proofs.YbulkefuDoor
open Go.RowKit

/-- Where chunk q begins. -/
def ps (np : Nat) (L : Nat → Nat) : Nat → Nat
  | 0 => np
  | q + 1 => ps np L q + L q

theorem ps_mono (np : Nat) (L : Nat → Nat) {a b : Nat} (h : a ≤ b) : ps np L a ≤ ps np L b := by
  induction b with
  | zero => obtain rfl : a = 0 := by omega
            exact Nat.le_refl _
  | succ b ih =>
    by_cases e : a = b + 1
    · subst e; exact Nat.le_refl _
    · exact Nat.le_trans (ih (by omega)) (by simp [ps])

theorem ps_le (np : Nat) (L : Nat → Nat) (hp : np ≤ 1024) {nc : Nat} (hL : ∀ k, k < nc → L k ≤ 1024) : ∀ q, q ≤ nc → ps np L q ≤ 1024 + q * 1024 := by
  intro q
  induction q with
  | zero => intro _; simp [ps]; omega
  | succ q ih =>
    intro h
    have := ih (by omega)
    have := hL q (by omega)
    simp only [ps]
    omega

/-- What stays: the chunks, io.EOF. Blocks: P0 the leading bytes, S0 the slice of chunks, R the reader, then the decoder. -/
structure Fx (w0 w1 : World) (P0 S0 R nc np : Nat) (L Cb : Nat → Nat) (B : Nat → Int) (ea : Addr) : Prop where
  eof : w0.cell? ⟨0, 0, none⟩ = some (.iface 48 (.pointer (some ea)))
  hnp : np ≤ 1024
  hnc : nc ≤ 64
  hL : ∀ k, k < nc → L k ≤ 1024
  p0 : w0.heap.size ≤ P0
  p0R : P0 < R
  s0 : S0 < R
  s0p : S0 ≠ P0
  cb : ∀ k, k < nc → Cb k < R ∧ Cb k ≠ P0
  cs : ∀ k, k < nc → w1.cell? ⟨S0, k, none⟩ = some (.slice (some ⟨Cb k, 0, none⟩) (L k) (L k))
  ch : ∀ k, k < nc → ∀ j, j < L k → w1.cell? ⟨Cb k, j, none⟩ = some (.int .u8 (B (ps np L k + j)))

/-- The reader's cells. -/
def rf (S0 nc q calls : Nat) (i : Nat) : Value := if i = 0 then .slice (some ⟨S0, 0, none⟩) nc nc else if i = 1 then .int .i64 q else .int .i64 calls
/-- The decoder's cells. -/
def df (R bb m c : Nat) (eof : Bool) (i : Nat) : Value :=
  if i = 0 then .slice (some ⟨bb, 0, none⟩) m c else if i = 2 then .iface 40 (.pointer (some ⟨R, 0, none⟩)) else if i = 3 then .bool eof
  else if i = 4 then .nilIface else if i = 1 ∨ i = 5 ∨ i = 6 ∨ i = 7 then .int .i64 0 else .slice none 0 0

/-- The state: q chunks are read; the decoder says m bytes, mb lie in its row of c. -/
structure RS (w0 w1 : World) (P0 S0 R nc np : Nat) (L : Nat → Nat) (B : Nat → Int) (w : World) (q m mb calls : Nat) (eof : Bool) (bb c : Nat) : Prop where
  below : Below w0.heap.size w0 w
  hq : q ≤ nc
  hmb : mb = ps np L q
  hm : m ≤ mb
  hmc : mb ≤ c
  hc : c ≤ 300000
  rd : w.rowIs R 42 3 (rf S0 nc q calls)
  dec : w.rowIs (R + 1) 34 12 (df R bb m c eof)
  buf : ∃ cur : List Value, w.heap[bb]? = some (.cells cur.toArray 5 (0, 0)) ∧ cur.length = c ∧ ∀ j, j < mb → cur[j]? = some (.int .u8 (B j))
  hbb : (bb = P0 ∧ c ≤ 1024) ∨ R + 1 < bb
  fix : ∀ k, k < R → k ≠ P0 → w.heap[k]? = w1.heap[k]?
  end_ : eof = true → q = nc ∧ m = mb

section
variable {w0 w1 : World} {P0 S0 R nc np : Nat} {L Cb : Nat → Nat} {B : Nat → Int} {ea : Addr} {w : World} {q m mb calls : Nat} {eof : Bool} {bb c : Nat}

theorem RS.cs (h : RS w0 w1 P0 S0 R nc np L B w q m mb calls eof bb c) (hF : Fx w0 w1 P0 S0 R nc np L Cb B ea) (k : Nat) (hk : k < nc) : w.cell? ⟨S0, k, none⟩ = some (.slice (some ⟨Cb k, 0, none⟩) (L k) (L k)) := by
  rw [World.cell?_of_block (w := w1) (h.fix S0 hF.s0 hF.s0p)]
  exact hF.cs k hk

theorem RS.ch (h : RS w0 w1 P0 S0 R nc np L B w q m mb calls eof bb c) (hF : Fx w0 w1 P0 S0 R nc np L Cb B ea) (k : Nat) (hk : k < nc) (j : Nat) (hj : j < L k) : w.cell? ⟨Cb k, j, none⟩ = some (.int .u8 (B (ps np L k + j))) := by
  rw [World.cell?_of_block (w := w1) (h.fix (Cb k) (hF.cb k hk).1 (hF.cb k hk).2)]
  exact hF.ch k hk j hj

theorem RS.eofc (h : RS w0 w1 P0 S0 R nc np L B w q m mb calls eof bb c) (hF : Fx w0 w1 P0 S0 R nc np L Cb B ea) : w.cell? ⟨0, 0, none⟩ = some (.iface 48 (.pointer (some ea))) :=
  World.cell?_of_block (w := w0) (h.below.block 0 (World.block_lt_of_cell? _ _ hF.eof)) |>.trans hF.eof

theorem RS.bys (h : RS w0 w1 P0 S0 R nc np L B w q m mb calls eof bb c) (j : Nat) (hj : j < mb) : w.cell? ⟨bb, j, none⟩ = some (.int .u8 (B j)) := by
  obtain ⟨cur, h1, _, h3⟩ := h.buf
  rw [cell_of_row w bb j _ 5 (0, 0) h1]
  simpa using h3 j hj

/-- A world in which all below bb and bb itself are as they were. -/
theorem RS.later (h : RS w0 w1 P0 S0 R nc np L B w q m mb calls eof bb c) {w' : World} (hb : Below w.heap.size w w') : RS w0 w1 P0 S0 R nc np L B w' q m mb calls eof bb c := by
  have hblk : ∀ k o, w.heap[k]? = some o → w'.heap[k]? = w.heap[k]? := fun k o hk => hb.block k (Array.getElem?_eq_some_iff.1 hk).1
  obtain ⟨cur, h1, h2, h3⟩ := h.buf
  refine ⟨h.below.trans (hb.mono h.below.size), h.hq, h.hmb, h.hm, h.hmc, h.hc, h.rd.of_block (hb.block _ h.rd.lt), h.dec.of_block (hb.block _ h.dec.lt), ⟨cur, by rw [hblk bb _ h1]; exact h1, h2, h3⟩, h.hbb, fun k hk hn => ?_, h.end_⟩
  rw [hb.block k (Nat.lt_trans hk h.rd.lt)]
  exact h.fix k hk hn

theorem splice_lo {L cs : List Value} {off j : Nat} (hj : j < off) (ho : off ≤ L.length) : (splice L off cs)[j]? = L[j]? := by
  unfold splice
  rw [List.getElem?_append_left (by rw [List.length_take]; omega), List.getElem?_take_of_lt hj]

theorem splice_in {L cs : List Value} {off j : Nat} (h1 : off ≤ j) (h2 : j < off + cs.length) (ho : off ≤ L.length) : (splice L off cs)[j]? = cs[j - off]? := by
  unfold splice
  have hl : (L.take off).length = off := by rw [List.length_take]; omega
  rw [List.getElem?_append_right (by omega), hl, List.getElem?_append_left (by omega)]

/-- The bytes of chunk q. -/
def chL (np : Nat) (L : Nat → Nat) (B : Nat → Int) (q : Nat) : List Value := (List.range (L q)).map fun j => .int .u8 (B (ps np L q + j))
theorem chL_len (np : Nat) (L : Nat → Nat) (B : Nat → Int) (q : Nat) : (chL np L B q).length = L q := by simp [chL]
theorem chL_get (np : Nat) (L : Nat → Nat) (B : Nat → Int) (q j : Nat) (hj : j < L q) : (chL np L B q)[j]? = some (.int .u8 (B (ps np L q + j))) := by simp [chL, hj]
theorem chL_one (np : Nat) (L : Nat → Nat) (B : Nat → Int) (q : Nat) : ∀ v ∈ chL np L B q, v.oneCell' = true := by
  intro v hv
  simp only [chL, List.mem_map] at hv
  obtain ⟨i, _, rfl⟩ := hv
  rfl

/-- The reader has counted a call, and gone on to q'. -/
theorem RS.count (h : RS w0 w1 P0 S0 R nc np L B w q m mb calls eof bb c) (hF : Fx w0 w1 P0 S0 R nc np L Cb B ea) (calls' : Nat) : RS w0 w1 P0 S0 R nc np L B (w.setCell ⟨R, 2, none⟩ (.int .i64 calls')) q m mb calls' eof bb c := by
  obtain ⟨cur, h1, h2, h3⟩ := h.buf
  have hp := hF.p0R
  have hp0 := hF.p0
  have hne : bb ≠ R := by rcases h.hbb with e | e <;> omega
  refine ⟨h.below.setCell (by show w0.heap.size ≤ R; omega) _, h.hq, h.hmb, h.hm, h.hmc, h.hc, (h.rd.set 2 _).congr (fun i hi => ?_), h.dec.setOther (by show R + 1 ≠ R; omega) _, ⟨cur, by rw [Below.heap_setCell _ _ _ _ (by exact hne)]; exact h1, h2, h3⟩, h.hbb, fun k hk hn => ?_, h.end_⟩
  · unfold rf
    by_cases e : i = 2
    · subst e; simp
    · simp only [if_neg e]
      split
      · rfl
      · split
        · rfl
        · omega
  · rw [Below.heap_setCell _ _ _ _ (by show k ≠ R; omega)]
    exact h.fix k hk hn

/-- A chunk has been read. -/
theorem RS.hit (h : RS w0 w1 P0 S0 R nc np L B w q m m calls eof bb c) (hF : Fx w0 w1 P0 S0 R nc np L Cb B ea) (hq : q < nc) (hbb : R + 1 < bb) (he : eof = false) (hroom : m + L q ≤ c) {w2 : World} {cur : List Value}
    (hb : Below bb (w.setCell ⟨R, 1, none⟩ (.int .i64 ((q : Nat) + 1 : Nat))) w2) (hcur : w.heap[bb]? = some (.cells cur.toArray 5 (0, 0))) (hw2 : w2.heap[bb]? = some (.cells (splice cur m (chL np L B q)).toArray 5 (0, 0))) :
    RS w0 w1 P0 S0 R nc np L B w2 (q + 1) m (ps np L (q + 1)) calls eof bb c := by
  obtain ⟨cur', h1, h2, h3⟩ := h.buf
  rw [hcur] at h1
  simp only [Option.some.injEq, Obj.cells.injEq, and_true] at h1
  have h1' : cur = cur' := by simpa using h1
  subst h1'
  have hp := hF.p0R
  have hp0 := hF.p0
  have hm := h.hmb
  have e1 : ps np L (q + 1) = m + L q := by rw [hm]; rfl
  have hrd := (h.rd.set 1 (.int .i64 ((q : Nat) + 1 : Nat))).of_block (hb.block R (by omega))
  refine ⟨(h.below.setCell (by show w0.heap.size ≤ R; omega) _).trans (hb.mono (by omega)), by omega, rfl, by omega, by omega, h.hc, hrd.congr (fun i _ => ?_), (h.dec.setOther (by show R + 1 ≠ R; omega) _).of_block (hb.block (R + 1) hbb), ⟨_, hw2, ?_, fun j hj => ?_⟩, .inr hbb, fun k hk hn => ?_, fun e => by rw [he] at e; simp at e⟩
  · unfold rf
    by_cases e : i = 1
    · subst e; simp
    · simp only [if_neg e]
  · rw [length_splice _ _ _ (by rw [chL_len]; omega)]; exact h2
  · by_cases e : j < m
    · rw [splice_lo e (by omega)]
      exact h3 j e
    · rw [splice_in (by omega) (by rw [chL_len]; omega) (by omega), chL_get _ _ _ _ _ (by omega), ← hm, show m + (j - m) = j by omega]
  · rw [hb.block k (by omega), Below.heap_setCell _ _ _ _ (by show k ≠ R; omega)]
    exact h.fix k hk hn

/-- The first m bytes. -/
def blL (B : Nat → Int) (m : Nat) : List Value := (List.range m).map fun j => .int .u8 (B j)
theorem blL_len (B : Nat → Int) (m : Nat) : (blL B m).length = m := by simp [blL]
theorem blL_get (B : Nat → Int) (m j : Nat) (hj : j < m) : (blL B m)[j]? = some (.int .u8 (B j)) := by simp [blL, hj]
theorem blL_one (B : Nat → Int) (m : Nat) : ∀ v ∈ blL B m, v.oneCell' = true := by
  intro v hv
  simp only [blL, List.mem_map] at hv
  obtain ⟨i, _, rfl⟩ := hv
  rfl

/-- The decoder's row has been laid anew. -/
theorem RS.grow (h : RS w0 w1 P0 S0 R nc np L B w q m m calls false bb c) (hF : Fx w0 w1 P0 S0 R nc np L Cb B ea) {w2 : World} {c' : Nat} {cur : List Value} (hl : cur.length = c') (hmc' : m ≤ c') (hc' : c' ≤ 300000)
    (hb : Below w.heap.size w w2) (hw2 : w2.heap[w.heap.size]? = some (.cells (splice cur 0 (blL B m)).toArray 5 (0, 0))) :
    RS w0 w1 P0 S0 R nc np L B (w2.setCell ⟨R + 1, 0, none⟩ (.slice (some ⟨w.heap.size, 0, none⟩) m c')) q m m calls false w.heap.size c' ∧ R + 1 < w.heap.size := by
  have hp := hF.p0R
  have hp0 := hF.p0
  have hlt := h.dec.lt
  have hlt2 := h.rd.lt
  refine ⟨⟨(h.below.trans (hb.mono h.below.size)).setCell (by show w0.heap.size ≤ R + 1; omega) _, h.hq, h.hmb, h.hm, hmc', hc', (h.rd.of_block (hb.block _ hlt2)).setOther (by show R ≠ R + 1; omega) _, ((h.dec.of_block (hb.block _ hlt)).set 0 _).congr (fun i _ => ?_), ⟨_, by rw [Below.heap_setCell _ _ _ _ (by show w.heap.size ≠ R + 1; omega)]; exact hw2, ?_, fun j hj => ?_⟩, .inr hlt, fun k hk hn => ?_, h.end_⟩, hlt⟩
  · unfold df
    by_cases e : i = 0
    · simp [e]
    · simp only [if_neg e]
  · rw [length_splice _ _ _ (by rw [blL_len]; omega)]; exact hl
  · rw [splice_in (by omega) (by rw [blL_len]; omega) (by omega), Nat.sub_zero, blL_get _ _ _ hj]
  · rw [Below.heap_setCell _ _ _ _ (by show k ≠ R + 1; omega), hb.block k (by omega)]
    exact h.fix k hk hn

/-- The decoder says how many bytes it has now. -/
theorem RS.said (h : RS w0 w1 P0 S0 R nc np L B w q m mb calls eof bb c) (hF : Fx w0 w1 P0 S0 R nc np L Cb B ea) (he : eof = false) : RS w0 w1 P0 S0 R nc np L B (w.setCell ⟨R + 1, 0, none⟩ (.slice (some ⟨bb, 0, none⟩) mb c)) q mb mb calls eof bb c := by
  have hp := hF.p0R
  have hp0 := hF.p0
  obtain ⟨cur, h1, h2, h3⟩ := h.buf
  have hne : bb ≠ R + 1 := by rcases h.hbb with e | e <;> omega
  refine ⟨h.below.setCell (by show w0.heap.size ≤ R + 1; omega) _, h.hq, h.hmb, Nat.le_refl _, h.hmc, h.hc, h.rd.setOther (by show R ≠ R + 1; omega) _, (h.dec.set 0 _).congr (fun i _ => ?_), ⟨cur, by rw [Below.heap_setCell _ _ _ _ (by exact hne)]; exact h1, h2, h3⟩, h.hbb, fun k hk hn => ?_, fun e => by rw [he] at e; simp at e⟩
  · unfold df
    by_cases e : i = 0
    · simp [e]
    · simp only [if_neg e]
  · rw [Below.heap_setCell _ _ _ _ (by show k ≠ R + 1; omega)]
    exact h.fix k hk hn

/-- The decoder has seen the end. -/
theorem RS.ended (h : RS w0 w1 P0 S0 R nc np L B w nc m m calls eof bb c) (hF : Fx w0 w1 P0 S0 R nc np L Cb B ea) : RS w0 w1 P0 S0 R nc np L B (w.setCell ⟨R + 1, 3, none⟩ (.bool true)) nc m m calls true bb c := by
  have hp := hF.p0R
  have hp0 := hF.p0
  obtain ⟨cur, h1, h2, h3⟩ := h.buf
  have hne : bb ≠ R + 1 := by rcases h.hbb with e | e <;> omega
  refine ⟨h.below.setCell (by show w0.heap.size ≤ R + 1; omega) _, h.hq, h.hmb, Nat.le_refl _, h.hmc, h.hc, h.rd.setOther (by show R ≠ R + 1; omega) _, (h.dec.set 3 _).congr (fun i _ => ?_), ⟨cur, by rw [Below.heap_setCell _ _ _ _ (by exact hne)]; exact h1, h2, h3⟩, h.hbb, fun k hk hn => ?_, fun _ => ⟨rfl, rfl⟩⟩
  · unfold df
    by_cases e : i = 3
    · subst e; simp
    · simp only [if_neg e]
  · rw [Below.heap_setCell _ _ _ _ (by show k ≠ R + 1; omega)]
    exact h.fix k hk hn
end
end Go.Proofs.YbulkefuDoor
