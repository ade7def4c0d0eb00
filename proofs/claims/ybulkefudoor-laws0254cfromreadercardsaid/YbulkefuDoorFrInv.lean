/-
  LawS0254CFromReader: what lies in memory while it builds. No walk.
-/
import Derived.Test.YbulkefuDoorRdInv
import Derived.Maps.AppendAt
namespace Go.Proofs.YbulkefuDoor
open Go.RowKit

/-- An append of bytes onto a row of one's own, of none too. -/
theorem app22 {w : World} {ops : Array Oper} {rest : List Oper} {o : Oper} {a : Act} {Q : Exit → Act → World → Prop} (hgd : o.guard = none) (s x : Operand)
    (ho : o.op = .call { callee := .builtin .append, args := #[s, x], argTypes := #[22, 22] }) (base g0 n c0 : Nat) (xs : List Value) (hs : a.eval s = .slice (some ⟨g0, 0, none⟩) n c0) (hown : w.ownsRow base 5 1 (.slice (some ⟨g0, 0, none⟩) n c0) n xs)
    (b m c : Nat) (news : List Value) (hx : a.eval x = .slice (some ⟨b, 0, none⟩) m c) (hl : news.length = m) (hnews : ∀ j u, news[j]? = some u → w.cell? ⟨b, j, none⟩ = some u) (h1 : ∀ u ∈ news, u.oneCell' = true)
    (hb : n + m ≤ 1000000) (hbase : base ≤ w.heap.size)
    (h : ∀ g cap w', w'.ownsRow base 5 1 (.slice (some ⟨g, 0, none⟩) (n + m) cap) (n + m) (xs ++ news) → w.grownBy w' (some g0) → (g = g0 ∨ g = w.heap.size) → wpList Ybad.prog ops Q rest (a.put o.dst (.slice (some ⟨g, 0, none⟩) (n + m) cap)) w') : wpList Ybad.prog ops Q (o :: rest) a w := by
  refine wpList_plain hgd fun K hK => ?_
  obtain ⟨i, hi, hz, hsz, hby⟩ := info_parts Ybad.info5
  obtain ⟨v', w', hr, h2, h3, h4, h5⟩ := run_append_own_at (P := Ybad.prog) w base 22 o.type 5 i (.int .u8 0) 1 1 Ybad.underlying22 hi hz hsz hby rfl (by decide) _ n xs hown ⟨b, 0, none⟩ m c news (by omega)
    (fun j u hu => by rw [show (⟨b, 0, none⟩ : Addr).add j = ⟨b, j, none⟩ by unfold Addr.add; split <;> simp_all]; exact hnews j u hu) h1 (by unfold maxLen; omega) (by omega) hbase
  rcases h2.2 with ⟨hn, _⟩ | ⟨g, cap, cur, hv, _⟩
  · have := (h4.1 hn).1; simp at this
  · subst hv
    unfold Oper.wp execOp
    simp only [ho, resolve, invoke, builtin, Sem.run_bind, Sem.run_pure, Result.andThen_ok, List.map_toArray, List.map_cons, List.map_nil, hs, hx, hr]
    refine hK _ _ (h g cap w' h2 h3 ?_)
    rcases h5 with h5 | h5
    · left; simpa [Value.ownBlock] using h5
    · right; simpa [Value.ownBlock] using h5

/-- The leading bytes and the first k chunks. -/
def wl (np : Nat) (Zp : Nat → Int) (L : Nat → Nat) (Z : Nat → Nat → Int) : Nat → List Int
  | 0 => (List.range np).map fun j => mp (Zp j)
  | k + 1 => wl np Zp L Z k ++ (List.range (L k)).map fun j => mp (Z k j)

theorem wl_len (np : Nat) (Zp : Nat → Int) (L : Nat → Nat) (Z : Nat → Nat → Int) : ∀ k, (wl np Zp L Z k).length = ps np L k := by
  intro k
  induction k with
  | zero => simp [wl, ps]
  | succ k ih => simp [wl, ps, ih]

theorem wl_pre (np : Nat) (Zp : Nat → Int) (L : Nat → Nat) (Z : Nat → Nat → Int) (k j : Nat) (hj : j < ps np L k) : ∀ n, k ≤ n → (wl np Zp L Z n)[j]? = (wl np Zp L Z k)[j]? := by
  intro n
  induction n with
  | zero => intro h; obtain rfl : k = 0 := by omega
            rfl
  | succ n ih =>
    intro h
    by_cases e : k = n + 1
    · rw [e]
    · have h1 := ih (by omega)
      have h2 : ps np L k ≤ ps np L n := ps_mono np L (by omega)
      simp only [wl]
      rw [List.getElem?_append_left (by rw [wl_len]; omega), h1]

/-- The whole, byte by byte. -/
def wb (np : Nat) (Zp : Nat → Int) (L : Nat → Nat) (Z : Nat → Nat → Int) (nc j : Nat) : Int := ((wl np Zp L Z nc)[j]?).getD 0

theorem wb_pre (np : Nat) (Zp : Nat → Int) (L : Nat → Nat) (Z : Nat → Nat → Int) (nc j : Nat) (hj : j < np) : wb np Zp L Z nc j = mp (Zp j) := by
  unfold wb
  rw [wl_pre np Zp L Z 0 j hj nc (Nat.zero_le _)]
  simp [wl, hj]

theorem wb_ch (np : Nat) (Zp : Nat → Int) (L : Nat → Nat) (Z : Nat → Nat → Int) (nc k j : Nat) (hk : k < nc) (hj : j < L k) : wb np Zp L Z nc (ps np L k + j) = mp (Z k j) := by
  unfold wb
  rw [wl_pre np Zp L Z (k + 1) _ (by simp [ps]; omega) nc (by omega)]
  simp only [wl]
  rw [List.getElem?_append_right (by rw [wl_len]; omega), wl_len, show ps np L k + j - ps np L k = j by omega]
  simp [hj]

theorem wb_rng (np : Nat) (Zp : Nat → Int) (L : Nat → Nat) (Z : Nat → Nat → Int) : ∀ k, ∀ z ∈ wl np Zp L Z k, 0 ≤ z ∧ z < 256 := by
  intro k
  induction k with
  | zero =>
    intro z hz
    simp only [wl, List.mem_map] at hz
    obtain ⟨_, _, rfl⟩ := hz
    exact mp_rng _
  | succ k ih =>
    intro z hz
    simp only [wl, List.mem_append, List.mem_map] at hz
    rcases hz with hz | ⟨_, _, rfl⟩
    · exact ih z hz
    · exact mp_rng _

/-- kc chunks are mapped, kw are in the whole. -/
structure FI (w wr : World) (np nc S0 : Nat) (Zp : Nat → Int) (L : Nat → Nat) (Z : Nat → Nat → Int) (kc kw : Nat) (Cb : Nat → Nat) (g cap : Nat) : Prop where
  below : Below w.heap.size w wr
  hS : w.heap.size < S0
  pre : wr.rowIs w.heap.size 5 np (fun j => .int .u8 (mp (Zp j)))
  cs : wr.rowIs S0 22 nc (fun r => if r < kc then .slice (some ⟨Cb r, 0, none⟩) (L r) (L r) else .slice none 0 0)
  own : wr.ownsRow (S0 + 1) 5 1 (.slice (some ⟨g, 0, none⟩) (ps np L kw) cap) (ps np L kw) ((wl np Zp L Z kw).map (.int .u8))
  ch : ∀ r, r < kc → wr.rowIs (Cb r) 5 (L r) (fun j => .int .u8 (mp (Z r j)))
  cb : ∀ r, r < kc → S0 < Cb r ∧ Cb r ≠ g

section
variable {w wr : World} {np nc S0 : Nat} {Zp : Nat → Int} {L : Nat → Nat} {Z : Nat → Nat → Int} {kc kw k : Nat} {Cb : Nat → Nat} {g cap : Nat}

theorem FI.lt (h : FI w wr np nc S0 Zp L Z kc kw Cb g cap) : S0 < g ∧ g < wr.heap.size := by
  have := h.own.lt g rfl
  omega

/-- A chunk is mapped, its slice stored. -/
theorem FI.map (h : FI w wr np nc S0 Zp L Z k kw Cb g cap) (hk : k < nc) {w2 : World} (hM : Mp wr w2 (L k) (Z k) (L k)) :
    FI w (w2.setCell ⟨S0, k, none⟩ (.slice (some ⟨wr.heap.size, 0, none⟩) (L k) (L k))) np nc S0 Zp L Z (k + 1) kw (fun r => if r = k then wr.heap.size else Cb r) g cap := by
  have hb := hM.below
  have hS := h.hS
  have hg := h.lt
  have hgr : wr.grownBy w2 none := ⟨hb.os, hb.tape, hb.output, hb.size, fun k hk _ => hb.block k hk⟩
  refine ⟨(h.below.trans (hb.mono h.below.size)).setCell (by show w.heap.size ≤ S0; omega) _, h.hS, (h.pre.of_block (hb.block _ h.pre.lt)).setOther (by show w.heap.size ≠ S0; omega) _, ((h.cs.of_block (hb.block _ h.cs.lt)).set k _).congr (fun r _ => ?_), ownsRow_setCell_below (h.own.kept hgr (.inr (by simp [Value.ownBlock]))) (by show S0 < S0 + 1; omega) _, fun r hr => ?_, fun r hr => ?_⟩
  · by_cases e : r = k
    · subst e; simp
    · simp only [if_neg e]
      by_cases h2 : r < k
      · rw [if_pos h2, if_pos (by omega)]
      · rw [if_neg h2, if_neg (by omega)]
  · by_cases e : r = k
    · subst e
      simp only [if_true]
      exact (hM.row.setOther (by show wr.heap.size ≠ S0; have := h.cs.lt; omega) _).congr (fun j hj => by rw [if_pos hj])
    · simp only [if_neg e]
      have h1 := h.ch r (by omega)
      have h2 := h.cb r (by omega)
      exact (h1.of_block (hb.block _ h1.lt)).setOther (by show Cb r ≠ S0; omega) _
  · by_cases e : r = k
    · subst e
      simp only [if_true]
      omega
    · simp only [if_neg e]
      exact h.cb r (by omega)

/-- The chunk is in the whole. -/
theorem FI.app (h : FI w wr np nc S0 Zp L Z kc k Cb g cap) {w2 : World} {g' cap' : Nat} (hown : w2.ownsRow (S0 + 1) 5 1 (.slice (some ⟨g', 0, none⟩) (ps np L k + L k) cap') (ps np L k + L k) ((wl np Zp L Z k).map (.int .u8) ++ ((List.range (L k)).map fun j => .int .u8 (mp (Z k j))))) (hgr : wr.grownBy w2 (some g)) (hat : g' = g ∨ g' = wr.heap.size) :
    FI w w2 np nc S0 Zp L Z kc (k + 1) Cb g' cap' := by
  have hS := h.hS
  have hg := h.lt
  have hblk : ∀ b, b < wr.heap.size → b ≠ g → w2.heap[b]? = wr.heap[b]? := fun b hb hn => hgr.block b hb (by simpa using hn)
  refine ⟨h.below.trans ⟨hgr.os, hgr.tape, hgr.output, hgr.size, fun b hb => hblk b (Nat.lt_of_lt_of_le hb h.below.size) (by omega)⟩, h.hS, h.pre.of_block (hblk _ h.pre.lt (by omega)), h.cs.of_block (hblk _ h.cs.lt (by omega)), ?_, fun r hr => (h.ch r hr).of_block (hblk _ (h.ch r hr).lt (h.cb r hr).2), fun r hr => ?_⟩
  · have e : (wl np Zp L Z (k + 1)).map (Value.int .u8) = (wl np Zp L Z k).map (.int .u8) ++ ((List.range (L k)).map fun j => .int .u8 (mp (Z k j))) := by
      simp [wl, Function.comp_def]
    rw [e]
    exact hown
  · have h1 := h.cb r hr
    have h2 := (h.ch r hr).lt
    refine ⟨h1.1, ?_⟩
    rcases hat with e | e
    · rw [e]; exact h1.2
    · omega

/-- The start: the leading bytes are mapped, the two slices made, the leading bytes appended. -/
theorem FI.start {w1 w4 : World} (hM : Mp w w1 np Zp np) {g' cap' : Nat} {A B : Array Value} (hA : A.size = nc) (hA2 : ∀ i, i < nc → A[i]? = some (.slice none 0 0))
    (hown : w4.ownsRow (w1.heap.size + 1) 5 1 (.slice (some ⟨g', 0, none⟩) np cap') np ((List.range np).map fun j => .int .u8 (mp (Zp j)))) (hgr : ((w1.alloc (.cells A 22)).alloc (.cells B 5)).grownBy w4 (some (w1.heap.size + 1))) :
    FI w w4 np nc w1.heap.size Zp L Z 0 0 (fun _ => 0) g' cap' := by
  have hb := hM.below
  have hlt := hM.row.lt
  have hsz : ((w1.alloc (.cells A 22)).alloc (.cells B 5)).heap.size = w1.heap.size + 2 := by simp
  have hblk : ∀ b, b < w1.heap.size → w4.heap[b]? = w1.heap[b]? := fun b hb => by
    rw [hgr.block b (by omega) (by simp; omega), Below.heap_alloc _ _ _ (by simp; omega), Below.heap_alloc _ _ _ hb]
  refine ⟨hb.trans ⟨by rw [hgr.os]; rfl, by rw [hgr.tape]; rfl, by rw [hgr.output]; rfl, by have := hgr.size; omega, fun b hb' => hblk b (by omega)⟩, hlt, (hM.row.of_block (hblk _ hlt)).congr (fun j hj => by rw [if_pos hj]), ?_, ?_, fun r hr => absurd hr (Nat.not_lt_zero _), fun r hr => absurd hr (Nat.not_lt_zero _)⟩
  · have h1 := World.rowIs_alloc w1 A 22 (fun r => if r < 0 then .slice (some ⟨0, 0, none⟩) (L r) (L r) else .slice none 0 0) (fun i hi => by rw [hA2 i (by omega), if_neg (Nat.not_lt_zero _)])
    rw [hA] at h1
    exact (h1.alloc (.cells B 5)).of_block (hgr.block _ (by omega) (by simp))
  · simpa [wl, ps, Function.comp_def] using hown
end
end Go.Proofs.YbulkefuDoor
