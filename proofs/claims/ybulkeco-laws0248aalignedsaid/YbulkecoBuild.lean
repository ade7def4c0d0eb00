/-
  The walk of zzs0248abuild.
-/
import Derived.Test.YbulkecoBuildInv
namespace Go.Proofs.Ybulkeco
open Go.RowKit

theorem Yba.info5 : (Yba.prog.info? 5).map (fun i => (i.zero, i.size, i.bytes)) = some (some (.int .u8 0), 1, 1) := by kernel_rfl
theorem Yba.info35 : (Yba.prog.info? 35).map (fun i => (i.zero, i.size, i.bytes)) = some (some (.agg #[.int .i64 0, .int .i64 0]), 2, 16) := by kernel_rfl
theorem Yba.info72 : (Yba.prog.info? 72).map (fun i => (i.zero, i.size, i.bytes)) = some (some (.agg #[.int .i64 0, .slice none 0 0, .bool false]), 3, 40) := by kernel_rfl

theorem make72 (R : Nat) (hR : R ≤ 1024) (w : World) :
    (Instr.makeSlice 25 (.int .i64 R) (.int .i64 R)).run Yba.prog w = .ok (.slice (some ⟨w.heap.size, 0, none⟩) R R) (w.alloc (.cells (madeCells #[.int .i64 0, .slice none 0 0, .bool false] (R * 3)) 72)) := by
  obtain ⟨i, h1, h2, h3, h4⟩ := info_parts Yba.info72
  have h := run_make (P := Yba.prog) w 25 72 i _ Yba.underlying25 h1 h2 .i64 .i64 R R (by omega) (by omega) (by rw [h4]; omega) (by omega)
  rw [h3] at h
  simpa [Value.cells] using h

theorem made_rows (w : World) (R : Nat) (L : Nat → Nat) (Z : Nat → Nat → Int) (pv : Nat → Value) :
    (w.alloc (.cells (madeCells #[.int .i64 0, .slice none 0 0, .bool false] (R * 3)) 72)).rowIs w.heap.size 72 (R * 3) (rowCells L Z pv 0) := by
  have h := World.rowIs_alloc w (madeCells #[.int .i64 0, .slice none 0 0, .bool false] (R * 3)) 72 (rowCells L Z pv 0) (fun i hi => ?_)
  · rw [size_madeCells] at h
    exact h
  · rw [size_madeCells] at hi
    simp only [madeCells, rowCells]
    have h3 : i % 3 = 0 ∨ i % 3 = 1 ∨ i % 3 = 2 := by omega
    rcases h3 with h | h | h <;> simp [hi, h]

def slA : Value → Option Addr | .slice a _ _ => a | _ => none
def slC : Value → Nat | .slice _ _ c => c | _ => 0
def slB : Value → Nat | .slice (some a) _ _ => a.block | _ => 0

theorem own_form {w : World} {b : Nat} {e : TypeId} {s : Nat} {v : Value} {n : Nat} {xs : List Value} (h : w.ownsRow b e s v n xs) :
    v = .slice (slA v) n (slC v) ∧ (0 < n → slA v = some ⟨slB v, 0, none⟩) ∧ ∀ j u, xs[j]? = some u → w.cell? ⟨slB v, j, none⟩ = some u := by
  rcases h.2 with ⟨rfl, rfl⟩ | ⟨g, cap, cur, rfl, _, hg, _, _, hsz, htake⟩
  · refine ⟨rfl, fun h => absurd h (Nat.lt_irrefl _), fun j u hj => ?_⟩
    have : xs = [] := List.eq_nil_of_length_eq_zero (by simpa using h.1)
    subst this
    simp at hj
  · refine ⟨rfl, fun _ => rfl, fun j u hj => ?_⟩
    have := h.cells (g := g) rfl j u hj
    have hadd : (⟨g, 0, none⟩ : Addr).add j = ⟨g, j, none⟩ := by unfold Addr.add; split <;> simp_all
    rw [hadd] at this
    exact this

def BuildPost (R : Nat) (L : Nat → Nat) (Z : Nat → Nat → Int) (w : World) (e : Ending) (w' : World) : Prop :=
  ∃ (bf bs n cap : Nat) (pA : Nat → Option Addr) (pb pC : Nat → Nat), e = .returned (.tuple #[.pointer (some ⟨bf, 0, none⟩), .slice (some ⟨w.heap.size, 0, none⟩) R R]) ∧ Below w.heap.size w w' ∧ Ready w' R L Z bf w.heap.size bs n cap pA pb pC

theorem build_done {w wr : World} {R : Nat} {L : Nat → Nat} {Z : Nat → Nat → Int} {ao : Option Addr} {cp : Nat} {pv : Nat → Value} (h : BI w wr R L Z R 0 (Pl.srcTo L Z R) ao cp pv none 0) (F : Array Value)
    (hF : F[1]? = some (.slice ao (Pl.srcTo L Z R).length cp)) :
    BuildPost R L Z w (.returned (.tuple #[.pointer (some ⟨wr.heap.size, 0, none⟩), .slice (some ⟨w.heap.size, 0, none⟩) R R])) (wr.alloc (.cells F 47)) := by
  have h' := h.alloc (.cells F 47)
  obtain ⟨e1, e2, e3⟩ := own_form h'.src
  refine ⟨wr.heap.size, slB (.slice ao (Pl.srcTo L Z R).length cp), _, cp, fun i => slA (pv i), fun i => slB (pv i), fun i => slC (pv i), rfl, h'.below, ⟨fun hR => ?_, rfl, ?_, fun k hk => ?_, fun i hi => ?_, fun i hi => ?_, fun i hi => ?_, fun i hi hl => ?_, fun i j hi hj => ?_, fun i j hi hj => ?_⟩⟩
  · have hpos : 0 < (Pl.srcTo L Z R).length := by
      cases R with
      | zero => omega
      | succ R => simp only [Pl.srcTo, List.length_append, List.length_cons]; omega
    have := e2 hpos
    simp only [slA] at this
    rw [World.cell?_alloc_at _ _ _ _ rfl, hF]
    exact congrArg (fun x => some (Value.slice x (Pl.srcTo L Z R).length cp)) this
  · rcases h'.src.2 with ⟨he, hn⟩ | ⟨g, cap, cur, he, _, _, hle, _⟩
    · omega
    · simp only [Value.slice.injEq] at he
      omega
  · refine e3 k _ ?_
    simp [hk]
  · have := h'.rows.cell (show i * 3 < R * 3 by omega)
    simpa [rowCells, hi, show i * 3 / 3 = i by omega, show i * 3 % 3 = 0 by omega] using this
  · have := h'.rows.cell (show i * 3 + 1 < R * 3 by omega)
    rw [← (own_form (h'.pads i hi)).1]
    simpa [rowCells, hi, show (i * 3 + 1) / 3 = i by omega, show (i * 3 + 1) % 3 = 1 by omega] using this
  · have := h'.rows.cell (show i * 3 + 2 < R * 3 by omega)
    simpa [rowCells, hi, show (i * 3 + 2) / 3 = i by omega, show (i * 3 + 2) % 3 = 2 by omega] using this
  · exact (own_form (h'.pads i hi)).2.1 hl
  · exact (own_form (h'.pads i hi)).2.2 _ _ (padTo_get L Z i (L i) j hj).1
  · exact (own_form (h'.pads i hi)).2.2 _ _ (padTo_get L Z i (L i) j hj).2

theorem pad_list {n p : Nat} (h : n = p) : [Value.int .i64 (n : Int), .int .i64 ((n : Int) + 1)] = [.int .i64 (p : Int), .int .i64 ((p + 1 : Nat) : Int)] := by subst h; simp

def rowSrc (L : Nat → Nat) (Z : Nat → Nat → Int) (k j : Nat) : List Int := Pl.srcTo L Z k ++ Pl.rowTo (Z k) j
def segSrc (L : Nat → Nat) (Z : Nat → Nat → Int) (k j q : Nat) : List Int := rowSrc L Z k j ++ Pl.segTo (Z k j) q
theorem rowSrc_zero (L : Nat → Nat) (Z : Nat → Nat → Int) (k : Nat) : rowSrc L Z k 0 = Pl.srcTo L Z k := by simp [rowSrc, Pl.rowTo]
theorem segSrc_zero (L : Nat → Nat) (Z : Nat → Nat → Int) (k j : Nat) : segSrc L Z k j 0 = rowSrc L Z k j := by simp [segSrc, Pl.segTo]
theorem segSrc_pos (L : Nat → Nat) (Z : Nat → Nat → Int) (k j : Nat) : (segSrc L Z k j (Pl.wd (Z k j))).length = Pl.pos L Z k j := by
  simp [segSrc, rowSrc, Pl.pos, Pl.cellAt, Pl.start, Pl.seg]
  omega
theorem segSrc_len (L : Nat → Nat) (Z : Nat → Nat → Int) (R k j q : Nat) (hR : R ≤ 1024) (hL : ∀ i, i < R → L i ≤ 1024) (hk : k < R) (hj : j ≤ L k) (hq : q ≤ 4) : (segSrc L Z k j q).length ≤ 10000000 := by
  have h1 := Pl.srcTo_len L Z R hL k (by omega)
  have h2 := Pl.rowTo_len (Z k) j
  have h3 := Pl.segTo_len (Z k j) q
  have h4 := hL k hk
  simp only [segSrc, rowSrc, List.length_append]
  omega

set_option maxHeartbeats 1600000 in
set_option maxRecDepth 100000 in
theorem build_any (a0 : Option Addr) (bm om R cap : Nat) (A : Nat → Option Addr) (L C Ab Ao : Nat → Nat) (Z : Nat → Nat → Int) (w : World) (hR : R ≤ 1024) (hL : ∀ i, i < R → L i ≤ 1024)
    (ha : 0 < R → a0 = some ⟨bm, om, none⟩)
    (hrow : ∀ r, r < R → w.cell? ⟨bm, om + r, none⟩ = some (.slice (A r) (L r) (C r)))
    (hA : ∀ r, r < R → ∀ c, c < L r → A r = some ⟨Ab r, Ao r, none⟩ ∧ w.cell? ⟨Ab r, Ao r + c, none⟩ = some (.int .u8 (Z r c)))
    (hZ : ∀ r c, r < R → c < L r → 0 ≤ Z r c ∧ Z r c < 256) :
    Calls Yba.prog 7 #[.slice a0 R cap] w (BuildPost R L Z w) := by
  obtain ⟨i5, hi5, hz5, hs5, hb5⟩ := info_parts Yba.info5
  obtain ⟨i35, hi35, hz35, hs35, hb35⟩ := info_parts Yba.info35
  have hmk := make72 R hR
  have h0 : BI w (w.alloc (.cells (madeCells #[.int .i64 0, .slice none 0 0, .bool false] (R * 3)) 72)) R L Z 0 0 (Pl.srcTo L Z 0) none 0 (fun _ => .slice none 0 0) none 0 :=
    ⟨(Below.refl _ _).alloc (Nat.le_refl _) _, made_rows w R L Z _, World.ownsRow_nil _ _ _ _, fun i hi => absurd hi (Nat.not_lt_zero _), World.ownsRow_nil _ _ _ _, fun i hi => absurd hi (Nat.not_lt_zero _)⟩
  go_enter Yba.func7, Yba.ntmps7
  go_wp2
  go_loopw [4, 20] (fun v i wr => ∃ (k : Nat) (ao : Option Addr) (cp : Nat) (pv : Nat → Value), k ≤ R ∧ i = .int .i64 k ∧ v = .slice ao (Pl.srcTo L Z k).length cp ∧ BI w wr R L Z k 0 (Pl.srcTo L Z k) ao cp pv none 0) (fun _ i _ => R - (intOf i).toNat)
  case atStart => exact ⟨0, none, 0, _, Nat.zero_le _, rfl, rfl, h0⟩
  case round =>
    clear h0 hmk
    obtain ⟨k, ao, cp, pv, hk, rfl, rfl, hB⟩ := hrel
    have hlen := Pl.srcTo_len L Z R hL k hk
    by_cases hlt : k < R
    · obtain rfl := ha (by omega)
      have hcell := cell_later hB.below (hrow k hlt)
      have hLk := hL k hlt
      have hAk : 0 < L k → A k = some ⟨Ab k, Ao k, none⟩ := fun hh => (hA k hlt 0 hh).1
      have hcz0 : ∀ c, c < L k → w.cell? ⟨Ab k, Ao k + c, none⟩ = some (.int .u8 (Z k c)) := fun c hc => (hA k hlt c hc).2
      generalize A k = ak at hAk hcell
      go_wp2
      go_loopw [4, 9, 29] (fun v p i wr => ∃ (j : Nat) (ao : Option Addr) (cp : Nat) (pa : Option Addr) (pc : Nat), j ≤ L k ∧ i = .int .i64 j ∧ v = .slice ao (rowSrc L Z k j).length cp ∧ p = .slice pa j pc ∧ BI w wr R L Z k j (rowSrc L Z k j) ao cp pv pa pc) (fun _ _ i _ => L k - (intOf i).toNat)
      case atStart => exact ⟨0, ao, cp, none, 0, Nat.zero_le _, rfl, by rw [rowSrc_zero], rfl, by rw [rowSrc_zero]; exact hB⟩
      case round =>
        clear hB hcell
        obtain ⟨j, ao, cp, pa, pc, hj, rfl, rfl, rfl, hB⟩ := hrel
        by_cases hjlt : j < L k
        · obtain rfl := hAk (by omega)
          have hcz := cell_later hB.below (hcz0 j hjlt)
          have hzb := hZ k j hlt hjlt
          have hzw : Z k j % 5 = ((Pl.wd (Z k j) : Nat) : Int) := by unfold Pl.wd; omega
          have hwd := Pl.wd_le (Z k j)
          go_wp2
          go_loopw [4, 13] (fun v i wr => ∃ (q : Nat) (ao : Option Addr) (cp : Nat), q ≤ Pl.wd (Z k j) ∧ i = .int .i64 q ∧ v = .slice ao (segSrc L Z k j q).length cp ∧ BI w wr R L Z k j (segSrc L Z k j q) ao cp pv pa pc) (fun _ i _ => Pl.wd (Z k j) - (intOf i).toNat)
          case atStart => exact ⟨0, ao, cp, Nat.zero_le _, rfl, by rw [segSrc_zero], by rw [segSrc_zero]; exact hB⟩
          case round =>
            clear hB hcz
            obtain ⟨q, ao, cp, hq, rfl, rfl, hB⟩ := hrel
            have hsl := segSrc_len L Z R k j q hR hL hlt hj (by omega)
            by_cases hqlt : q < Pl.wd (Z k j)
            · by_cases hone : Pl.one (Z k j) = true
              · have ho : (Z k j / 5 % 2 == 0) = true := hone
                have HS : Hid ((segSrc L Z k j (q + 1)).map (Value.int .u8) = (segSrc L Z k j q).map (Value.int .u8) ++ [.int .u8 97]) := by simp [Hid, segSrc, Pl.segTo, hone]
                have HL : Hid ((segSrc L Z k j (q + 1)).length = (segSrc L Z k j q).length + 1) := by simp [Hid, segSrc, Pl.segTo, hone]; omega
                clear hone
                go_wp2_with (at_builtin; refine wpList_append_lies _ (by rfl) (.tmp 45) (.tmp 46) 30 (by rfl) (w.heap.size + 1) 5 i5 (.int .u8 0) 1 1 Yba.underlying30 hi5 hz5 hs5 hb5 rfl (by decide) _ _ _ (by rfl) (hB.alloc _).src ⟨wr.heap.size, 0, none⟩ 1 1 [.int .u8 97] (by rfl) (by rfl) (World.news_of_block (heap_alloc_new wr _)) ?c1 ?c2 ?c3 ?c4 ?c5 _ rfl ?_)
                case c1 => intro u hu; simp at hu; subst hu; rfl
                case c2 => decide
                case c3 => unfold maxLen; omega
                case c4 => omega
                case c5 => have := hB.rows.lt; simp; omega
                intro g cap' w1 hown hgrow _ _
                have hB1 := (hB.alloc _).srcApp HS.out HL.out hown hgrow
                clear hB hown hgrow
                go_wp2
                go_roundw
                case rel => exact ⟨q + 1, _, _, by omega, by go_num, by rw [HL.out], hB1⟩
                case measure => simp [intOf]; omega
              · have ho : (Z k j / 5 % 2 == 0) = false := by simpa [Pl.one] using hone
                have HS : Hid ((segSrc L Z k j (q + 1)).map (Value.int .u8) = (segSrc L Z k j q).map (Value.int .u8) ++ [.int .u8 195, .int .u8 169]) := by simp [Hid, segSrc, Pl.segTo, hone]
                have HL : Hid ((segSrc L Z k j (q + 1)).length = (segSrc L Z k j q).length + 2) := by simp [Hid, segSrc, Pl.segTo, hone]; omega
                clear hone
                go_wp2_with (at_builtin; refine wpList_append_lies _ (by rfl) (.tmp 48) (.tmp 49) 30 (by rfl) (w.heap.size + 1) 5 i5 (.int .u8 0) 1 1 Yba.underlying30 hi5 hz5 hs5 hb5 rfl (by decide) _ _ _ (by rfl) (hB.alloc _).src ⟨wr.heap.size, 0, none⟩ 2 2 [.int .u8 195, .int .u8 169] (by rfl) (by rfl) (World.news_of_block (heap_alloc_new wr _)) ?c1 ?c2 ?c3 ?c4 ?c5 _ rfl ?_)
                case c1 =>
                  intro u hu
                  simp at hu
                  rcases hu with rfl | rfl <;> rfl
                case c2 => decide
                case c3 => unfold maxLen; omega
                case c4 => omega
                case c5 => have := hB.rows.lt; simp; omega
                intro g cap' w1 hown hgrow _ _
                have hB1 := (hB.alloc _).srcApp HS.out HL.out hown hgrow
                clear hB hown hgrow
                go_wp2
                go_roundw
                case rel => exact ⟨q + 1, _, _, by omega, by go_num, by rw [HL.out], hB1⟩
                case measure => simp [intOf]; omega
            · obtain rfl : q = Pl.wd (Z k j) := by omega
              have hps := segSrc_pos L Z k j
              have HS : Hid ((rowSrc L Z k (j + 1)).map (Value.int .u8) = (segSrc L Z k j (Pl.wd (Z k j))).map (Value.int .u8) ++ [.int .u8 32]) := by simp [Hid, segSrc, rowSrc, Pl.rowTo, Pl.seg]
              have HL : Hid ((rowSrc L Z k (j + 1)).length = (segSrc L Z k j (Pl.wd (Z k j))).length + 1) := by simp [Hid, segSrc, rowSrc, Pl.rowTo, Pl.seg]; omega
              have HP : Hid ((segSrc L Z k j (Pl.wd (Z k j))).length = Pl.pos L Z k j) := hps
              clear hps
              go_wp2_with (first
                | (at_builtin; refine wpList_append_lies _ (by rfl) (.tmp 53) (.tmp 54) 30 (by rfl) (w.heap.size + 1) 5 i5 (.int .u8 0) 1 1 Yba.underlying30 hi5 hz5 hs5 hb5 rfl (by decide) _ _ _ (by rfl) (hB.alloc _).src ⟨wr.heap.size, 0, none⟩ 1 1 [.int .u8 32] (by rfl) (by rfl) (World.news_of_block (heap_alloc_new wr _)) ?c1 ?c2 ?c3 ?c4 ?c5 _ rfl ?_))
              case c1 => intro u hu; simp at hu; subst hu; rfl
              case c2 => decide
              case c3 => unfold maxLen; omega
              case c4 => omega
              case c5 => have := hB.rows.lt; simp; omega
              intro g cap' w1 hown hgrow _ _
              have hB1 := (hB.alloc _).srcApp HS.out HL.out hown hgrow
              clear hB hown hgrow
              go_wp2_with (first
                | (at_builtin; refine wpList_append_lies _ (by rfl) (.tmp 56) (.tmp 61) 33 (by rfl) (w.heap.size + 1) 35 i35 (.agg #[.int .i64 0, .int .i64 0]) 2 16 Yba.underlying33 hi35 hz35 hs35 hb35 rfl (by decide) _ _ _ (by rfl) (hB1.alloc _).cur ⟨w1.heap.size, 0, none⟩ 1 1 [.int .i64 ((segSrc L Z k j (Pl.wd (Z k j))).length : Nat), .int .i64 (((segSrc L Z k j (Pl.wd (Z k j))).length : Nat) + 1)] (by rfl) (by rfl) (World.news_of_block (heap_alloc_new w1 _)) ?d1 ?d2 ?d3 ?d4 ?d5 _ rfl ?_))
              case d1 =>
                intro u hu
                simp at hu
                rcases hu with rfl | rfl <;> rfl
              case d2 => decide
              case d3 => unfold maxLen; omega
              case d4 => omega
              case d5 => have := hB1.rows.lt; simp; omega
              intro g2 cap2 w2 hown2 hgrow2 hat2 _
              rw [pad_list HP.out] at hown2
              have hB2 := (hB1.alloc _).padApp (by simp) hown2 hgrow2 hat2
              clear hB1 hown2 hgrow2 hat2
              go_wp2
              go_roundw
              case rel => exact ⟨j + 1, _, _, _, _, by omega, by go_num, by rw [HL.out], rfl, hB2⟩
              case measure => simp [intOf]; omega
        · obtain rfl : j = L k := by omega
          have hrl := segSrc_len L Z R k (L k) 0 hR hL hlt (Nat.le_refl _) (by omega)
          rw [segSrc_zero] at hrl
          have HS : Hid ((Pl.srcTo L Z (k + 1)).map (Value.int .u8) = (rowSrc L Z k (L k)).map (Value.int .u8) ++ [.int .u8 10]) := by simp [Hid, rowSrc, Pl.srcTo]
          have HL : Hid ((Pl.srcTo L Z (k + 1)).length = (rowSrc L Z k (L k)).length + 1) := by simp [Hid, rowSrc, Pl.srcTo]; omega
          go_wp2_with (at_builtin; refine wpList_append_lies _ (by rfl) (.tmp 64) (.tmp 65) 30 (by rfl) (w.heap.size + 1) 5 i5 (.int .u8 0) 1 1 Yba.underlying30 hi5 hz5 hs5 hb5 rfl (by decide) _ _ _ (by rfl) (hB.alloc _).src ⟨wr.heap.size, 0, none⟩ 1 1 [.int .u8 10] (by rfl) (by rfl) (World.news_of_block (heap_alloc_new wr _)) ?c1 ?c2 ?c3 ?c4 ?c5 _ rfl ?_)
          case c1 => intro u hu; simp at hu; subst hu; rfl
          case c2 => decide
          case c3 => unfold maxLen; omega
          case c4 => omega
          case c5 => have := hB.rows.lt; simp; omega
          intro g cap' w1 hown hgrow _ _
          have hB1 := (hB.alloc _).srcApp HS.out HL.out hown hgrow
          clear hB hown hgrow
          have r0 := hB1.rows.cell (show k * 3 < R * 3 by omega)
          have r1 := hB1.rows.cell (show k * 3 + 1 < R * 3 by omega)
          have r2 := hB1.rows.cell (show k * 3 + 2 < R * 3 by omega)
          have f0 := hB1.rows.frozen (k * 3)
          have f1 := hB1.rows.frozen (k * 3 + 1)
          have f2 := hB1.rows.frozen (k * 3 + 2)
          go_wp2
          go_roundw
          case rel => exact ⟨k + 1, _, _, _, by omega, by go_num, by rw [HL.out], hB1.rowEnd hlt⟩
          case measure => simp [intOf]; omega
    · obtain rfl : R = k := by omega
      go_wp2
      go_ret2
      exact build_done hB _ rfl

end Go.Proofs.Ybulkeco
