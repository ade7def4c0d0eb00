/-
  The walk of meet.
-/
import Derived.Test.YbulkeeeMeetInv
import Derived.Deep.RegionHeld3
import Derived.Deep.DrawnRows
import Derived.Deep.RegionLaw
namespace Go.Proofs.Ybulkeee
open Go.RowKit
open Pm
attribute [local go_sem ↓] Go.wp_at_zero Go.wp_at_succ

/-- The ids of the first p entries of l that r lists too. -/
def res (l r : List Nat) (p : Nat) : List Nat := (l.take p).filter (fun x => decide (x ∈ r))

theorem res_len (l r : List Nat) (p : Nat) : (res l r p).length ≤ p := by
  unfold res
  have h1 := List.length_filter_le (fun x => decide (x ∈ r)) (l.take p)
  have h2 := List.length_take_le p l
  omega

theorem res_hit {l r : List Nat} {p x : Nat} (hp : l[p]? = some x) (hx : x ∈ r) : res l r (p + 1) = res l r p ++ [x] := by
  unfold res
  have hlt := (List.getElem?_eq_some_iff.1 hp).1
  rw [List.take_succ_eq_append_getElem hlt, List.filter_append]
  have e : l[p] = x := by simpa [hlt] using hp
  simp [e, hx]

theorem res_miss {l r : List Nat} {p x : Nat} (hp : l[p]? = some x) (hx : x ∉ r) : res l r (p + 1) = res l r p := by
  unfold res
  have hlt := (List.getElem?_eq_some_iff.1 hp).1
  rw [List.take_succ_eq_append_getElem hlt, List.filter_append]
  have e : l[p] = x := by simpa [hlt] using hp
  simp [e, hx]

/-- The entries before j are less than all of l from p on. -/
def Past (l r : List Nat) (p j : Nat) : Prop := ∀ q y p' x, q < j → r[q]? = some y → p ≤ p' → l[p']? = some x → y < x

/-- The entries before j are less than x. -/
def Less (r : List Nat) (x j : Nat) : Prop := ∀ q y, q < j → r[q]? = some y → y < x

theorem keepS {wE wA w1 : World} (h : Below wE.heap.size wE wA) (hb : Below wA.heap.size wA w1) : Below wE.heap.size wE w1 := h.trans (hb.mono h.size)

theorem S_all {wE w' : World} {a0 a1 a2 a3 a4 a5 : Addr} {v0 v1 v2 v3 v4 v5 : Value} (h0 : wE.cell? a0 = some v0) (h1 : wE.cell? a1 = some v1) (h2 : wE.cell? a2 = some v2) (h3 : wE.cell? a3 = some v3) (h4 : wE.cell? a4 = some v4) (h5 : wE.cell? a5 = some v5) (hb : Below wE.heap.size wE w') :
    w'.cell? a0 = some v0 ∧ w'.cell? a1 = some v1 ∧ w'.cell? a2 = some v2 ∧ w'.cell? a3 = some v3 ∧ w'.cell? a4 = some v4 ∧ w'.cell? a5 = some v5 ∧ Below wE.heap.size wE w' :=
  ⟨cell_later hb h0, cell_later hb h1, cell_later hb h2, cell_later hb h3, cell_later hb h4, cell_later hb h5, hb⟩

/-- The smaller of the two. -/
def mn (a b : Int) : Int := if b < a then b else a

theorem keep9 {w : World} {obj : Obj} {d o : Nat} {vs : List Value} {a0 a1 a2 : Addr} {v0 v1 v2 : Value} (h0 : w.cell? a0 = some v0) (h1 : w.cell? a1 = some v1) (h2 : w.cell? a2 = some v2) (n0 : a0.block ≠ d) (n1 : a1.block ≠ d) (n2 : a2.block ≠ d) :
    ((w.alloc obj).drew.setCells d o vs).cell? a0 = some v0 ∧ ((w.alloc obj).drew.setCells d o vs).cell? a1 = some v1 ∧ ((w.alloc obj).drew.setCells d o vs).cell? a2 = some v2 := by
  have hb : Below w.heap.size w (w.alloc obj).drew := ((Below.refl _ _).alloc (Nat.le_refl _) _).drew
  exact ⟨(World.cell?_setCells_out d vs o _ a0 (fun e => absurd e n0)).trans (cell_later hb h0), (World.cell?_setCells_out d vs o _ a1 (fun e => absurd e n1)).trans (cell_later hb h1), (World.cell?_setCells_out d vs o _ a2 (fun e => absurd e n2)).trans (cell_later hb h2)⟩

theorem setCells_two (w : World) (d o : Nat) (a b : Value) : w.setCells d (0 + o) [a, b] = (w.setCell ⟨d, o, none⟩ a).setCell ⟨d, o + 1, none⟩ b := by rw [Nat.zero_add]; rfl

theorem room_two {w : World} {d o q : Nat} {ob : Obj} (hd : d < w.heap.size) (s0 : (w.cell? ⟨d, q, none⟩).isSome = true ∧ w.frozen? ⟨d, q, none⟩ = false) (s1 : (w.cell? ⟨d, q + 1, none⟩).isSome = true ∧ w.frozen? ⟨d, q + 1, none⟩ = false) (ho : o = 0 + q) :
    ∀ j, j < 2 → ((w.alloc ob).drew.cell? ⟨d, o + j, none⟩).isSome = true ∧ (w.alloc ob).drew.frozen? ⟨d, o + j, none⟩ = false := by
  intro j hj
  rw [Nat.zero_add] at ho
  subst ho
  show ((w.alloc ob).cell? ⟨d, o + j, none⟩).isSome = true ∧ (w.alloc ob).frozen? ⟨d, o + j, none⟩ = false
  rw [World.cell?_alloc_past _ _ _ hd, World.frozen?_alloc_past _ _ _ hd]
  match j, hj with
  | 0, _ => exact s0
  | 1, _ => exact s1

theorem Yba.info35 : (Yba.prog.info? 35).map (fun i => (i.zero, i.size, i.bytes)) = some (some (.agg #[.pointer none, .int .u64 0]), 2, 16) := by kernel_rfl

def MeetPost (w : World) (d c : Nat) (f0 : Nat → Value) (kO : Nat → Nat) (v : Nat → Int) (m : List Nat) (e : Ending) (w' : World) : Prop :=
  e = .returned (.slice (some ⟨d, 0, none⟩) m.length c) ∧ MI w w' d c f0 (ents kO v m) m.length

theorem meet_hit {w w6 : World} {d c : Nat} {f0 : Nat → Value} {kO : Nat → Nat} {vO vB : Nat → Int} {l r : List Nat} {p y : Nat} {obj : Obj} (hp : l[p]? = some y) (hy : y ∈ r)
    (h : MI w w6 d c f0 (ents kO (fun x => mn (vO x) (vB x)) (res l r p)) (res l r p).length) :
    MI w ((w6.alloc obj).drew.setCells d (0 + (res l r p).length * 2) [.pointer (some ⟨kO y, 0, none⟩), .int .u64 (mn (vO y) (vB y))]) d c f0 (ents kO (fun x => mn (vO x) (vB x)) (res l r (p + 1))) (res l r (p + 1)).length := by
  rw [setCells_two, res_hit hp hy, ents_app, List.length_append]
  exact (h.later (((Below.refl _ _).alloc (Nat.le_refl _) _).drew)).store _ _

theorem past_next {l r : List Nat} {p x j : Nat} (hi : Inc l) (hp : l[p]? = some x) (hl : Less r x j) : Past l r (p + 1) j := fun q y p' x' hq hy hp' hx' => by
  have h1 := hl q y hq hy
  have h2 := hi p p' x x' (by omega) hp hx'
  omega

theorem not_in {r : List Nat} {x y j : Nat} (hi : Inc r) (hl : Less r x j) (hj : r[j]? = some y) (hxy : x < y) : x ∉ r := fun hx => by
  obtain ⟨q, hq⟩ := List.getElem?_of_mem hx
  by_cases e : q < j
  · have := hl q x e hq; omega
  · by_cases e2 : q = j
    · subst e2; rw [hq] at hj; simp only [Option.some.injEq] at hj; omega
    · have := hi j q y x (by omega) hj hq; omega

theorem res_same {l r : List Nat} {p : Nat} (h : ∀ p' x, p ≤ p' → l[p']? = some x → x ∉ r) : ∀ k, res l r (p + k) = res l r p := by
  intro k
  induction k with
  | zero => rfl
  | succ k ih =>
    by_cases hlt : p + k < l.length
    · have hg : l[p + k]? = some l[p + k] := by simp [hlt]
      rw [← Nat.add_assoc, res_miss hg (h (p + k) _ (by omega) hg), ih]
    · have e : res l r (p + (k + 1)) = res l r (p + k) := by unfold res; rw [List.take_of_length_le (by omega), List.take_of_length_le (by omega)]
      rw [e, ih]

theorem res_end {l r : List Nat} {p x : Nat} (hi : Inc l) (hp : l[p]? = some x) (hl : Less r x r.length) : res l r l.length = res l r p := by
  have hlt := (List.getElem?_eq_some_iff.1 hp).1
  have h := res_same (l := l) (r := r) (p := p) (fun p' x' hp' hx' hmem => by
    obtain ⟨q, hq⟩ := List.getElem?_of_mem hmem
    have h1 := hl q x' (List.getElem?_eq_some_iff.1 hq).1 hq
    by_cases e : p' = p
    · subst e; rw [hp] at hx'; simp only [Option.some.injEq] at hx'; omega
    · have := hi p p' x x' (by omega) hp hx'; omega) (l.length - p)
  rw [show p + (l.length - p) = l.length by omega] at h
  exact h

set_option maxHeartbeats 3200000 in
set_option maxRecDepth 100000 in
theorem meet_any (d dl c g oc ob n xc : Nat) (xa : Option Addr) (f0 : Nat → Value) (kO kB : Nat → Nat) (vO vB : Nat → Int) (l r : List Nat) (w : World) (h : MIn w d c g ob f0 kO kB vO vB l r) (hl : l.length ≤ 16) (hn : r.length = n) (hn16 : n ≤ 16) (hx : 0 < n → xa = some ⟨ob, 0, none⟩) :
    Calls Yba.prog 6 #[.slice (some ⟨d, 0, none⟩) dl c, .slice (some ⟨g, 0, none⟩) l.length oc, .slice xa n xc] w (MeetPost w d c f0 kO (fun x => mn (vO x) (vB x)) (res l r l.length)) := by
  obtain ⟨i35, hi35, _, hs35, _⟩ := info_parts Yba.info35
  go_enter Yba.func6, Yba.ntmps6
  go_wp2_with fail
  go_loopw [7, 8, 15] (fun kv jv iv wr => ∃ p j : Nat, p ≤ l.length ∧ j ≤ n ∧ iv = .int .i64 p ∧ jv = .int .i64 j ∧ kv = .slice (some ⟨d, 0, none⟩) (res l r p).length c ∧ Past l r p j ∧ MI w wr d c f0 (ents kO (fun x => mn (vO x) (vB x)) (res l r p)) (res l r p).length) (fun _ _ iv _ => l.length - (intOf iv).toNat)
  case atStart => exact ⟨0, 0, Nat.zero_le _, Nat.zero_le _, rfl, rfl, rfl, fun q y p' x hq => absurd hq (Nat.not_lt_zero _), MI.start h⟩
  case round =>
    obtain ⟨p, j, hp, hj, rfl, rfl, rfl, hpast, hM⟩ := hrel
    have hrl := res_len l r p
    by_cases hlt : p < l.length
    · obtain ⟨x, hpx⟩ : ∃ x, l[p]? = some x := ⟨l[p], by simp [hlt]⟩
      have hxl : x ∈ l := List.mem_of_getElem? hpx
      have hx16 := h.ltl x hxl
      obtain ⟨o0, o1⟩ := hM.own h hpx hrl
      have HPX : Hid (l[p]? = some x) := hpx
      clear hpx
      obtain ⟨w1, ew⟩ : ∃ x, x = wr := ⟨_, rfl⟩
      subst ew
      go_wp2_with fail
      have hbE : Below w1.heap.size w1 (w1.alloc (.cells #[.pointer (some ⟨kO x, 0, none⟩), .int .u64 (vO x)] 35)) := (Below.refl _ _).alloc (Nat.le_refl _) _
      have e0 : (w1.alloc (.cells #[.pointer (some ⟨kO x, 0, none⟩), .int .u64 (vO x)] 35)).cell? ⟨w1.heap.size, 0, none⟩ = some (.pointer (some ⟨kO x, 0, none⟩)) := World.cell?_alloc_at _ _ _ _ rfl
      have e1 : (w1.alloc (.cells #[.pointer (some ⟨kO x, 0, none⟩), .int .u64 (vO x)] 35)).cell? ⟨w1.heap.size, 1, none⟩ = some (.int .u64 (vO x)) := World.cell?_alloc_at _ _ _ _ rfl
      generalize w1.alloc (.cells #[.pointer (some ⟨kO x, 0, none⟩), .int .u64 (vO x)] 35) = wE at *
      have hME := hM.later hbE
      have hothE := hME.oth h
      have hkO := hME.keys h h.keyO
      have hkB := hME.keys h h.keyB
      have hdE : d < w1.heap.size := hM.row.lt
      have hEE : w1.heap.size < wE.heap.size := World.block_lt_of_cell? _ _ e0
      clear hM o0 o1 hbE
      generalize w1.heap.size = E at *
      have hkx := hkO x hxl
      have cx : wE.cell? ⟨kO x, 0, none⟩ = some (.string (idS x)) := by rw [cell_of_row wE _ 0 _ 9 (0, 0) hkx]; rfl
      go_loopw [8] (fun jv wi => ∃ j : Nat, j ≤ n ∧ jv = .int .i64 j ∧ Less r x j ∧ Below wE.heap.size wE wi) (fun jv _ => n - (intOf jv).toNat)
      case atStart => exact ⟨j, hj, rfl, fun q y hq hy => hpast q y p x hq hy (Nat.le_refl _) HPX.out, Below.refl _ _⟩
      case round =>
        clear hj hpast
        obtain ⟨j, hj, rfl, hless, hb⟩ := hrel
        by_cases hjn : j < n
        · obtain ⟨y, hjy⟩ : ∃ y, r[j]? = some y := ⟨r[j]'(by omega), by simp [hn, hjn]⟩
          have hyr : y ∈ r := List.mem_of_getElem? hjy
          have hy16 := h.ltr y hyr
          obtain rfl := hx (by omega)
          have hky := hkB y hyr
          have cy : wE.cell? ⟨kB y, 0, none⟩ = some (.string (idS y)) := by rw [cell_of_row wE _ 0 _ 9 (0, 0) hky]; rfl
          have y0 := hothE.c0 j y hjy
          have y1 := hothE.c1 j y hjy
          have HJY : Hid (r[j]? = some y) := hjy
          clear hjy
          have hj0 : (0 : Int) ≤ (j : Int) := by omega
          have hj1 : (j : Int) < (n : Int) := by omega
          have hlss := idS_less hy16 hx16
          have d0 := cell_later hb e0
          have d1 := cell_later hb e1
          have dy0 := cell_later hb y0
          have dy1 := cell_later hb y1
          have dx := cell_later hb cx
          have dy := cell_later hb cy
          by_cases hyx : y < x
          · rw [decide_eq_true hyx] at hlss
            go_wp2_with fail
            go_region_held3 (fun w' => w'.cell? ⟨ob, j * 2, none⟩ = some (.pointer (some ⟨kB y, 0, none⟩)) ∧ w'.cell? ⟨ob, j * 2 + 1, none⟩ = some (.int .u64 (vB y)) ∧ w'.cell? ⟨E, 0, none⟩ = some (.pointer (some ⟨kO x, 0, none⟩)) ∧ w'.cell? ⟨E, 1, none⟩ = some (.int .u64 (vO x)) ∧
                w'.cell? ⟨kB y, 0, none⟩ = some (.string (idS y)) ∧ w'.cell? ⟨kO x, 0, none⟩ = some (.string (idS x)) ∧ Below wE.heap.size wE w')
              (first | exact S_all y0 y1 e0 e1 cy cx hb.drew | exact S_all y0 y1 e0 e1 cy cx (keepS hb.drew hbw) | exact S_all y0 y1 e0 e1 cy cx (keepS (keepS hb.drew hbw) hbw2))
              (first | (go_at_call_of 9 (Value.agg #[.pointer (some ⟨kB y, 0, none⟩), .int .u64 (vB y)]); refine (id_any (kB y) (vB y) (idS y) wr.drew dy).mono ?_; rintro e w2 ⟨rfl, hbw⟩) | (go_at_call_of 9 (Value.agg #[.pointer (some ⟨kO x, 0, none⟩), .int .u64 (vO x)]); refine (id_any (kO x) (vO x) (idS x) w2 (cell_later hbw dx)).mono ?_; rintro e w3 ⟨rfl, hbw2⟩))
            rename_i hHeld
            clear hHeld
            have hb3 := keepS (keepS hb.drew hbw) hbw2
            go_wp2_with fail
            go_roundw
            case rel =>
              refine ⟨j + 1, by omega, by go_num, fun q z hq hz => ?_, hb3⟩
              by_cases e : q = j
              · subst e
                have := HJY.out
                rw [hz] at this
                simp only [Option.some.injEq] at this
                omega
              · exact hless q z (by omega) hz
            case measure => simp [intOf]; omega
          · rw [decide_eq_false hyx] at hlss
            go_wp2_with fail
            go_region_held3 (fun w' => w'.cell? ⟨ob, j * 2, none⟩ = some (.pointer (some ⟨kB y, 0, none⟩)) ∧ w'.cell? ⟨ob, j * 2 + 1, none⟩ = some (.int .u64 (vB y)) ∧ w'.cell? ⟨E, 0, none⟩ = some (.pointer (some ⟨kO x, 0, none⟩)) ∧ w'.cell? ⟨E, 1, none⟩ = some (.int .u64 (vO x)) ∧
                w'.cell? ⟨kB y, 0, none⟩ = some (.string (idS y)) ∧ w'.cell? ⟨kO x, 0, none⟩ = some (.string (idS x)) ∧ Below wE.heap.size wE w')
              (first | exact S_all y0 y1 e0 e1 cy cx hb.drew | exact S_all y0 y1 e0 e1 cy cx (keepS hb.drew hbw) | exact S_all y0 y1 e0 e1 cy cx (keepS (keepS hb.drew hbw) hbw2))
              (first | (go_at_call_of 9 (Value.agg #[.pointer (some ⟨kB y, 0, none⟩), .int .u64 (vB y)]); refine (id_any (kB y) (vB y) (idS y) wr.drew dy).mono ?_; rintro e w2 ⟨rfl, hbw⟩) | (go_at_call_of 9 (Value.agg #[.pointer (some ⟨kO x, 0, none⟩), .int .u64 (vO x)]); refine (id_any (kO x) (vO x) (idS x) w2 (cell_later hbw dx)).mono ?_; rintro e w3 ⟨rfl, hbw2⟩))
            rename_i hHeld
            clear hHeld
            have hb3 := keepS (keepS hb.drew hbw) hbw2
            have hjne : ((j : Int) == (n : Int)) = false := by simp; omega
            clear dy0 dy1 d0 d1 dx dy hbw hbw2 hb
            obtain ⟨w4, ew⟩ : ∃ x, x = w3 := ⟨_, rfl⟩
            subst ew
            go_wp2_with fail
            have hkx4 : w4.heap[kO x]? = some (.cells #[.string (idS x)] 9 (0, 0)) := (hb3.block _ (Array.getElem?_eq_some_iff.1 hkx).1).trans hkx
            have hky4 : w4.heap[kB y]? = some (.cells #[.string (idS y)] 9 (0, 0)) := (hb3.block _ (Array.getElem?_eq_some_iff.1 hky).1).trans hky
            have hsame : kB y = kO x → idS y = idS x := fun e => by
              rw [e, hkx] at hky
              simpa using hky.symm
            have heq := idS_eq hy16 hx16
            have d0 := cell_later hb3 e0
            have d1 := cell_later hb3 e1
            have dy0 := cell_later hb3 y0
            have dy1 := cell_later hb3 y1
            by_cases hyx2 : y = x
            · rw [decide_eq_true hyx2] at heq
              subst hyx2
              go_region_held3 (fun w' => w'.cell? ⟨ob, j * 2, none⟩ = some (.pointer (some ⟨kB y, 0, none⟩)) ∧ w'.cell? ⟨ob, j * 2 + 1, none⟩ = some (.int .u64 (vB y)) ∧ w'.cell? ⟨E, 0, none⟩ = some (.pointer (some ⟨kO y, 0, none⟩)) ∧ w'.cell? ⟨E, 1, none⟩ = some (.int .u64 (vO y)) ∧
                  w'.cell? ⟨kB y, 0, none⟩ = some (.string (idS y)) ∧ w'.cell? ⟨kO y, 0, none⟩ = some (.string (idS y)) ∧ Below wE.heap.size wE w')
                (first | exact S_all y0 y1 e0 e1 cy cx hb3.drew | exact S_all y0 y1 e0 e1 cy cx (keepS hb3.drew hbw))
                (first | (go_at_call 10; refine (same_any (kB y) (kO y) (vB y) (vO y) (idS y) (idS y) 9 9 w4.drew hky4 hkx4 hsame).mono ?_; rintro e w5 ⟨rfl, hbw⟩))
              rename_i hHeld
              clear hHeld
              have hb5 := keepS hb3.drew hbw
              clear d0 d1 dy0 dy1 hkx4 hky4 hbw
              obtain ⟨w6, ew⟩ : ∃ x, x = w5 := ⟨_, rfl⟩
              subst ew
              have hM6 := hME.later hb5
              have hob : ob ≠ d := h.ne (r[0]'(by omega)) (by simp)
              have g0 := cell_later hb5 e0
              have g1 := cell_later hb5 e1
              have gy := cell_later hb5 y1
              have lE : E < w6.heap.size := World.block_lt_of_cell? _ _ g0
              have lo : ob < w6.heap.size := World.block_lt_of_cell? _ _ gy
              have hq : (res l r p).length < c := by have := h.room; omega
              have s0 : (w6.cell? ⟨d, (res l r p).length * 2, none⟩).isSome = true ∧ w6.frozen? ⟨d, (res l r p).length * 2, none⟩ = false := by
                rw [hM6.row.cell (by omega)]; exact ⟨rfl, hM6.row.frozen _⟩
              have s1 : (w6.cell? ⟨d, (res l r p).length * 2 + 1, none⟩).isSome = true ∧ w6.frozen? ⟨d, (res l r p).length * 2 + 1, none⟩ = false := by
                rw [hM6.row.cell (by omega)]; exact ⟨rfl, hM6.row.frozen _⟩
              have hld : d < w6.heap.size := by omega
              have hEd : E ≠ d := by omega
              have hq1 : (res l r p).length + 1 ≤ c := hq
              have HC : Hid (∀ u ∈ [Value.pointer (some ⟨kO y, 0, none⟩), .int .u64 (mn (vO y) (vB y))], u.oneCell' = true) := by
                intro u hu
                simp at hu
                rcases hu with rfl | rfl <;> rfl
              go_wp2_with fail
              go_region_held3 (fun w' => w'.cell? ⟨E, 0, none⟩ = some (.pointer (some ⟨kO y, 0, none⟩)) ∧ w'.cell? ⟨E, 1, none⟩ = some (.int .u64 (vO y)) ∧ w'.cell? ⟨ob, j * 2 + 1, none⟩ = some (.int .u64 (vB y)))
                (first | exact keep9 g0 g1 gy hEd hEd hob | go_keep)
                ((refine step_append_room (by rfl) (.tmp 45) (.tmp 57) 24 (by rfl) 35 i35 2 Yba.underlying24 hi35 hs35 d 0 (res l r p).length c (by rfl) ⟨w6.heap.size, 0, none⟩ 1 1 [.pointer (some ⟨kO y, 0, none⟩), .int .u64 (mn (vO y) (vB y))] (by rfl) (by rfl) (World.news_of_block (heap_alloc_new w6 (.cells #[.pointer (some ⟨kO y, 0, none⟩), .int .u64 (mn (vO y) (vB y))] 35))) HC.out hq1 (room_two hld s0 s1 rfl) ?_))
              rename_i hHeld
              clear hHeld
              have hM7 := meet_hit (obj := .cells #[.pointer (some ⟨kO y, 0, none⟩), .int .u64 (if vB y < vO y then vB y else vO y)] 35) HPX.out hyr hM6
              have hlen7 := congrArg List.length (res_hit HPX.out hyr)
              rw [List.length_append] at hlen7
              have HL7 : Hid ((res l r (p + 1)).length = (res l r p).length + 1) := hlen7
              clear hlen7
              generalize ((w6.alloc (.cells #[.pointer (some ⟨kO y, 0, none⟩), .int .u64 (if vB y < vO y then vB y else vO y)] 35)).drew.setCells d (0 + (res l r p).length * 2) [.pointer (some ⟨kO y, 0, none⟩), .int .u64 (mn (vO y) (vB y))]) = w7 at hM7 ⊢
              clear hM6 g0 g1 gy s0 s1 lE lo hld
              go_wp2_with fail
              go_roundw
              case rel => exact ⟨p + 1, j, by omega, hj, by go_num, rfl, by rw [HL7.out], past_next h.incl HPX.out hless, hM7⟩
              case measure => simp [intOf]; omega
            · rw [decide_eq_false hyx2] at heq
              go_region_held3 (fun w' => w'.cell? ⟨ob, j * 2, none⟩ = some (.pointer (some ⟨kB y, 0, none⟩)) ∧ w'.cell? ⟨ob, j * 2 + 1, none⟩ = some (.int .u64 (vB y)) ∧ w'.cell? ⟨E, 0, none⟩ = some (.pointer (some ⟨kO x, 0, none⟩)) ∧ w'.cell? ⟨E, 1, none⟩ = some (.int .u64 (vO x)) ∧
                  w'.cell? ⟨kB y, 0, none⟩ = some (.string (idS y)) ∧ w'.cell? ⟨kO x, 0, none⟩ = some (.string (idS x)) ∧ Below wE.heap.size wE w')
                (first | exact S_all y0 y1 e0 e1 cy cx hb3.drew | exact S_all y0 y1 e0 e1 cy cx (keepS hb3.drew hbw))
                (first | (go_at_call 10; refine (same_any (kB y) (kO x) (vB y) (vO x) (idS y) (idS x) 9 9 w4.drew hky4 hkx4 hsame).mono ?_; rintro e w5 ⟨rfl, hbw⟩))
              rename_i hHeld
              clear hHeld
              have hb5 := keepS hb3.drew hbw
              clear d0 d1 dy0 dy1 hkx4 hky4 hbw
              have hM6 := hME.later hb5
              have HR : Hid (res l r (p + 1) = res l r p) := res_miss HPX.out (not_in h.incr hless HJY.out (by omega))
              go_wp2_with fail
              go_roundw
              case rel => exact ⟨p + 1, j, by omega, hj, by go_num, rfl, by rw [HR.out], past_next h.incl HPX.out hless, by rw [HR.out]; exact hM6⟩
              case measure => simp [intOf]; omega
        · obtain rfl : j = n := by omega
          have hd : decide ((j : Int) < (j : Int)) = false := by simp
          have hM6 := hME.later (below_drewN hb 0)
          have HR : Hid (res l r l.length = res l r p) := res_end h.incl HPX.out (by rw [← hn] at hless; exact hless)
          go_wp2_with fail
          go_quiet (fail)
          go_wp2_with fail
          go_ret
          refine ⟨?_, ?_⟩
          · rw [HR.out]; rfl
          · rw [HR.out]; exact hME.later (below_drewN hb _)
    · obtain rfl : p = l.length := by omega
      go_wp2_with fail
      go_ret
      exact ⟨rfl, hM⟩

set_option maxHeartbeats 400000 in
theorem meet_none (da oa xa : Option Addr) (c oc n xc : Nat) (w : World) :
    Calls Yba.prog 6 #[.slice da 0 c, .slice oa 0 oc, .slice xa n xc] w fun e w' => e = .returned (.slice da 0 c) ∧ w' = w := by
  go_enter Yba.func6, Yba.ntmps6
  go_wp2_with fail
  refine wp_loop_rounds 1 ?_
  rw [rounds_succ]
  go_wp2_with fail
  go_ret
  exact ⟨rfl, rfl⟩

end Go.Proofs.Ybulkeee
