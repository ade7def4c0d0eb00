/-
  LawS0248BReach: spans, sort.Search over them, and whether an offset lies inside one.
-/
import Derived.Test.YbulkecoRows
import Derived.WalkKit
import Derived.WalkSpells
import Derived.WalkLawsBesides
import Derived.Deep.QuietTactic
import Derived.BigQuiet
namespace Go.Proofs.Ybulkeco
open Go.RowKit

namespace Rc

/-- Does offset x lie inside one of the first m spans, past its first byte? -/
def insB (P E : Nat → Nat) (x : Nat) : Nat → Bool
  | 0 => false
  | m + 1 => insB P E x m || (decide (P m < x) && decide (x < E m))

theorem insB_true {P E : Nat → Nat} {x : Nat} : ∀ {m i : Nat}, i < m → P i < x → x < E i → insB P E x m = true := by
  intro m
  induction m with
  | zero => intro i h; omega
  | succ m ih =>
    intro i h h1 h2
    simp only [insB]
    by_cases e : i = m
    · subst e; simp [h1, h2]
    · rw [ih (by omega) h1 h2]; rfl

theorem insB_false {P E : Nat → Nat} {x : Nat} : ∀ {m : Nat}, (∀ i, i < m → ¬ (P i < x ∧ x < E i)) → insB P E x m = false := by
  intro m
  induction m with
  | zero => intro _; rfl
  | succ m ih =>
    intro h
    simp only [insB]
    rw [ih (fun i hi => h i (by omega))]
    have := h m (by omega)
    simp only [Bool.false_or, Bool.and_eq_false_iff, decide_eq_false_iff_not]
    omega

/-- The spans lie in memory: a slice of m pairs. -/
structure Spans (w : World) (ma : Option Addr) (mb m : Nat) (P E : Nat → Nat) : Prop where
  addr : 0 < m → ma = some ⟨mb, 0, none⟩
  c0 : ∀ i, i < m → w.cell? ⟨mb, i * 2, none⟩ = some (.int .i64 (P i))
  c1 : ∀ i, i < m → w.cell? ⟨mb, i * 2 + 1, none⟩ = some (.int .i64 (E i))

theorem Spans.later {w w' : World} {ma : Option Addr} {mb m : Nat} {P E : Nat → Nat} (h : Spans w ma mb m P E) (hb : Below w.heap.size w w') : Spans w' ma mb m P E :=
  ⟨h.addr, fun i hi => cell_later hb (h.c0 i hi), fun i hi => cell_later hb (h.c1 i hi)⟩

end Rc
open Rc

set_option maxHeartbeats 800000 in
theorem inside_any (ma : Option Addr) (mb m mc : Nat) (P E : Nat → Nat) (x : Nat) (w : World) (hm : m ≤ 1000000) (h : Spans w ma mb m P E) :
    Calls Yba.prog 9 #[.slice ma m mc, .int .i64 x] w fun e w' => e = .returned (.bool (insB P E x m)) ∧ w' = w := by
  go_enter Yba.func9, Yba.ntmps9
  go_wp2
  go_loop [5] (fun i => ∃ k : Nat, k ≤ m ∧ i = .int .i64 k ∧ insB P E x k = false) (fun i => m - (intOf i).toNat)
  case atStart => exact ⟨0, Nat.zero_le _, rfl, rfl⟩
  case round =>
    obtain ⟨k, hk, rfl, hf⟩ := hrel
    have HF : Hid (insB P E x k = false) := hf
    clear hf
    by_cases hlt : k < m
    · obtain rfl := h.addr (by omega)
      have c0 := h.c0 k hlt
      have c1 := h.c1 k hlt
      by_cases h1 : P k < x
      · by_cases h2 : x < E k
        · have ht := insB_true hlt h1 h2
          go_wp2
          go_ret
          exact ⟨rfl, rfl⟩
        · have HN : Hid (insB P E x (k + 1) = false) := by simp [Hid, insB, HF.out, h2]
          go_wp2
          go_round
          case rel => exact ⟨k + 1, by omega, by go_num, HN.out⟩
          case measure => simp [intOf]; omega
      · have HN : Hid (insB P E x (k + 1) = false) := by simp [Hid, insB, HF.out, h1]
        go_wp2
        go_round
        case rel => exact ⟨k + 1, by omega, by go_num, HN.out⟩
        case measure => simp [intOf]; omega
    · obtain rfl : k = m := by omega
      have hf := HF.out
      go_wp2
      go_ret
      exact ⟨rfl, rfl⟩

set_option maxHeartbeats 800000 in
theorem less_any (bx bo bf mb m mc i x : Nat) (E : Nat → Nat) (w : World) (hi : i < m)
    (cx : w.cell? ⟨bx, 0, none⟩ = some (.pointer (some ⟨bf, 0, none⟩))) (co : w.cell? ⟨bo, 0, none⟩ = some (.int .i64 x)) (cf : w.cell? ⟨bf, 15, none⟩ = some (.slice (some ⟨mb, 0, none⟩) m mc))
    (c1 : w.cell? ⟨mb, i * 2 + 1, none⟩ = some (.int .i64 (E i))) :
    Calls Yba.prog 18 #[.int .i64 i, .pointer (some ⟨bx, 0, none⟩), .pointer (some ⟨bo, 0, none⟩)] w fun e w' => e = .returned (.bool (decide (x < E i))) ∧ ∃ n, w' = w.drewN n := by
  have hi0 : (0 : Int) ≤ (i : Int) := by omega
  have hi1 : (i : Int) < (m : Int) := by omega
  go_enter Yba.func18, Yba.ntmps18
  go_wp2
  go_quiet (fail)
  go_wp2
  go_ret
  exact ⟨rfl, nq, rfl⟩

def SearchPost (E : Nat → Nat) (x m : Nat) (w : World) (e : Ending) (w' : World) : Prop :=
  ∃ i : Nat, e = .returned (.int .i64 i) ∧ i ≤ m ∧ (i = 0 ∨ E (i - 1) ≤ x) ∧ (i = m ∨ x < E i) ∧ ∃ n, w' = w.drewN n

set_option maxHeartbeats 800000 in
theorem search_any (bx bo bf mb m mc x : Nat) (ma : Option Addr) (P E : Nat → Nat) (w : World) (hm : m ≤ 1000000)
    (cx : w.cell? ⟨bx, 0, none⟩ = some (.pointer (some ⟨bf, 0, none⟩))) (co : w.cell? ⟨bo, 0, none⟩ = some (.int .i64 x)) (cf : w.cell? ⟨bf, 15, none⟩ = some (.slice ma m mc)) (hS : Spans w ma mb m P E) :
    Calls Yba.prog 17 #[.int .i64 m, .func (.func 18) #[] #[.pointer (some ⟨bx, 0, none⟩), .pointer (some ⟨bo, 0, none⟩)]] w (SearchPost E x m w) := by
  go_enter Yba.func17, Yba.ntmps17
  go_wp2
  go_loopw [5, 6] (fun a b wr => ∃ (i j n : Nat), a = .int .i64 i ∧ b = .int .i64 j ∧ i ≤ j ∧ j ≤ m ∧ Hid ((i = 0 ∨ E (i - 1) ≤ x) ∧ (j = m ∨ x < E j)) ∧ wr = w.drewN n) (fun a b _ => (intOf b).toNat - (intOf a).toNat)
  case atStart => exact ⟨0, m, 0, rfl, rfl, Nat.zero_le _, Nat.le_refl _, ⟨.inl rfl, .inl rfl⟩, rfl⟩
  case round =>
    obtain ⟨i, j, n, rfl, rfl, hij, hj, H, rfl⟩ := hrel
    by_cases hlt : i < j
    · obtain rfl := hS.addr (by omega)
      go_wp2_with fail
      rw [show ((i : Int) + (j : Int)) / 2 = (((i + j) / 2 : Nat) : Int) from by omega]
      have hh1 : i ≤ (i + j) / 2 := by omega
      have hh2 : (i + j) / 2 < j := by omega
      generalize (i + j) / 2 = h at *
      refine (less_any bx bo bf mb m mc h x E (w.drewN n) (by omega) cx co cf (hS.c1 h (by omega))).mono ?_
      rintro e w1 ⟨rfl, n1, rfl⟩
      by_cases hE : x < E h
      · go_wp2_with fail
        go_roundw
        case rel => exact ⟨i, h, n + n1, rfl, rfl, hh1, by omega, ⟨H.out.1, .inr hE⟩, rfl⟩
        case measure => simp [intOf]; omega
      · go_wp2_with fail
        go_roundw
        case rel => exact ⟨h + 1, j, n + n1, by go_num, rfl, hh2, hj, ⟨.inr (by simpa using hE), H.out.2⟩, rfl⟩
        case measure => simp [intOf]; omega
    · obtain rfl : i = j := by omega
      go_wp2_with fail
      go_ret
      exact ⟨i, rfl, hj, H.out.1, H.out.2, n, rfl⟩

/-- What multilineAt and InMultiline are told of the file: cell 15 is the list of spans. -/
structure Sorted (m : Nat) (P E : Nat → Nat) : Prop where
  le : ∀ i, i < m → P i ≤ E i
  next : ∀ i, i + 1 < m → E i ≤ P (i + 1)

theorem Sorted.far {m : Nat} {P E : Nat → Nat} (h : Sorted m P E) (i : Nat) : ∀ j, i < j → j < m → E i ≤ P j := by
  intro j
  induction j with
  | zero => intro a; omega
  | succ j ih =>
    intro a b
    by_cases e : i = j
    · subst e; exact h.next i b
    · have h1 := ih (by omega) (by omega)
      have h2 := h.le j (by omega)
      have h3 := h.next j b
      omega

/-- What the search finds decides. -/
theorem ins_of_search {m : Nat} {P E : Nat → Nat} {x i : Nat} (h : Sorted m P E) (h0 : i ≤ m) (h1 : i = 0 ∨ E (i - 1) ≤ x) (h2 : i = m ∨ x < E i) :
    insB P E x m = (decide (i < m) && decide (P i < x)) := by
  by_cases hlt : i < m
  · have hE : x < E i := by rcases h2 with h2 | h2
                            · omega
                            · exact h2
    by_cases hP : P i < x
    · rw [insB_true hlt hP hE]; simp [hlt, hP]
    · rw [insB_false (m := m) (fun k hk => ?_)]
      · simp [hP]
      · by_cases e : k = i
        · subst e; omega
        · by_cases e2 : k < i
          · have : E k ≤ E (i - 1) := by
              by_cases e3 : k = i - 1
              · subst e3; exact Nat.le_refl _
              · have := h.far k (i - 1) (by omega) (by omega)
                have := h.le (i - 1) (by omega)
                omega
            omega
          · have := h.far i k (by omega) hk
            omega
  · rw [insB_false (m := m) (fun k hk => ?_)]
    · simp [hlt]
    · have : E k ≤ E (i - 1) := by
        by_cases e3 : k = i - 1
        · subst e3; exact Nat.le_refl _
        · have := h.far k (i - 1) (by omega) (by omega)
          have := h.le (i - 1) (by omega)
          omega
      omega

theorem multi_world (w : World) (a b c d : Value) :
    Below w.heap.size w (((w.alloc (.cells #[a] 24)).alloc (.cells #[b] 3)).alloc (.cells #[c, d] 35)) ∧
    (((w.alloc (.cells #[a] 24)).alloc (.cells #[b] 3)).alloc (.cells #[c, d] 35)).cell? ⟨w.heap.size, 0, none⟩ = some a ∧
    (((w.alloc (.cells #[a] 24)).alloc (.cells #[b] 3)).alloc (.cells #[c, d] 35)).cell? ⟨w.heap.size + 1, 0, none⟩ = some b ∧
    (((w.alloc (.cells #[a] 24)).alloc (.cells #[b] 3)).alloc (.cells #[c, d] 35)).cell? ⟨w.heap.size + 1 + 1, 0, none⟩ = some c ∧
    (((w.alloc (.cells #[a] 24)).alloc (.cells #[b] 3)).alloc (.cells #[c, d] 35)).cell? ⟨w.heap.size + 1 + 1, 1, none⟩ = some d ∧
    (((w.alloc (.cells #[a] 24)).alloc (.cells #[b] 3)).alloc (.cells #[c, d] 35)).frozen? ⟨w.heap.size + 1 + 1, 0, none⟩ = false ∧
    (((w.alloc (.cells #[a] 24)).alloc (.cells #[b] 3)).alloc (.cells #[c, d] 35)).frozen? ⟨w.heap.size + 1 + 1, 1, none⟩ = false := by
  have e1 : (w.alloc (.cells #[a] 24)).heap.size = w.heap.size + 1 := by simp
  have e2 : ((w.alloc (.cells #[a] 24)).alloc (.cells #[b] 3)).heap.size = w.heap.size + 1 + 1 := by simp
  refine ⟨(((Below.refl _ _).alloc (Nat.le_refl _) _).alloc (by rw [e1]; omega) _).alloc (by rw [e2]; omega) _, ?_, ?_, ?_, ?_, ?_, ?_⟩
  · rw [World.cell?_alloc_past _ _ _ (by rw [e2]; omega), World.cell?_alloc_past _ _ _ (by rw [e1]; omega), World.cell?_alloc_at _ _ _ _ rfl]; rfl
  · rw [World.cell?_alloc_past _ _ _ (by rw [e2]; omega), World.cell?_alloc_at _ _ _ _ e1.symm]; rfl
  · rw [World.cell?_alloc_at _ _ _ _ e2.symm]; rfl
  · rw [World.cell?_alloc_at _ _ _ _ e2.symm]; rfl
  · rw [World.frozen?_alloc_at _ _ _ _ e2.symm]
  · rw [World.frozen?_alloc_at _ _ _ _ e2.symm]

def MultiPost (b : Bool) (w : World) (e : Ending) (w' : World) : Prop :=
  ∃ x y : Int, e = .returned (.tuple #[.agg #[.int .i64 x, .int .i64 y], .bool b]) ∧ Below w.heap.size w w'

set_option maxHeartbeats 800000 in
set_option maxRecDepth 100000 in
theorem multi_any (bf mb m mc x : Nat) (ma : Option Addr) (P E : Nat → Nat) (w : World) (hm : m ≤ 1000000) (hso : Sorted m P E)
    (cf : w.cell? ⟨bf, 15, none⟩ = some (.slice ma m mc)) (hS : Spans w ma mb m P E) :
    Calls Yba.prog 16 #[.pointer (some ⟨bf, 0, none⟩), .int .i64 x] w (MultiPost (insB P E x m) w) := by
  have hbf : bf < w.heap.size := World.block_lt_of_cell? _ _ cf
  have hbf1 : bf < w.heap.size + 1 := by omega
  have hbf2 : bf < w.heap.size + 1 + 1 := by omega
  go_enter Yba.func16, Yba.ntmps16
  go_wp2_with fail
  obtain ⟨hb, m0, m1, m2, m3, f2, f3⟩ := multi_world w (.pointer (some ⟨bf, 0, none⟩)) (.int .i64 x) (.int .i64 0) (.int .i64 0)
  generalize (((w.alloc (.cells #[.pointer (some ⟨bf, 0, none⟩)] 24)).alloc (.cells #[.int .i64 x] 3)).alloc (.cells #[.int .i64 0, .int .i64 0] 35)) = w3 at *
  have cf3 := cell_later hb cf
  have hS3 := hS.later hb
  refine (search_any w.heap.size (w.heap.size + 1) bf mb m mc x ma P E w3 hm m0 m1 cf3 hS3).mono ?_
  rintro e w4 ⟨i, rfl, h0, h1, h2, n, rfl⟩
  have HI : Hid (insB P E x m = (decide (i < m) && decide (P i < x))) := ins_of_search hso h0 h1 h2
  clear h1 h2
  by_cases hlt : i < m
  · obtain rfl := hS.addr (by omega)
    have c0 := hS3.c0 i hlt
    have c1 := hS3.c1 i hlt
    have hi0 : (0 : Int) ≤ (i : Int) := by omega
    have hi1 : (i : Int) < (m : Int) := by omega
    by_cases hP : P i < x
    · go_wp2_with fail
      go_quiet (fail)
      go_wp2_with fail
      rw [HI.out]
      simp only [hlt, hP, decide_true, Bool.and_self]
      refine bodyPost_ret (v := .tuple #[.agg #[.int .i64 (P i), .int .i64 (E i)], .bool true]) (by simp [results, Yba.results16, go_sem, m2, m3]) rfl ⟨_, _, rfl, ?_⟩
      exact ((below_drewN hb _).setCell (by show w.heap.size ≤ w.heap.size + 1 + 1; omega) _).setCell (by show w.heap.size ≤ w.heap.size + 1 + 1; omega) _
    · go_wp2_with fail
      go_quiet (fail)
      go_wp2_with fail
      rw [HI.out]
      simp only [hP, decide_false, Bool.and_false]
      refine bodyPost_ret (v := .tuple #[.agg #[.int .i64 0, .int .i64 0], .bool false]) (by simp [results, Yba.results16, go_sem, m2, m3]) rfl ⟨_, _, rfl, ?_⟩
      exact ((below_drewN hb _).setCell (by show w.heap.size ≤ w.heap.size + 1 + 1; omega) _).setCell (by show w.heap.size ≤ w.heap.size + 1 + 1; omega) _
  · have hd : decide ((i : Int) < (m : Int)) = false := decide_eq_false (by omega)
    go_wp2_with fail
    go_quiet (fail)
    go_wp2_with fail
    rw [HI.out]
    simp only [hlt, decide_false, Bool.false_and]
    refine bodyPost_ret (v := .tuple #[.agg #[.int .i64 0, .int .i64 0], .bool false]) (by simp [results, Yba.results16, go_sem, m2, m3]) rfl ⟨_, _, rfl, ?_⟩
    exact ((below_drewN hb _).setCell (by show w.heap.size ≤ w.heap.size + 1 + 1; omega) _).setCell (by show w.heap.size ≤ w.heap.size + 1 + 1; omega) _

set_option maxHeartbeats 800000 in
theorem inMulti_any (bf mb m mc x : Nat) (ma : Option Addr) (P E : Nat → Nat) (w : World) (hm : m ≤ 1000000) (hso : Sorted m P E)
    (cf : w.cell? ⟨bf, 15, none⟩ = some (.slice ma m mc)) (hS : Spans w ma mb m P E) :
    Calls Yba.prog 14 #[.pointer (some ⟨bf, 0, none⟩), .int .i64 x] w fun e w' => e = .returned (.bool (insB P E x m)) ∧ Below w.heap.size w w' := by
  go_enter Yba.func14, Yba.ntmps14
  go_wp2_with fail
  refine (multi_any bf mb m mc x ma P E w hm hso cf hS).mono ?_
  rintro e w1 ⟨p, q, rfl, hb⟩
  go_wp2_with fail
  go_ret
  exact ⟨rfl, hb.alloc hb.size _⟩

end Go.Proofs.Ybulkeco
