/-
  meet, called on what zzs0251bsides has built: into a new slice, and in place.
-/
import Derived.Test.YbulkeeeMeet
import Derived.Test.YbulkeeeSides
namespace Go.Proofs.Ybulkeee
open Go.RowKit
open Pm

theorem idx_congr {b c : Nat → Bool} : ∀ n, (∀ i, i < n → b i = c i) → idx b n = idx c n := by
  intro n
  induction n with
  | zero => intro _; rfl
  | succ n ih =>
    intro h
    simp only [idx, h n (Nat.lt_succ_self n), ih (fun i hi => h i (by omega))]

theorem res_idx (bO bB : Nat → Bool) : res (idx bO 16) (idx bB 16) (idx bO 16).length = idx (fun i => bO i && bB i) 16 := by
  unfold res
  rw [List.take_length, idx_filter]
  refine idx_congr 16 (fun i hi => ?_)
  have := idx_mem bB 16 i
  by_cases h : bB i = true
  · rw [h, decide_eq_true (this.2 ⟨hi, h⟩)]
  · rw [decide_eq_false (fun hm => h (this.1 hm).2)]
    cases hb : bB i
    · rfl
    · exact absurd hb h

theorem ents_own {w : World} {base g n cap : Nat} {k : Nat → Nat} {v : Nat → Int} {l : List Nat} (hn : l.length = n) (h : w.ownsRow base 35 2 (.slice (some ⟨g, 0, none⟩) n cap) n (ents k v l)) : Ents w g k v l := by
  refine ⟨fun p x hp => ?_, fun p x hp => ?_⟩
  · have hlt := (List.getElem?_eq_some_iff.1 hp).1
    rw [h.cellAt (p * 2) (by omega)]
    exact (ents_get k v l p x hp).1
  · have hlt := (List.getElem?_eq_some_iff.1 hp).1
    rw [h.cellAt (p * 2 + 1) (by omega)]
    exact (ents_get k v l p x hp).2

/-- What has come back: the ids of m in block d. -/
structure Got (w w' : World) (d : Nat) (ga : Option Addr) (k : Nat → Nat) (v : Nat → Int) (m : List Nat) : Prop where
  grown : w.grownBy w' (some d)
  addr : 0 < m.length → ga = some ⟨d, 0, none⟩
  ents : Ents w' d k v m
  keys : Keys w' k m

def GotPost (N K : Nat) (R : Option Addr → Prop) (w : World) (k : Nat → Nat) (v : Nat → Int) (m : List Nat) (e : Ending) (w' : World) : Prop :=
  ∃ (ga : Option Addr) (gc d : Nat), e = .returned (.slice ga m.length gc) ∧ N ≤ d ∧ d ≠ K ∧ R ga ∧ Got w w' d ga k v m

section
variable {w w2 : World} {bO bB : Nat → Bool} {vO vB : Nat → Int} {ao xa : Option Addr} {oc xc : Nat} {kO kB : Nat → Nat}

theorem Sides.min (h : Sides w w2 bO bB vO vB ao xa oc xc kO kB) {w3 : World} (hb : w2.grownBy w3 none) {g d c : Nat} {f0 : Nat → Value} (hao : ao = some ⟨g, 0, none⟩) (hd : w3.rowIs d 35 (c * 2) f0) (hc : (idx bO 16).length ≤ c)
    (hne : ∀ b, (Value.slice xa (idx bB 16).length xc).ownBlock = some b → b ≠ d) : ∃ ob, (0 < (idx bB 16).length → xa = some ⟨ob, 0, none⟩) ∧ MIn w3 d c g ob f0 kO kB vO vB (idx bO 16) (idx bB 16) := by
  have hN : ∀ v : Value, v.ownBlock = none ∨ v.ownBlock ≠ none := fun v => by cases v.ownBlock <;> simp
  have hO := h.own.kept hb (hN _)
  have hB := h.oth.kept hb (hN _)
  subst hao
  have hkey : ∀ {k : Nat → Nat} {l : List Nat}, Keys w2 k l → Keys w3 k l := fun hk x hx => by
    have h1 := hk x hx
    rw [hb.block _ (Array.getElem?_eq_some_iff.1 h1).1 (by simp)]
    exact h1
  by_cases hz : 0 < (idx bB 16).length
  · obtain ⟨ob, cp, he, _, _⟩ := hB.form hz
    simp only [Value.slice.injEq] at he
    obtain ⟨rfl, _, _⟩ := he
    exact ⟨ob, fun _ => rfl, ents_own rfl hO, ents_own rfl hB, hkey h.keyO, hkey h.keyB, fun x hx => ((idx_mem _ _ _).1 hx).1, fun x hx => ((idx_mem _ _ _).1 hx).1, idx_inc _ _, idx_inc _ _, hd, hc, fun _ _ => hne ob rfl⟩
  · have e : idx bB 16 = [] := List.eq_nil_of_length_eq_zero (by omega)
    refine ⟨0, fun hh => absurd hh hz, ents_own rfl hO, ⟨fun p x hp => ?_, fun p x hp => ?_⟩, hkey h.keyO, hkey h.keyB, fun x hx => ((idx_mem _ _ _).1 hx).1, fun x hx => ((idx_mem _ _ _).1 hx).1, idx_inc _ _, idx_inc _ _, hd, hc, fun x hx => ?_⟩
    · rw [e] at hp; simp at hp
    · rw [e] at hp; simp at hp
    · rw [e] at hx; simp at hx

theorem MI.got {w w' : World} {d c g ob : Nat} {f0 : Nat → Value} {kO kB : Nat → Nat} {vO vB v : Nat → Int} {l r m : List Nat} (hI : MIn w d c g ob f0 kO kB vO vB l r) (hm : ∀ x, x ∈ m → x ∈ l) (hml : m.length ≤ c) (h : MI w w' d c f0 (Pm.ents kO v m) m.length) :
    Ents w' d kO v m ∧ Keys w' kO m := by
  refine ⟨⟨fun p x hp => ?_, fun p x hp => ?_⟩, fun x hx => h.keys hI hI.keyO x (hm x hx)⟩
  · have hlt := (List.getElem?_eq_some_iff.1 hp).1
    rw [h.row.cell (by omega), if_pos (by omega)]
    simp only [List.getD, (ents_get kO v m p x hp).1, Option.getD_some]
  · have hlt := (List.getElem?_eq_some_iff.1 hp).1
    rw [h.row.cell (by omega), if_pos (by omega)]
    simp only [List.getD, (ents_get kO v m p x hp).2, Option.getD_some]

theorem meet_new (h : Sides w w2 bO bB vO vB ao xa oc xc kO kB) (K : Nat) (hK : K < w2.heap.size) (L : Nat) (hL : L = (idx bO 16).length) :
    Calls Yba.prog 6 #[.slice (some ⟨w2.heap.size, 0, none⟩) 0 L, .slice ao (idx bO 16).length oc, .slice xa (idx bB 16).length xc] (w2.alloc (.cells (madeCells #[.pointer none, .int .u64 0] (L * 2)) 35))
      (GotPost w.heap.size K (fun _ => True) w2 kO (fun x => mn (vO x) (vB x)) (idx (fun i => bO i && bB i) 16)) := by
  subst hL
  have hsz := h.below.size
  have hl := idx_len bO 16
  have hl2 := idx_len bB 16
  by_cases hz : 0 < (idx bO 16).length
  · obtain ⟨g, cp, he, _, hg2⟩ := h.own.form hz
    obtain ⟨_, cp', _, hg1, _⟩ := h.own.form hz
    simp only [Value.slice.injEq] at he
    obtain ⟨hao, _, _⟩ := he
    have hd := World.rowIs_alloc w2 (madeCells #[.pointer none, .int .u64 0] ((idx bO 16).length * 2)) 35 (fun i => ((madeCells #[.pointer none, .int .u64 0] ((idx bO 16).length * 2))[i]?).getD (.int .u64 0)) (fun i hi => by
      rw [Array.getElem?_eq_getElem hi]; rfl)
    rw [size_madeCells] at hd
    obtain ⟨ob, hob, hI⟩ := h.min (World.grownBy_alloc w2 _ none) hao hd (Nat.le_refl _) (fun b hb => by have := (h.oth.lt b hb).2; omega)
    subst hao
    refine (meet_any w2.heap.size 0 (idx bO 16).length g oc ob (idx bB 16).length xc xa _ kO kB vO vB (idx bO 16) (idx bB 16) _ hI hl rfl hl2 hob).mono ?_
    rintro e w' ⟨rfl, hM⟩
    rw [res_idx] at hM ⊢
    have hml : (idx (fun i => bO i && bB i) 16).length ≤ (idx bO 16).length := by rw [← res_idx]; exact res_len _ _ _
    obtain ⟨he, hk⟩ := hM.got hI (fun x hx => by
      have := (idx_mem _ 16 x).1 hx
      simp only [Bool.and_eq_true] at this
      exact (idx_mem bO 16 x).2 ⟨this.1, this.2.1⟩) hml
    refine ⟨_, _, w2.heap.size, rfl, by omega, by omega, trivial, ⟨hM.grown.os, hM.grown.tape, hM.grown.output, ?_, fun k hk hn => ?_⟩, fun _ => rfl, he, hk⟩
    · have := hM.grown.size
      simp at this
      omega
    · rw [hM.grown.block k (by simp; omega) hn]
      exact Below.heap_alloc _ _ _ hk
  · have e0 : (idx bO 16).length = 0 := by omega
    have e : idx bO 16 = [] := List.eq_nil_of_length_eq_zero e0
    have em : idx (fun i => bO i && bB i) 16 = [] := by rw [← res_idx, e]; rfl
    rw [e0, em]
    refine (meet_none _ ao xa _ oc _ xc _).mono ?_
    rintro e' w' ⟨rfl, hw⟩
    refine ⟨_, _, w2.heap.size, rfl, by omega, by omega, trivial, by rw [hw]; exact World.grownBy_alloc w2 _ _, fun hh => by simp at hh, ⟨fun p x hp => by simp at hp, fun p x hp => by simp at hp⟩, fun x hx => by simp at hx⟩

theorem meet_in (h : Sides w w2 bO bB vO vB ao xa oc xc kO kB) (K : Nat) (hK : K < w2.heap.size) (hKo : ∀ k, (Value.slice ao (idx bO 16).length oc).ownBlock = some k → k ≠ K) :
    Calls Yba.prog 6 #[.slice ao (idx bO 16).length oc, .slice ao (idx bO 16).length oc, .slice xa (idx bB 16).length xc] w2
      (GotPost w.heap.size K (fun ga => ga = ao ∧ (0 < (idx (fun i => bO i && bB i) 16).length → 0 < (idx bO 16).length)) w2 kO (fun x => mn (vO x) (vB x)) (idx (fun i => bO i && bB i) 16)) := by
  have hsz := h.below.size
  have hl := idx_len bO 16
  have hl2 := idx_len bB 16
  have hml : (idx (fun i => bO i && bB i) 16).length ≤ (idx bO 16).length := by rw [← res_idx]; exact res_len _ _ _
  by_cases hz : 0 < (idx bO 16).length
  · rcases h.own.2 with ⟨_, h0⟩ | ⟨g, cap, cur, he, hb, hg, hn, hm, hs, ht⟩
    · omega
    simp only [Value.slice.injEq] at he
    obtain ⟨hao, _, hoc⟩ := he
    subst hoc
    have hd : w2.rowIs g 35 (oc * 2) (fun i => (cur[i]?).getD (.int .u64 0)) := ⟨cur, hg, hs, fun i hi => by simp [Array.getElem?_eq_getElem (show i < cur.size by omega)]⟩
    obtain ⟨ob, hob, hI⟩ := h.min (World.grownBy.refl w2 none) hao hd hn (fun b hb' => by
      rcases h.far with hf | hf
      · rw [hao] at hf; simp [Value.ownBlock] at hf
      · rw [hb', hao] at hf
        intro e
        exact hf (by rw [e]; rfl))
    subst hao
    refine (meet_any g _ oc g oc ob (idx bB 16).length xc xa _ kO kB vO vB (idx bO 16) (idx bB 16) _ hI hl rfl hl2 hob).mono ?_
    rintro e w' ⟨rfl, hM⟩
    rw [res_idx] at hM ⊢
    obtain ⟨he, hk⟩ := hM.got hI (fun x hx => by
      have := (idx_mem _ 16 x).1 hx
      simp only [Bool.and_eq_true] at this
      exact (idx_mem bO 16 x).2 ⟨this.1, this.2.1⟩) (by omega)
    exact ⟨_, _, g, rfl, by omega, hKo g rfl, ⟨rfl, fun _ => hz⟩, hM.grown, fun _ => rfl, he, hk⟩
  · have e0 : (idx bO 16).length = 0 := by omega
    have em : idx (fun i => bO i && bB i) 16 = [] := List.eq_nil_of_length_eq_zero (by omega)
    rw [e0, em]
    refine (meet_none ao ao xa oc oc _ xc _).mono ?_
    rintro e' w' ⟨rfl, rfl⟩
    exact ⟨_, _, w'.heap.size, rfl, by omega, by omega, ⟨rfl, fun hh => by simp at hh⟩, World.grownBy.refl _ _, fun hh => by simp at hh, ⟨fun p x hp => by simp at hp, fun p x hp => by simp at hp⟩, fun x hx => by simp at hx⟩
end
end Go.Proofs.Ybulkeee
