/-
  The walks of LawS0251BMeet and LawS0251BInPlace.
-/
import Derived.Test.YbulkeeeGot
import Derived.Test.YbulkeeeCheck
namespace Go.Proofs.Ybulkeee
open Go.RowKit
open Pm

theorem nil_there (w : World) (cs : List Value) (h : cs.length = 16) : (w.alloc (.cells #[.pointer none, .pointer none, .pointer none, .pointer none, .pointer none, .pointer none, .pointer none, .pointer none, .pointer none, .pointer none, .pointer none, .pointer none, .pointer none, .pointer none, .pointer none, .pointer none] 26)).there w.heap.size 0 cs.toArray.size := by
  intro j hj
  rw [List.size_toArray, h] at hj
  rw [Nat.zero_add, World.cell?_alloc_at _ _ _ _ rfl, World.frozen?_alloc_at _ _ _ _ rfl]
  refine ⟨?_, rfl⟩
  have : j = 0 ∨ j = 1 ∨ j = 2 ∨ j = 3 ∨ j = 4 ∨ j = 5 ∨ j = 6 ∨ j = 7 ∨ j = 8 ∨ j = 9 ∨ j = 10 ∨ j = 11 ∨ j = 12 ∨ j = 13 ∨ j = 14 ∨ j = 15 := by omega
  rcases this with rfl | rfl | rfl | rfl | rfl | rfl | rfl | rfl | rfl | rfl | rfl | rfl | rfl | rfl | rfl | rfl <;> rfl

theorem nil_stored (w : World) (cs : List Value) (h : cs.length = 16) : Below w.heap.size w ((w.alloc (.cells #[.pointer none, .pointer none, .pointer none, .pointer none, .pointer none, .pointer none, .pointer none, .pointer none, .pointer none, .pointer none, .pointer none, .pointer none, .pointer none, .pointer none, .pointer none, .pointer none] 26)).setCells w.heap.size 0 cs.toArray.toList) ∧ ((w.alloc (.cells #[.pointer none, .pointer none, .pointer none, .pointer none, .pointer none, .pointer none, .pointer none, .pointer none, .pointer none, .pointer none, .pointer none, .pointer none, .pointer none, .pointer none, .pointer none, .pointer none] 26)).setCells w.heap.size 0 cs.toArray.toList).rangeAt w.heap.size 0 cs := by
  obtain ⟨h1, h2, h3, h4, h5⟩ := heap_setCells w.heap.size cs.toArray.toList 0 (w.alloc (.cells #[.pointer none, .pointer none, .pointer none, .pointer none, .pointer none, .pointer none, .pointer none, .pointer none, .pointer none, .pointer none, .pointer none, .pointer none, .pointer none, .pointer none, .pointer none, .pointer none] 26))
  have hb : Below w.heap.size w (w.alloc (.cells #[.pointer none, .pointer none, .pointer none, .pointer none, .pointer none, .pointer none, .pointer none, .pointer none, .pointer none, .pointer none, .pointer none, .pointer none, .pointer none, .pointer none, .pointer none, .pointer none] 26)) := (Below.refl _ _).alloc (Nat.le_refl _) _
  refine ⟨hb.trans ⟨h2, h3, h4, Nat.le_of_eq h1.symm, fun k hk => h5 k (by omega)⟩, ?_⟩
  have := World.rangeAt_setCells_same (w.alloc (.cells #[.pointer none, .pointer none, .pointer none, .pointer none, .pointer none, .pointer none, .pointer none, .pointer none, .pointer none, .pointer none, .pointer none, .pointer none, .pointer none, .pointer none, .pointer none, .pointer none] 26)) w.heap.size 0 cs (by have := nil_there w cs h; simpa using this)
  simpa using this

theorem make35 (n : Nat) (hn : n ≤ 1024) (w : World) :
    (Instr.makeSlice 24 (.int .i64 0) (.int .i64 n)).run Yba.prog w = .ok (.slice (some ⟨w.heap.size, 0, none⟩) 0 n) (w.alloc (.cells (madeCells #[.pointer none, .int .u64 0] (n * 2)) 35)) := by
  obtain ⟨i, h1, h2, h3, h4⟩ := info_parts Yba.info35
  have h := run_make (P := Yba.prog) w 24 35 i _ Yba.underlying24 h1 h2 .i64 .i64 0 n (by omega) (by omega) (by rw [h4]; omega) (by omega)
  rw [h3] at h
  simpa [Value.cells] using h

theorem Sides.later {w w1 w2 : World} {bO bB : Nat → Bool} {vO vB : Nat → Int} {ao xa : Option Addr} {oc xc : Nat} {kO kB : Nat → Nat} (h : Sides w w1 bO bB vO vB ao xa oc xc kO kB) (hb : Below w1.heap.size w1 w2) : Sides w w2 bO bB vO vB ao xa oc xc kO kB := by
  have hg : w1.grownBy w2 none := ⟨hb.os, hb.tape, hb.output, hb.size, fun k hk _ => hb.block k hk⟩
  have hne : ∀ v : Value, v.ownBlock = none ∨ v.ownBlock ≠ none := fun v => by cases v.ownBlock <;> simp
  exact ⟨h.below.trans (hb.mono h.below.size), h.own.kept hg (hne _), h.oth.kept hg (hne _), keys_below h.keyO hb, keys_below h.keyB hb, h.far⟩

set_option maxHeartbeats 1600000 in
set_option maxRecDepth 100000 in
theorem law_meet (om xm sm : Int) (a3 a4 : Option Addr) (b3 o3 n3 c3 b4 o4 n4 c4 : Nat) (Z3 Z4 : Nat → Int) (w : World) (hom : 0 ≤ om ∧ om ≤ 65535) (hxm : 0 ≤ xm ∧ xm ≤ 65535) (hsm : 0 ≤ sm ∧ sm ≤ 65535)
    (h3 : Ns w a3 b3 o3 n3 Z3) (h4 : Ns w a4 b4 o4 n4 Z4) (hn3 : n3 ≤ 1024) (hn4 : n4 ≤ 1024) :
    Calls Yba.prog 3 #[.int .u16 om, .int .u16 xm, .int .u16 sm, .slice a3 n3 c3, .slice a4 n4 c4] w fun e w' => e = .returned (.bool true) ∧ Below w.heap.size w w' := by
  have hn3' : ¬ 1024 < n3 := by omega
  have hn4' : ¬ 1024 < n4 := by omega
  go_enter Yba.func3, Yba.ntmps3
  go_wp2_with fail
  refine (sides_any om xm sm a3 a4 b3 o3 n3 c3 b4 o4 n4 c4 Z3 Z4 w hom hxm hsm h3 h4 hn3 hn4).mono ?_
  rintro e w1 ⟨ao, xa, oc, xc, kO, kB, rfl, hS⟩
  have hlen : (keyL (bt om) kO).length = 16 := keyL_len _ _
  have hone : ∀ v ∈ keyL (bt om) kO, v.oneCell' = true := keyL_one _ _
  generalize hcs : keyL (bt om) kO = cs at *
  have HCS : Hid (keyL (bt om) kO = cs) := hcs
  clear hcs
  have hi26 : (Yba.prog.info? 26).map (·.size) = some cs.toArray.size := by rw [Yba.size26]; simp [hlen]
  have hth := nil_there w1 cs hlen
  have hall := all_oneCell_toArray hone
  obtain ⟨hb2, hra⟩ := nil_stored w1 cs hlen
  have hil := idx_len (bt om) 16
  have hmk := make35 (idx (bt om) 16).length (by omega)
  go_wp2_with (first | (refine wpList_store_mid (by rfl) 26 (.tmp 13) (.tmp 33) (by rfl) w1.heap.size 0 cs.toArray (by rfl) (by rfl) hth hi26 hall ?_; generalize (w1.alloc (.cells #[.pointer none, .pointer none, .pointer none, .pointer none, .pointer none, .pointer none, .pointer none, .pointer none, .pointer none, .pointer none, .pointer none, .pointer none, .pointer none, .pointer none, .pointer none, .pointer none] 26)).setCells w1.heap.size 0 cs.toArray.toList = w2 at hb2 hra ⊢))
  clear hth hmk
  have hS2 := hS.later hb2
  have hK : w1.heap.size < w2.heap.size := World.block_lt_of_cell? _ _ (hra 0 (cs[0]'(by omega)) (by simp [hlen]))
  refine (meet_new hS2 w1.heap.size hK _ rfl).mono ?_
  rintro e w' ⟨ga, gc, d, rfl, hd, hdK, _, hG⟩
  have hB : Below w.heap.size w w' := hS2.below.grown hG.grown hS2.below.size (fun k hk => by simp only [Option.some.injEq] at hk; omega)
  have hra' : w'.rangeAt w1.heap.size 0 cs := fun j v hv => hG.grown.cell (hra j v hv) (by simpa using fun e => hdK e.symm)
  have hi26' : (Yba.prog.info? 26).map (·.size) = some cs.length := by rw [Yba.size26]; simp [hlen]
  clear hall hi26 hra hb2
  have hKc : ∀ x, x ∈ idx (fun i => bt om i && bt xm i) 16 → w'.cell? ⟨kO x, 0, none⟩ = some (.string (idS x)) := fun x hx => by
    have h1 := hG.keys x hx
    rw [cell_of_row w' (kO x) 0 _ 9 (0, 0) h1]
    rfl
  have hE : Ents w' d kO (fun x => if bn Z4 n4 x < bn Z3 n3 x then bn Z4 n4 x else bn Z3 n3 x) (idx (fun i => bt om i && bt xm i) 16) := hG.ents
  have hga := hG.addr
  generalize hC : (fun i => bt om i && bt xm i) = bC at *
  have hl16 := idx_len bC 16
  go_wp2_with (first | (refine wpList_load_mid (by rfl) 26 (.tmp 13) (by rfl) w1.heap.size 0 (by rfl) cs _ hra' Yba.underlying26 (by rfl) hi26' ?_; clear hra' hi26'))
  rw [← HCS]
  refine (check_any om xm ga a3 a4 d gc b3 o3 n3 c3 b4 o4 n4 c4 Z3 Z4 kO w' hom hxm (h3.later hB) (h4.later hB) hn3 hn4 bC hC.symm hga hE hKc).mono ?_
  rintro e w4 ⟨rfl, hb4⟩
  have hB4 : Below w.heap.size w w4 := hB.trans (hb4.mono hB.size)
  go_wp2_with fail
  go_ret
  exact ⟨rfl, hB4⟩

set_option maxHeartbeats 1600000 in
set_option maxRecDepth 100000 in
theorem law_place (om xm sm : Int) (a3 a4 : Option Addr) (b3 o3 n3 c3 b4 o4 n4 c4 : Nat) (Z3 Z4 : Nat → Int) (w : World) (hom : 0 ≤ om ∧ om ≤ 65535) (hxm : 0 ≤ xm ∧ xm ≤ 65535) (hsm : 0 ≤ sm ∧ sm ≤ 65535)
    (h3 : Ns w a3 b3 o3 n3 Z3) (h4 : Ns w a4 b4 o4 n4 Z4) (hn3 : n3 ≤ 1024) (hn4 : n4 ≤ 1024) :
    Calls Yba.prog 4 #[.int .u16 om, .int .u16 xm, .int .u16 sm, .slice a3 n3 c3, .slice a4 n4 c4] w fun e w' => e = .returned (.bool true) ∧ Below w.heap.size w w' := by
  have hn3' : ¬ 1024 < n3 := by omega
  have hn4' : ¬ 1024 < n4 := by omega
  go_enter Yba.func4, Yba.ntmps4
  go_wp2_with fail
  refine (sides_any om xm sm a3 a4 b3 o3 n3 c3 b4 o4 n4 c4 Z3 Z4 w hom hxm hsm h3 h4 hn3 hn4).mono ?_
  rintro e w1 ⟨ao, xa, oc, xc, kO, kB, rfl, hS⟩
  have hlen : (keyL (bt om) kO).length = 16 := keyL_len _ _
  have hone : ∀ v ∈ keyL (bt om) kO, v.oneCell' = true := keyL_one _ _
  generalize hcs : keyL (bt om) kO = cs at *
  have HCS : Hid (keyL (bt om) kO = cs) := hcs
  clear hcs
  have hi26 : (Yba.prog.info? 26).map (·.size) = some cs.toArray.size := by rw [Yba.size26]; simp [hlen]
  have hth := nil_there w1 cs hlen
  have hall := all_oneCell_toArray hone
  obtain ⟨hb2, hra⟩ := nil_stored w1 cs hlen
  have hil := idx_len (bt om) 16
  go_wp2_with (first | (refine wpList_store_mid (by rfl) 26 (.tmp 13) (.tmp 32) (by rfl) w1.heap.size 0 cs.toArray (by rfl) (by rfl) hth hi26 hall ?_; generalize (w1.alloc (.cells #[.pointer none, .pointer none, .pointer none, .pointer none, .pointer none, .pointer none, .pointer none, .pointer none, .pointer none, .pointer none, .pointer none, .pointer none, .pointer none, .pointer none, .pointer none, .pointer none] 26)).setCells w1.heap.size 0 cs.toArray.toList = w2 at hb2 hra ⊢))
  clear hth
  have hS2 := hS.later hb2
  have hKo : ∀ k, (Value.slice ao (idx (bt om) 16).length oc).ownBlock = some k → k ≠ w1.heap.size := fun k hk => by
    have := (hS.own.lt k hk).2
    omega
  have hK : w1.heap.size < w2.heap.size := World.block_lt_of_cell? _ _ (hra 0 (cs[0]'(by omega)) (by simp [hlen]))
  refine (meet_in hS2 w1.heap.size hK hKo).mono ?_
  rintro e w' ⟨ga, gc, d, rfl, hd, hdK, ⟨hgo, hpos⟩, hG⟩
  subst hgo
  have hB : Below w.heap.size w w' := hS2.below.grown hG.grown hS2.below.size (fun k hk => by simp only [Option.some.injEq] at hk; omega)
  have hra' : w'.rangeAt w1.heap.size 0 cs := fun j v hv => hG.grown.cell (hra j v hv) (by simpa using fun e => hdK e.symm)
  have hi26' : (Yba.prog.info? 26).map (·.size) = some cs.length := by rw [Yba.size26]; simp [hlen]
  clear hall hi26 hra hb2
  have hKc : ∀ x, x ∈ idx (fun i => bt om i && bt xm i) 16 → w'.cell? ⟨kO x, 0, none⟩ = some (.string (idS x)) := fun x hx => by
    have h1 := hG.keys x hx
    rw [cell_of_row w' (kO x) 0 _ 9 (0, 0) h1]
    rfl
  have hE : Ents w' d kO (fun x => if bn Z4 n4 x < bn Z3 n3 x then bn Z4 n4 x else bn Z3 n3 x) (idx (fun i => bt om i && bt xm i) 16) := hG.ents
  have hga := hG.addr
  generalize hC : (fun i => bt om i && bt xm i) = bC at *
  have hl16 := idx_len bC 16
  obtain ⟨i35, hi35, _, hs35, _⟩ := info_parts Yba.info35
  by_cases hz : 0 < (idx bC 16).length
  · have hzd : decide (0 < (((idx bC 16).length : Nat) : Int)) = true := by simpa using hz
    have hpo := hpos hz
    have hga' := hga hz
    subst hga'
    have hsame := fun (a : Addr) (w : World) => Lib.run_neq_ptr_same (P := Yba.prog) (w := w) a Yba.underlying32 hi35
    go_wp2_with fail
    go_quiet (fail)
    go_wp2_with (first | (refine wpList_load_mid (by rfl) 26 (.tmp 13) (by rfl) w1.heap.size 0 (by rfl) cs _ hra' Yba.underlying26 (by rfl) hi26' ?_; clear hra' hi26'))
    rw [← HCS]
    refine (check_any om xm (some ⟨d, 0, none⟩) a3 a4 d gc b3 o3 n3 c3 b4 o4 n4 c4 Z3 Z4 kO _ hom hxm (h3.later (below_drewN hB _)) (h4.later (below_drewN hB _)) hn3 hn4 bC hC.symm (fun h => by first | rfl | exact hga h) ⟨hE.c0, hE.c1⟩ hKc).mono ?_
    rintro e w4 ⟨rfl, hb4⟩
    have hB4 : Below w.heap.size w w4 := (below_drewN hB _).trans (hb4.mono hB.size)
    go_wp2_with fail
    go_ret
    exact ⟨rfl, hB4⟩
  · have hzd : decide (0 < (((idx bC 16).length : Nat) : Int)) = false := by simpa using hz
    go_wp2_with fail
    go_quiet (fail)
    go_wp2_with (first | (refine wpList_load_mid (by rfl) 26 (.tmp 13) (by rfl) w1.heap.size 0 (by rfl) cs _ hra' Yba.underlying26 (by rfl) hi26' ?_; clear hra' hi26'))
    rw [← HCS]
    refine (check_any om xm ga a3 a4 d gc b3 o3 n3 c3 b4 o4 n4 c4 Z3 Z4 kO _ hom hxm (h3.later (below_drewN hB _)) (h4.later (below_drewN hB _)) hn3 hn4 bC hC.symm (fun h => by first | rfl | exact hga h) ⟨hE.c0, hE.c1⟩ hKc).mono ?_
    rintro e w4 ⟨rfl, hb4⟩
    have hB4 : Below w.heap.size w w4 := (below_drewN hB _).trans (hb4.mono hB.size)
    go_wp2_with fail
    go_ret
    exact ⟨rfl, hB4⟩

set_option maxHeartbeats 400000 in
theorem long_meet (om xm sm : Int) (a3 a4 : Option Addr) (n3 c3 n4 c4 : Nat) (w : World) (h : 1024 < n3 ∨ 1024 < n4) :
    Calls Yba.prog 3 #[.int .u16 om, .int .u16 xm, .int .u16 sm, .slice a3 n3 c3, .slice a4 n4 c4] w fun e w' => e = .returned (.bool true) ∧ Below w.heap.size w w' := by
  by_cases h3 : 1024 < n3
  · go_enter Yba.func3, Yba.ntmps3
    go_wp2
    go_ret
    exact ⟨rfl, Below.refl _ _⟩
  · have h4 : 1024 < n4 := by omega
    go_enter Yba.func3, Yba.ntmps3
    go_wp2
    go_ret
    exact ⟨rfl, Below.refl _ _⟩

set_option maxHeartbeats 400000 in
theorem long_place (om xm sm : Int) (a3 a4 : Option Addr) (n3 c3 n4 c4 : Nat) (w : World) (h : 1024 < n3 ∨ 1024 < n4) :
    Calls Yba.prog 4 #[.int .u16 om, .int .u16 xm, .int .u16 sm, .slice a3 n3 c3, .slice a4 n4 c4] w fun e w' => e = .returned (.bool true) ∧ Below w.heap.size w w' := by
  by_cases h3 : 1024 < n3
  · go_enter Yba.func4, Yba.ntmps4
    go_wp2
    go_ret
    exact ⟨rfl, Below.refl _ _⟩
  · have h4 : 1024 < n4 := by omega
    go_enter Yba.func4, Yba.ntmps4
    go_wp2
    go_ret
    exact ⟨rfl, Below.refl _ _⟩

end Go.Proofs.Ybulkeee
