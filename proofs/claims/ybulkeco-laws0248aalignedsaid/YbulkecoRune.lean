/-
  The walks of utf8.RuneCountInString, utf8.RuneCount (after the library's own texts, Derived/Shelf/Utf8/RuneCount.lean and Derived/Shelf/Spec/RuneCount.lean) and of row.width.
-/
import Derived.Test.YbulkecoPlain
import Derived.Test.YbulkecoRows
import Derived.WalkKit
import Derived.WalkSpells
import Derived.WalkLawsBesides
import Derived.Lib.RuneCountTail
import Derived.Laws.BytesArg
import Derived.Laws.Cells
namespace Go.Proofs.Ybulkeco
open Go.RowKit

set_option maxHeartbeats 4000000 in
set_option maxRecDepth 1000000 in
theorem runeStr (s : ByteArray) (w : World) (hs : s.size < 9223372036854775807) :
    Calls Yba.prog 15 #[.string s] w fun e w' => e = .returned (.int .i64 (Lib.runeCount s)) ∧ ∃ pos, w' = w.iter s pos := by
  go_enter Yba.func15, Yba.ntmps15
  go_wp2
  go_loopw [2] (fun n w' => ∃ (pos b acc : Nat), w' = w.iter s pos ∧ n = .int .i64 acc ∧ acc + Lib.runeCountFrom s b pos = Lib.runeCount s ∧ s.size ≤ pos + b ∧ acc ≤ pos) (fun _ w' => s.size - w'.iterPos w.heap.size)
  case atStart => exact ⟨0, s.size, 0, rfl, rfl, by simp [Lib.runeCount], by omega, Nat.le_refl _⟩
  case round =>
    obtain ⟨pos, b, acc, rfl, rfl, hc, hb, ha⟩ := hrel
    by_cases hp : pos < s.size
    · have hnx : ∀ ty, (Instr.next (.pointer (some ⟨w.heap.size, 0, none⟩)) true ty).run Yba.prog (w.iter s pos) = _ := fun ty => run_next_any w s pos ty hp
      have hwd := Lib.decode_width_pos s pos hp
      go_wp2
      go_roundw
      case rel =>
        cases b with
        | zero => omega
        | succ b =>
          refine ⟨pos + (Utf8.decode s pos).2, b, acc + 1, rfl, by go_num, ?_, by omega, by omega⟩
          rw [← hc]
          simp [Lib.runeCountFrom, hp]
          omega
      case measure =>
        simp
        omega
    · have hnx : ∀ ty, (Instr.next (.pointer (some ⟨w.heap.size, 0, none⟩)) true ty).run Yba.prog (w.iter s pos) = _ := fun ty => run_next_end w s pos ty hp
      go_wp2
      go_ret
      rw [Lib.runeCountFrom_end s b pos hp, Nat.add_zero] at hc
      subst hc
      exact ⟨rfl, _, rfl⟩

theorem strOfNums_bytes (t : ByteArray) : strOfNums (t.data.toList.map fun x => (x.toNat : Int)) = t := by
  cases t with
  | mk d =>
    have h : ∀ l : List UInt8, l.map ((fun n : Int => UInt8.ofNat n.toNat) ∘ fun x : UInt8 => (x.toNat : Int)) = l := by
      intro l
      induction l with
      | nil => rfl
      | cons x r ih => simp [ih]
    simp [strOfNums, h]

theorem runeCount_none (t : ByteArray) (h : t.size = 0) : Lib.runeCount t = 0 := by
  unfold Lib.runeCount
  rw [h]
  rfl

set_option maxHeartbeats 2000000 in
set_option maxRecDepth 1000000 in
theorem runeBytes (s : ByteArray) (b off cap : Nat) (w : World) (hcap : s.size ≤ cap) (hp : ∀ j, j < s.size → w.cell? ⟨b, off + j, none⟩ = some (.int .u8 (s.get! j).toNat)) (hs : s.size < 9223372036854775807) :
    Calls Yba.prog 13 #[.slice (some ⟨b, off, none⟩) s.size cap] w fun e w' => e = .returned (.int .i64 (Lib.runeCount s)) ∧ (w' = w ∨ ∃ t pos, w' = w.iter t pos) := by
  go_enter Yba.func13, Yba.ntmps13
  go_wp2
  go_loop [4] (fun n => ∃ k : Nat, k ≤ s.size ∧ n = .int .i64 k ∧ ∀ j, j < k → (s.get! j).toNat < 128) (fun n => s.size - (intOf n).toNat)
  case atStart => exact ⟨0, Nat.zero_le _, rfl, fun j hj => absurd hj (Nat.not_lt_zero _)⟩
  case round =>
    obtain ⟨k, hk, rfl, hasc⟩ := hrel
    by_cases hlt : k < s.size
    · have hcell := hp k hlt
      obtain ⟨y, hy⟩ : ∃ y, s.get! k = y := ⟨_, rfl⟩
      rw [hy] at hcell
      have hltz : (k : Int) < (s.size : Int) := by omega
      by_cases ha : y.toNat < 128
      · have haz : ¬ ((y.toNat : Int) ≥ 128) := by omega
        clear hp
        go_wp2
        go_round
        case rel =>
          refine ⟨k + 1, by omega, by go_num, fun j hj => ?_⟩
          by_cases hjk : j < k
          · exact hasc j hjk
          · have : j = k := by omega
            subst this
            rw [hy]; exact ha
        case measure => simp [intOf]; omega
      · have haz : (y.toNat : Int) ≥ 128 := by omega
        have hcv : ∀ c, (convert 30 9 (.slice (some ⟨b, off + k, none⟩) (s.size - k) c)).run Yba.prog w = .ok (.string (s.extract k s.size)) w := fun c => by
          have := run_convert_bytes_arg (P := Yba.prog) w 30 5 Yba.underlying30 Yba.underlying5 b (off + k) (s.size - k) c ((s.extract k s.size).data.toList.map fun x => (x.toNat : Int))
            (by rw [List.length_map, ← Lib.size_eq, Lib.tail_size])
            (fun i hi => by
              rw [Nat.add_assoc, hp (k + i) (by omega), ← Lib.tail_get!, ← Lib.getD_get!']
              generalize (s.extract k s.size).data.toList = l
              simp only [List.getD, List.getElem?_map]
              cases l[i]? <;> rfl)
            9 Yba.underlying9
          rwa [strOfNums_bytes] at this
        have cR := runeStr (s.extract k s.size) w (by rw [Lib.tail_size]; omega)
        have hsp := Lib.runeCount_split s k hk hasc
        have hle := Lib.runeCount_le (s.extract k s.size)
        rw [Lib.tail_size] at hle
        generalize Lib.runeCount (s.extract k s.size) = c at *
        clear hp
        go_wp2_with (go_at_call 15; refine cR.mono ?_; rintro e w' ⟨rfl, pos, rfl⟩)
        go_ret
        refine ⟨?_, Or.inr ⟨_, _, rfl⟩⟩
        first | rfl | (rw [hsp]; go_num)
    · have hkk : k = s.size := by omega
      subst hkk
      have hge : ¬ ((s.size : Int) < (s.size : Int)) := by omega
      clear hp
      go_wp2
      go_ret
      refine ⟨?_, Or.inl rfl⟩
      rw [Lib.runeCount_split s s.size (Nat.le_refl _) hasc, runeCount_none _ (by rw [Lib.tail_size]; omega)]
      rfl

theorem below_rune {w w' : World} (h : w' = w ∨ ∃ t pos, w' = w.iter t pos) : Below w.heap.size w w' := by
  rcases h with rfl | ⟨t, pos, rfl⟩
  · exact Below.refl _ _
  · exact (Below.refl _ _).alloc (Nat.le_refl _) _

set_option maxHeartbeats 800000 in
theorem width_first (s : ByteArray) (st pb Lr pC bs n cap : Nat) (w : World) (hLr : 0 < Lr) (hLr2 : Lr ≤ 1000000) (hcap : n ≤ cap) (hn : n ≤ 9223372036854775806) (hto : st + s.size < n)
    (hpos : w.cell? ⟨pb, 0, none⟩ = some (.int .i64 ((st + s.size : Nat) : Int)))
    (hsrc : ∀ j, j < s.size → w.cell? ⟨bs, st + j, none⟩ = some (.int .u8 (s.get! j).toNat)) :
    Calls Yba.prog 11 #[.agg #[.int .i64 st, .slice (some ⟨pb, 0, none⟩) Lr pC, .bool false], .slice (some ⟨bs, 0, none⟩) n cap, .int .i64 0] w fun e w' => e = .returned (.int .i64 (Lib.runeCount s)) ∧ Below w.heap.size w w' := by
  have hpb : pb < w.heap.size := World.block_lt_of_cell? _ _ hpos
  have hLz : (0 : Int) < (Lr : Int) := by omega
  have hto' : st + s.size ≤ n := by omega
  have hco : cap ≠ st := by omega
  have HS : Hid (∀ o j, j < s.size → (w.alloc o).cell? ⟨bs, st + j, none⟩ = some (.int .u8 (s.get! j).toNat)) := fun o j hj => by
    have h := hsrc j hj
    rw [World.cell?_alloc_past o bs _ (World.block_lt_of_cell? _ _ h), h]
  clear hsrc
  go_enter Yba.func11, Yba.ntmps11
  go_wp2_with fail
  refine (runeBytes s bs st (cap - st) _ (by omega) (HS.out _) (by omega)).mono ?_
  rintro e w1 ⟨rfl, hq⟩
  have hb := ((Below.refl _ _).alloc (Nat.le_refl _) _).trans ((below_rune hq).mono (by simp))
  clear hq
  go_wp2
  go_ret
  exact ⟨rfl, hb⟩

set_option maxHeartbeats 800000 in
theorem width_next (s : ByteArray) (st fr j pb Lr pC bs n cap : Nat) (w : World) (hLr : j + 1 < Lr) (hLr2 : Lr ≤ 1000000) (hcap : n ≤ cap) (hn : n ≤ 9223372036854775806) (hto : fr + s.size < n)
    (hfr : w.cell? ⟨pb, j * 2 + 1, none⟩ = some (.int .i64 (fr : Int)))
    (hpos : w.cell? ⟨pb, (j + 1) * 2, none⟩ = some (.int .i64 ((fr + s.size : Nat) : Int)))
    (hsrc : ∀ j, j < s.size → w.cell? ⟨bs, fr + j, none⟩ = some (.int .u8 (s.get! j).toNat)) :
    Calls Yba.prog 11 #[.agg #[.int .i64 st, .slice (some ⟨pb, 0, none⟩) Lr pC, .bool false], .slice (some ⟨bs, 0, none⟩) n cap, .int .i64 ((j + 1 : Nat) : Int)] w fun e w' => e = .returned (.int .i64 (Lib.runeCount s)) ∧ Below w.heap.size w w' := by
  have hpb : pb < w.heap.size := World.block_lt_of_cell? _ _ hpos
  have hto' : fr + s.size ≤ n := by omega
  have hco : cap ≠ fr := by omega
  have HS : Hid (∀ o j, j < s.size → (w.alloc o).cell? ⟨bs, fr + j, none⟩ = some (.int .u8 (s.get! j).toNat)) := fun o j hj => by
    have h := hsrc j hj
    rw [World.cell?_alloc_past o bs _ (World.block_lt_of_cell? _ _ h), h]
  clear hsrc
  go_enter Yba.func11, Yba.ntmps11
  go_wp2_with fail
  refine (runeBytes s bs fr (cap - fr) _ (by omega) (HS.out _) (by omega)).mono ?_
  rintro e w1 ⟨rfl, hq⟩
  have hb := ((Below.refl _ _).alloc (Nat.le_refl _) _).trans ((below_rune hq).mono (by simp))
  clear hq
  go_wp2
  go_ret
  exact ⟨rfl, hb⟩

end Go.Proofs.Ybulkeco
