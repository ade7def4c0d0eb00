/-
  Appending bytes: the slice that grows; binary.BigEndian's three; zzs0263cbe; appendBoolean.
-/
import Derived.Test.YbulkekqRows
import Derived.Test.YbulkekqPlain
import Derived.WalkKit
import Derived.WalkSpells
import Derived.WalkLawsBesides
import Derived.Deep.OwnRows
import Derived.Deep.RegionHeld3
import Derived.BigQuiet
namespace Go.Proofs.Ybulkekq
open Go.RowKit
open Pk

theorem Yba.info5 : (Yba.prog.info? 5).map (fun i => (i.zero, i.size, i.bytes)) = some (some (.int .u8 0), 1, 1) := by kernel_rfl

/-- v is a slice of the bytes X, in a block of its own at base or above. -/
structure Ow (base : Nat) (w : World) (v : Value) (X : List Int) : Prop where
  own : w.ownsRow base 5 1 v X.length (X.map (Value.int .u8))
  le : base ≤ w.heap.size

/-- What a call that appends leaves. -/
def App (base : Nat) (w : World) (X : List Int) (e : Ending) (w' : World) : Prop := ∃ v', e = .returned v' ∧ Ow base w' v' X ∧ Below base w w'

theorem Ow.later {base : Nat} {w w' : World} {v : Value} {X : List Int} (h : Ow base w v X) (hb : Below w.heap.size w w') : Ow base w' v X :=
  ⟨h.own.kept ⟨hb.os, hb.tape, hb.output, hb.size, fun k hk _ => hb.block k hk⟩ (row := none) (by cases v.ownBlock <;> simp), Nat.le_trans h.le hb.size⟩

theorem Ow.alloc {base : Nat} {w : World} {v : Value} {X : List Int} (h : Ow base w v X) (o : Obj) : Ow base (w.alloc o) v X := h.later ((Below.refl _ _).alloc (Nat.le_refl _) _)

theorem bytes_one (Y : List Int) : ∀ u ∈ Y.map (Value.int .u8), u.oneCell' = true := by
  intro u hu
  simp only [List.mem_map] at hu
  obtain ⟨_, _, rfl⟩ := hu
  rfl

/-- An append of the bytes Y. -/
theorem run_app {w : World} {ty : TypeId} {base : Nat} {v : Value} {X Y : List Int} (hO : Ow base w v X) (ad : Addr) (m c : Nat) (hm : Y.length = m) (hY : ∀ j u, (Y.map (Value.int .u8))[j]? = some u → w.cell? (ad.add j) = some u) (hb : X.length + m ≤ 1000000) :
    ∃ v' w', (Builtin.append_ #[22, 22] ty #[v, .slice (some ad) m c]).run Yba.prog w = .ok v' w' ∧ Ow base w' v' (X ++ Y) ∧ Below base w w' := by
  obtain ⟨i, hi, hz, hsz, hby⟩ := info_parts Yba.info5
  obtain ⟨v', w', hr, h2, h3, _⟩ := run_append_own (P := Yba.prog) w base 22 ty 5 i (.int .u8 0) 1 1 Yba.underlying22 hi hz hsz hby rfl (by decide) v X.length _ hO.own ad m c (Y.map (Value.int .u8)) (by simp [hm]) hY (bytes_one Y) (by unfold maxLen; omega) (by omega) hO.le
  refine ⟨v', w', hr, ⟨?_, Nat.le_trans hO.le h3.size⟩, ⟨h3.os, h3.tape, h3.output, h3.size, fun k hk => h3.block k (Nat.lt_of_lt_of_le hk hO.le) (fun e => ?_)⟩⟩
  · rw [List.length_append, List.map_append, hm]; exact h2
  · have := (hO.own.lt k e.symm).1
    omega

theorem wpList_app {w : World} {ops : Array Oper} {rest : List Oper} {o : Oper} {a : Act} {Q : Exit → Act → World → Prop} (hgd : o.guard = none) (s x : Operand)
    (ho : o.op = .call { callee := .builtin .append, args := #[s, x], argTypes := #[22, 22] }) (base : Nat) (v : Value) (X Y : List Int) (hs : a.eval s = v) (hO : Ow base w v X)
    (ad : Addr) (m c : Nat) (hx : a.eval x = .slice (some ad) m c) (hm : Y.length = m) (hY : ∀ j u, (Y.map (Value.int .u8))[j]? = some u → w.cell? (ad.add j) = some u) (hb : X.length + m ≤ 1000000)
    (h : ∀ v' w', Ow base w' v' (X ++ Y) → Below base w w' → wpList Yba.prog ops Q rest (a.put o.dst v') w') : wpList Yba.prog ops Q (o :: rest) a w := by
  refine wpList_plain hgd fun K hK => ?_
  obtain ⟨v', w', hr, h2, h3⟩ := run_app (ty := o.type) hO ad m c hm hY hb
  unfold Oper.wp execOp
  simp only [ho, resolve, invoke, builtin, Sem.run_bind, Sem.run_pure, Result.andThen_ok, List.map_toArray, List.map_cons, List.map_nil, hs, hx, hr]
  exact hK _ _ (h v' w' h2 h3)

/-- Bytes that were just laid. -/
theorem new_bytes (w : World) (Y : List Int) (t : TypeId) : ∀ j u, (Y.map (Value.int .u8))[j]? = some u → (w.alloc (.cells (Y.map (Value.int .u8)).toArray t)).cell? ((⟨w.heap.size, 0, none⟩ : Addr).add j) = some u := by
  intro j u hu
  rw [show (⟨w.heap.size, 0, none⟩ : Addr).add j = ⟨w.heap.size, j, none⟩ by unfold Addr.add; split <;> simp_all, World.cell?_alloc_at _ _ _ _ rfl]
  simpa using hu

set_option maxHeartbeats 400000 in
theorem bool_any (base : Nat) (w : World) (v : Value) (X : List Int) (b : Bool) (hO : Ow base w v X) (hb : X.length + 1 ≤ 1000000) :
    Calls Yba.prog 17 #[v, .bool b] w (App base w (X ++ [if b then 1 else 0])) := by
  have H1 : Hid (Ow base (w.alloc (.cells #[.int .u8 1] 5)) v X) := hO.alloc _
  have H0 : Hid (Ow base (w.alloc (.cells #[.int .u8 0] 5)) v X) := hO.alloc _
  have hbl : Hid (∀ o, Below base w (w.alloc o)) := fun o => ((Below.refl _ _).alloc (Nat.le_refl _) _).mono hO.le
  clear hO
  cases b with
  | true =>
    go_enter Yba.func17, Yba.ntmps17
    go_wp2_with (at_builtin; refine wpList_app (by rfl) (.tmp 6) (.tmp 7) (by rfl) base v X [1] (by rfl) H1.out ⟨w.heap.size, 0, none⟩ 1 1 (by rfl) (by rfl) (new_bytes w [1] 5) (by omega) ?_; intro v' w' hO' hb')
    go_ret
    exact ⟨_, rfl, hO', (hbl.out _).trans hb'⟩
  | false =>
    go_enter Yba.func17, Yba.ntmps17
    go_wp2_with (at_builtin; refine wpList_app (by rfl) (.tmp 9) (.tmp 10) (by rfl) base v X [0] (by rfl) H0.out ⟨w.heap.size, 0, none⟩ 1 1 (by rfl) (by rfl) (new_bytes w [0] 5) (by omega) ?_; intro v' w' hO' hb')
    go_ret
    exact ⟨_, rfl, hO', (hbl.out _).trans hb'⟩

end Go.Proofs.Ybulkekq
