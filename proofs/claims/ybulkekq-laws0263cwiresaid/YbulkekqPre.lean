/-
  append(nil, x...) of the bytes that lead; the plain end of LawS0263CWire. No walk.
-/
import Derived.Test.YbulkekqBuild
import Derived.Test.YbulkekqBody
import Derived.Test.YbulkekqZbe
import Derived.Test.YbulkekqEqual
import Derived.Laws.OwnMore
namespace Go.Proofs.Ybulkekq
open Go.RowKit
open Pk

/-- The leading bytes as they came in. -/
structure Pre (w : World) (a : Option Addr) (np c : Nat) (X : List Int) : Prop where
  len : X.length = np
  at_ : (a = none ∧ np = 0 ∧ c = 0) ∨ ∃ ad, a = some ad ∧ ∀ j u, (X.map (Value.int .u8))[j]? = some u → w.cell? (ad.add j) = some u

theorem Pre.later {w w' : World} {a : Option Addr} {np c B : Nat} {X : List Int} (h : Pre w a np c X) (hB : B = w.heap.size) (hb : Below B w w') : Pre w' a np c X := by
  subst hB
  refine ⟨h.len, ?_⟩
  rcases h.at_ with h0 | ⟨ad, rfl, hY⟩
  · exact Or.inl h0
  · refine Or.inr ⟨ad, rfl, fun j v hv => ?_⟩
    exact cell_below hb (World.block_lt_of_cell? _ _ (hY j v hv)) (hY j v hv)

theorem Ow.nil {w : World} {base : Nat} (hb : base ≤ w.heap.size) : Ow base w (.slice none 0 0) [] := ⟨World.ownsRow_nil _ _ _ _, hb⟩

theorem run_pre {w : World} {ty : TypeId} {base : Nat} (hb : base ≤ w.heap.size) {a : Option Addr} {np c : Nat} {X : List Int} (hP : Pre w a np c X) (hl : np ≤ 1024) :
    ∃ v' w', (Builtin.append_ #[22, 22] ty #[.slice none 0 0, .slice a np c]).run Yba.prog w = .ok v' w' ∧ Ow base w' v' X ∧ Below base w w' := by
  rcases hP.at_ with ⟨rfl, rfl, rfl⟩ | ⟨ad, rfl, hY⟩
  · obtain ⟨i, hi, hz, hsz, hby⟩ := info_parts Yba.info5
    obtain rfl : X = [] := List.eq_nil_of_length_eq_zero hP.len
    exact ⟨_, w, run_append_owned_none (P := Yba.prog) w base 22 ty 5 i 1 Yba.underlying22 hi _ 0 [] (World.ownsRow_nil _ _ _ _), Ow.nil hb, Below.refl _ _⟩
  · have h := run_app (ty := ty) (Ow.nil hb) ad np c hP.len hY (by show 0 + np ≤ _; omega)
    rwa [List.nil_append] at h

theorem wpList_pre {w : World} {ops : Array Oper} {rest : List Oper} {o : Oper} {a : Act} {Q : Exit → Act → World → Prop} (hgd : o.guard = none) (x : Operand)
    (ho : o.op = .call { callee := .builtin .append, args := #[.const (.slice none 0 0), x], argTypes := #[22, 22] }) (base : Nat) (hb : base ≤ w.heap.size)
    (ad : Option Addr) (np c : Nat) (X : List Int) (hP : Pre w ad np c X) (hx : a.eval x = .slice ad np c) (hl : np ≤ 1024)
    (h : ∀ v' w', Ow base w' v' X → Below base w w' → wpList Yba.prog ops Q rest (a.put o.dst v') w') : wpList Yba.prog ops Q (o :: rest) a w := by
  refine wpList_plain hgd fun K hK => ?_
  obtain ⟨v', w', hr, h2, h3⟩ := run_pre (ty := o.type) hb hP hl
  have he : a.eval (.const (.slice none 0 0)) = .slice none 0 0 := rfl
  unfold Oper.wp execOp
  simp only [ho, resolve, invoke, builtin, Sem.run_bind, Sem.run_pure, Result.andThen_ok, List.map_toArray, List.map_cons, List.map_nil, he, hx, hr]
  exact hK _ _ (h v' w' h2 h3)

/-- What the law's function leaves. -/
def Fin (w : World) (e : Ending) (w' : World) : Prop := e = .returned (.bool true) ∧ Below w.heap.size w w'

theorem be2_u64 (z : Int) : be 2 (z % 18446744073709551616) = be 2 z := by
  simp only [be]
  congr 1
  · show z % 18446744073709551616 / 2 ^ 8 % 256 = z / 2 ^ 8 % 256; omega
  · congr 1
    show z % 18446744073709551616 / 2 ^ 0 % 256 = z / 2 ^ 0 % 256; omega

/-- j signatures are appended. -/
structure Sj (base : Nat) (w wr : World) (v : Value) (X : List Int) (S : List SigD) (j : Nat) : Prop where
  le : j ≤ S.length
  ow : Ow base wr v (X ++ encSigs (S.take j))
  below : Below base w wr

theorem take_nextS {S : List SigD} {j : Nat} {s : SigD} (h : S[j]? = some s) : encSigs (S.take (j + 1)) = encSigs (S.take j) ++ (be 2 s.signer ++ s.sig) := by
  rw [List.take_add_one, h, encSigs_app]
  simp [encSigs]

end Go.Proofs.Ybulkekq
