/-
  bytes.Equal at two slices of the same bytes.
-/
import Derived.Test.YbulkekqApp
import Derived.Laws.BytesArg
namespace Go.Proofs.Ybulkekq
open Go.RowKit
open Pk

/-- string(v) of a slice of one's own. -/
theorem conv_own {base : Nat} {w : World} {v : Value} {X : List Int} (h : w.ownsRow base 5 1 v X.length (X.map (Value.int .u8))) : (convert 22 9 v).run Yba.prog w = .ok (.string (strOfNums X)) w := by
  rcases h.2 with ⟨rfl, hn⟩ | ⟨g, cap, cur, rfl, _⟩
  · rw [run_convert_bytes_nil w 22 5 Yba.underlying22 Yba.underlying5 0 0 9 Yba.underlying9]
    have : X = [] := List.eq_nil_of_length_eq_zero hn
    subst this
    rfl
  · refine run_convert_bytes_arg w 22 5 Yba.underlying22 Yba.underlying5 g 0 X.length cap X rfl (fun i hi => ?_) 9 Yba.underlying9
    rw [Nat.zero_add, h.cellAt i (by omega)]
    simp [List.getD, hi]

set_option maxHeartbeats 400000 in
theorem equal_any (b1 b2 : Nat) (w : World) (v1 v2 : Value) (X : List Int) (h1 : w.ownsRow b1 5 1 v1 X.length (X.map (Value.int .u8))) (h2 : w.ownsRow b2 5 1 v2 X.length (X.map (Value.int .u8))) :
    Calls Yba.prog 9 #[v1, v2] w fun e w' => e = .returned (.bool true) ∧ w' = w := by
  have c1 := conv_own h1
  have c2 := conv_own h2
  clear h1 h2
  generalize strOfNums X = s at *
  go_enter Yba.func9, Yba.ntmps9
  go_wp2
  go_ret
  exact ⟨by simp, rfl⟩

end Go.Proofs.Ybulkekq
