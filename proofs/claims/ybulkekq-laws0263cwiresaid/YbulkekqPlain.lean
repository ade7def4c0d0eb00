/-
  The plain side of LawS0263CWire: big-endian bytes, offers and their encoding.
-/
import Derived.KernelRfl
import GoSem.ClaimJoined
namespace Go.Proofs.Ybulkekq.Pk

/-- The low n bytes of v, the highest first. -/
def be : Nat → Int → List Int
  | 0, _ => []
  | n + 1, v => (v / 2 ^ (8 * n)) % 256 :: be n v

theorem be_len (n : Nat) (v : Int) : (be n v).length = n := by
  induction n with
  | zero => rfl
  | succ n ih => simp [be, ih]

structure SigD where
  signer : Int
  sig : List Int

structure OfD where
  H : Int
  D : List Int
  K : Int
  V : Int
  Hs : List Int
  BV : Int
  PV : Int
  BH : Int
  Vt : Bool
  S : List SigD

def encSigs : List SigD → List Int
  | [] => []
  | s :: r => be 2 s.signer ++ s.sig ++ encSigs r

def encOf (o : OfD) : List Int :=
  be 8 o.H ++ o.D ++ [o.K] ++ be 8 o.V ++ o.Hs ++ be 8 o.BV ++ be 8 o.PV ++ be 8 o.BH ++ [if o.Vt then 1 else 0] ++ be 2 o.S.length ++ encSigs o.S

/-- The first n offers. -/
def encAll (O : Nat → OfD) : Nat → List Int
  | 0 => []
  | n + 1 => encAll O n ++ encOf (O n)

/-- The signatures of the first n offers, counted. -/
def tot (O : Nat → OfD) : Nat → Nat
  | 0 => 0
  | n + 1 => tot O n + (O n).S.length

theorem tot_mono (O : Nat → OfD) {a b : Nat} (h : a ≤ b) : tot O a ≤ tot O b := by
  induction b with
  | zero => obtain rfl : a = 0 := by omega
            exact Nat.le_refl _
  | succ b ih =>
    by_cases e : a = b + 1
    · subst e; exact Nat.le_refl _
    · exact Nat.le_trans (ih (by omega)) (by simp [tot])

theorem encSigs_app (a b : List SigD) : encSigs (a ++ b) = encSigs a ++ encSigs b := by
  induction a with
  | nil => rfl
  | cons s r ih => simp [encSigs, ih]

theorem encSigs_len (l : List SigD) (h : ∀ s ∈ l, s.sig.length = 64) : (encSigs l).length = 66 * l.length := by
  induction l with
  | nil => rfl
  | cons s r ih =>
    have h1 := h s (by simp)
    have h2 := ih (fun s hs => h s (by simp [hs]))
    simp only [encSigs, List.length_append, be_len, List.length_cons, h1, h2]
    omega

/-- An offer as it can be read: byte lists of their lengths, numbers in their bounds. -/
structure OfOk (o : OfD) : Prop where
  h : 0 ≤ o.H ∧ o.H < 18446744073709551616
  d : o.D.length = 32
  k : 0 ≤ o.K ∧ o.K < 256
  v : 0 ≤ o.V ∧ o.V < 18446744073709551616
  hs : o.Hs.length = 32
  bv : 0 ≤ o.BV ∧ o.BV < 18446744073709551616
  pv : 0 ≤ o.PV ∧ o.PV < 18446744073709551616
  bh : 0 ≤ o.BH ∧ o.BH < 18446744073709551616
  s : ∀ x ∈ o.S, x.sig.length = 64 ∧ -9223372036854775808 ≤ x.signer ∧ x.signer ≤ 9223372036854775807

theorem encOf_len (o : OfD) (h : OfOk o) : (encOf o).length = 108 + 66 * o.S.length := by
  have h1 := encSigs_len o.S (fun s hs => (h.s s hs).1)
  simp only [encOf, List.length_append, be_len, h.d, h.hs, h1, List.length_cons, List.length_nil]

theorem encAll_len (O : Nat → OfD) (n : Nat) (h : ∀ i, i < n → OfOk (O i)) : (encAll O n).length = 108 * n + 66 * tot O n := by
  induction n with
  | zero => rfl
  | succ n ih =>
    have h1 := ih (fun i hi => h i (by omega))
    have h2 := encOf_len (O n) (h n (by omega))
    simp only [encAll, List.length_append, h1, h2, tot]
    omega

end Go.Proofs.Ybulkekq.Pk
