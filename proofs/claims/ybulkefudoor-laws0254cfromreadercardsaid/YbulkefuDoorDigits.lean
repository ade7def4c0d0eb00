/-
  (*Decoder).digits over any 'more' that keeps its word; more at the end; Reset.
-/
import Derived.Test.YbulkefuDoorSmall
namespace Go.Proofs.YbulkefuDoor
open Go.RowKit

/-- The decoder at block b holds m bytes of B. -/
structure Buf (w : World) (b : Nat) (B : Nat → Int) (m : Nat) (sa : Option Addr) (bb oo c : Nat) : Prop where
  buf : w.cell? ⟨b, 0, none⟩ = some (.slice sa m c)
  bys : Bs w sa bb oo m B

/-- What more is to keep: D w m: m bytes have come; n come in all. -/
structure Word (b n : Nat) (B : Nat → Int) (D : World → Nat → Prop) : Prop where
  buf : ∀ w m, D w m → m ≤ n ∧ ∃ sa bb oo c, Buf w b B m sa bb oo c
  more : ∀ w m, D w m → Calls Ybad.prog 9 #[.pointer (some ⟨b, 0, none⟩)] w fun e w' => ∃ (t : Bool) (m' : Nat), e = .returned (.bool t) ∧ D w' m' ∧ (t = true → m < m') ∧ (t = false → m = n) ∧ m ≤ m'

def DigPost (B : Nat → Int) (D : World → Nat → Prop) (n i m0 : Nat) (w : World) (e : Ending) (w' : World) : Prop :=
  ∃ r m : Nat, e = .returned (.int .i64 r) ∧ Dig B n i r ∧ D w' m ∧ m0 ≤ m ∧ (w' = w ∨ m0 ≤ r) ∧ r ≤ 1000000

/-- The outer loop's frame. -/
def DigI (B : Nat → Int) (D : World → Nat → Prop) (n i m0 : Nat) (w : World) (k : Nat) (m : Nat) (wr : World) : Prop :=
  i ≤ k ∧ k ≤ 1000000 ∧ (∀ j, i ≤ j → j < k → j < n ∧ isd (B j)) ∧ D wr m ∧ m0 ≤ m ∧ (wr = w ∨ m0 ≤ k)

theorem dig_all {B : Nat → Int} {D : World → Nat → Prop} {n i m0 k m q : Nat} {w wr : World} (hI : DigI B D n i m0 w k m wr) (hall : ∀ j, k ≤ j → j < q → j < n ∧ isd (B j)) : ∀ j, i ≤ j → j < q → j < n ∧ isd (B j) := fun j h1 h2 => by
  by_cases e : j < k
  · exact hI.2.2.1 j h1 e
  · exact hall j (by omega) h2

theorem dig_stop {B : Nat → Int} {D : World → Nat → Prop} {n i m0 k m q : Nat} {w wr : World} (hI : DigI B D n i m0 w k m wr) (hkq : k ≤ q) (hq : q ≤ 1000000) (hall : ∀ j, k ≤ j → j < q → j < n ∧ isd (B j)) (hs : ¬ isd (B q)) :
    DigPost B D n i m0 w (.returned (.int .i64 q)) wr := by
  obtain ⟨h1, h2, h3, h4, h5, h6⟩ := hI
  refine ⟨q, m, rfl, ⟨by omega, dig_all ⟨h1, h2, h3, h4, h5, h6⟩ hall, fun _ => hs⟩, h4, h5, ?_, hq⟩
  rcases h6 with h6 | h6
  · exact .inl h6
  · right; omega

def bufLen (b : Nat) (w : World) : Nat := match w.cell? ⟨b, 0, none⟩ with | some (.slice _ m _) => m | _ => 0
theorem bufLen_is {b m : Nat} {w : World} {sa : Option Addr} {c : Nat} (h : w.cell? ⟨b, 0, none⟩ = some (.slice sa m c)) : bufLen b w = m := by unfold bufLen; rw [h]

set_option maxHeartbeats 800000 in
theorem digits_any (b n : Nat) (B : Nat → Int) (D : World → Nat → Prop) (hD : Word b n B D) (hn : n ≤ 1000000) (i m0 : Nat) (hi : i ≤ 1000000) (w : World) (h : D w m0) :
    Calls Ybad.prog 7 #[.pointer (some ⟨b, 0, none⟩), .int .i64 i] w (DigPost B D n i m0 w) := by
  have h0 : DigI B D n i m0 w i m0 w := ⟨Nat.le_refl _, hi, fun j h1 h2 => by omega, h, Nat.le_refl _, .inl rfl⟩
  go_enter Ybad.func7, Ybad.ntmps7
  go_wp2_with fail
  go_loopw [1] (fun v wr => ∃ k m : Nat, v = .int .i64 k ∧ DigI B D n i m0 w k m wr) (fun _ wr => n - bufLen b wr)
  case atStart => exact ⟨i, m0, rfl, h0⟩
  case round =>
    obtain ⟨w1, ew⟩ : ∃ x, x = wr := ⟨_, rfl⟩
    subst ew
    obtain ⟨k, m, rfl, hI⟩ := hrel
    have HI : Hid (DigI B D n i m0 w k m w1) := hI
    obtain ⟨hmn, sa, bb, oo, c, hB⟩ := hD.buf w1 m hI.2.2.2.1
    have hbuf := hB.buf
    have HB : Hid (Bs w1 sa bb oo m B) := hB.bys
    have hlen := bufLen_is hbuf
    clear hI hB
    go_wp2_with fail
    go_loopw [1] (fun v wr => ∃ q : Nat, v = .int .i64 q ∧ k ≤ q ∧ (q ≤ m ∨ q = k) ∧ wr = w1 ∧ Hid (∀ j, k ≤ j → j < q → j < n ∧ isd (B j))) (fun v _ => m - (intOf v).toNat)
    case atStart => exact ⟨k, rfl, Nat.le_refl _, .inr rfl, rfl, fun j h1 h2 => by omega⟩
    case round =>
      obtain ⟨q, rfl, hkq, hqm, rfl, hall⟩ := hrel
      have hq : q ≤ 1000000 := by
        have := HI.out.2.1
        omega
      by_cases hlt : q < m
      · have hlt' : (q : Int) < (m : Int) := by omega
        obtain rfl := HB.out.addr (by omega)
        have hc := HB.out.cell q hlt
        by_cases hlo : B q < 48
        · go_wp2
          go_ret
          exact dig_stop HI.out hkq hq hall.out (fun hd => by unfold isd at hd; omega)
        · by_cases hhi : 57 < B q
          · go_wp2
            go_ret
            exact dig_stop HI.out hkq hq hall.out (fun hd => by unfold isd at hd; omega)
          · go_wp2
            go_roundw
            case rel => exact ⟨q + 1, by go_num, by omega, by omega, by first | rfl | trivial, fun j h1 h2 => by
              by_cases e : j = q
              · subst e; unfold isd; omega
              · exact hall.out j h1 (by omega)⟩
            case measure => simp [intOf]; omega
      · have hlt' : ¬ (q : Int) < (m : Int) := by omega
        go_wp2_with fail
        refine (hD.more wr m HI.out.2.2.2.1).mono ?_
        rintro e w2 ⟨t, m', rfl, hD2, ht, hf, hmm⟩
        obtain ⟨hmn2, sa2, bb2, oo2, c2, hB2⟩ := hD.buf w2 m' hD2
        have hlen2 := bufLen_is hB2.buf
        clear hB2
        have h5 := HI.out.2.2.2.2.1
        have hall' := dig_all HI.out hall.out
        have hik := HI.out.1
        cases t with
        | true =>
          have ht := ht rfl
          have HN : Hid (DigI B D n i m0 w q m' w2) := ⟨by omega, hq, hall', hD2, by omega, .inr (by omega)⟩
          clear hall' hD2 hf
          go_wp2_with fail
          go_roundw
          case rel => exact ⟨q, m', rfl, HN.out⟩
          case measure => omega
        | false =>
          have hf := hf rfl
          have HN : Hid (DigPost B D n i m0 w (.returned (.int .i64 q)) w2) := ⟨q, m', rfl, ⟨by omega, hall', fun h => by omega⟩, hD2, by omega, .inr (by omega), hq⟩
          clear hall' hD2 ht
          go_wp2_with fail
          go_ret
          exact HN.out

set_option maxHeartbeats 400000 in
theorem more_eof (b : Nat) (w : World) (h : w.cell? ⟨b, 3, none⟩ = some (.bool true)) : Calls Ybad.prog 9 #[.pointer (some ⟨b, 0, none⟩)] w fun e w' => e = .returned (.bool false) ∧ w' = w := by
  go_enter Ybad.func9, Ybad.ntmps9
  go_wp2
  go_ret
  exact ⟨rfl, rfl⟩

theorem word_eof (b n : Nat) (B : Nat → Int) (w : World) (sa : Option Addr) (bb oo c : Nat) (hB : Buf w b B n sa bb oo c) (he : w.cell? ⟨b, 3, none⟩ = some (.bool true)) : Word b n B (fun w' m => w' = w ∧ m = n) :=
  ⟨fun w' m ⟨h1, h2⟩ => by subst h1; subst h2; exact ⟨Nat.le_refl _, _, _, _, _, hB⟩, fun w' m ⟨h1, h2⟩ => by
    subst h1; subst h2
    refine (more_eof b w' he).mono ?_
    rintro e w2 ⟨rfl, rfl⟩
    exact ⟨false, m, rfl, ⟨rfl, rfl⟩, fun h => by simp at h, fun _ => rfl, Nat.le_refl _⟩⟩

set_option maxHeartbeats 400000 in
theorem reset_any (b : Nat) (v0 v1 v2 v3 v4 v5 : Value) (w : World) (h0 : w.cell? ⟨b, 0, none⟩ = some v0) (h1 : w.cell? ⟨b, 1, none⟩ = some v1) (h2 : w.cell? ⟨b, 2, none⟩ = some v2) (h3 : w.cell? ⟨b, 3, none⟩ = some v3) (h4 : w.cell? ⟨b, 4, none⟩ = some v4) (h5 : w.cell? ⟨b, 5, none⟩ = some v5)
    (f0 : w.frozen? ⟨b, 0, none⟩ = false) (f1 : w.frozen? ⟨b, 1, none⟩ = false) (f2 : w.frozen? ⟨b, 2, none⟩ = false) (f3 : w.frozen? ⟨b, 3, none⟩ = false) (f4 : w.frozen? ⟨b, 4, none⟩ = false) (f5 : w.frozen? ⟨b, 5, none⟩ = false) (sa : Option Addr) (n c : Nat) :
    Calls Ybad.prog 6 #[.pointer (some ⟨b, 0, none⟩), .slice sa n c, .int .i64 0] w fun e w' => e = .returned (.tuple #[]) ∧ w' = (((((w.setCell ⟨b, 0, none⟩ (.slice sa n c)).setCell ⟨b, 1, none⟩ (.int .i64 0)).setCell ⟨b, 2, none⟩ .nilIface).setCell ⟨b, 3, none⟩ (.bool true)).setCell ⟨b, 4, none⟩ .nilIface).setCell ⟨b, 5, none⟩ (.int .i64 0) := by
  go_enter Ybad.func6, Ybad.ntmps6
  go_wp2
  go_end0
  exact ⟨rfl, rfl⟩

end Go.Proofs.YbulkefuDoor
