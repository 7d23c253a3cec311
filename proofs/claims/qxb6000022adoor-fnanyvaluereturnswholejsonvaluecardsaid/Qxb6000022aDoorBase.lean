import Derived.Test.Qxb6000022aDoorProg
import Derived.WalkKit
import Derived.WalkSpells
import Derived.WalkLawsBesides
import Derived.Deep.QuietTactic
import Derived.BigQuiet
import Derived.Deep.LoopGhost
import Derived.Deep.RegionHeld3
import Derived.Deep.AppendLies
import Derived.Lib.Strings
set_option linter.unusedSimpArgs false
set_option linter.unusedVariables false
namespace Go.Proofs.Qxb6000022aDoor
open Go.RowKit

/-- A slice of bytes lies in the world. -/
def BytesAt (w : World) (pa : Option Addr) (c : Nat) (l : List UInt8) : Prop :=
  l.length ≤ c ∧ c ≤ maxLen ∧ (l ≠ [] → ∃ b o, pa = some ⟨b, o, none⟩ ∧ b < w.heap.size ∧ ∀ i x, l[i]? = some x → w.cell? ⟨b, o + i, none⟩ = some (.int .u8 (x.toNat : Int)))

theorem BytesAt.below {w w' : World} {pa : Option Addr} {c : Nat} {l : List UInt8} (h : BytesAt w pa c l) (hb : Below w.heap.size w w') : BytesAt w' pa c l := by
  obtain ⟨h1, h2, h3⟩ := h
  refine ⟨h1, h2, fun hl => ?_⟩
  obtain ⟨b, o, e, hlt, hc⟩ := h3 hl
  refine ⟨b, o, e, Nat.lt_of_lt_of_le hlt hb.size, fun i x hx => ?_⟩
  rw [hb.cell (p := ⟨b, o + i, none⟩) hlt]
  exact hc i x hx
theorem BytesAt.at {w : World} {pa : Option Addr} {c k : Nat} {l : List UInt8} (h : BytesAt w pa c l) (hk : k < l.length) :
    ∃ b o, pa = some ⟨b, o, none⟩ ∧ w.cell? ⟨b, o + k, none⟩ = some (.int .u8 (l[k].toNat : Int)) := by
  obtain ⟨_, _, h3⟩ := h
  obtain ⟨b, o, rfl, _, hc⟩ := h3 (by intro e; rw [e] at hk; cases hk)
  exact ⟨b, o, rfl, hc k l[k] (List.getElem?_eq_getElem hk)⟩
/-- A slice of it. -/
theorem BytesAt.sub {w : World} {b o c i j : Nat} {l : List UInt8} {pa : Option Addr} (h : BytesAt w (some ⟨b, o, none⟩) c l) (hij : i ≤ j) (hj : j ≤ l.length) (hp : i < c → pa = some ⟨b, o + i, none⟩) : BytesAt w pa (c - i) ((l.drop i).take (j - i)) := by
  obtain ⟨h1, h2, h3⟩ := h
  refine ⟨by rw [List.length_take, List.length_drop]; omega, by omega, fun hL => ?_⟩
  have hlt : i < j := by
    rcases Nat.lt_or_ge i j with h | h
    · exact h
    · exact absurd (by rw [show j - i = 0 by omega]; rfl) hL
  obtain ⟨b', o', hb, hbl, hc⟩ := h3 (by intro e; rw [e] at hj; simp at hj; omega)
  cases hb
  refine ⟨b, o + i, hp (by omega), hbl, fun k x hx => ?_⟩
  have hk : k < j - i := by
    have := (List.getElem?_eq_some_iff.1 hx).1
    rw [List.length_take] at this
    omega
  rw [List.getElem?_take, if_pos hk, List.getElem?_drop] at hx
  rw [Nat.add_assoc]
  exact hc (i + k) x hx

theorem byte_eq (a : UInt8) (n : Nat) (hn : n < 256) : (((a.toNat : Int) == (n : Int)) = true) ↔ a = n.toUInt8 := by
  rw [beq_iff_eq, ← UInt8.toNat_inj]
  simp
  omega
theorem byte_ne (a : UInt8) (n : Nat) (hn : n < 256) (h : ¬ a = n.toUInt8) : ((a.toNat : Int) == (n : Int)) = false := by
  rw [Bool.eq_false_iff]; exact fun e => h ((byte_eq a n hn).1 e)
theorem byte_is (a : UInt8) (n : Nat) (hn : n < 256) (h : a = n.toUInt8) : ((a.toNat : Int) == (n : Int)) = true := (byte_eq a n hn).2 h

/-! The plain tests on bytes -/
def isDig (c : UInt8) : Bool := 48 ≤ c.toNat && c.toNat ≤ 57
def isPlain (c : UInt8) : Bool := 32 ≤ c.toNat && c.toNat ≤ 126 && c.toNat != 34 && c.toNat != 92
def isDelim (c : UInt8) : Bool := c.toNat == 44 || c.toNat == 125 || c.toNat == 32 || c.toNat == 9 || c.toNat == 13 || c.toNat == 10
def isHex (c : UInt8) : Bool := isDig c || (97 ≤ c.toNat && c.toNat ≤ 102) || (65 ≤ c.toNat && c.toNat ≤ 70)

theorem ret_bool {a b : Bool} (h : a = b) : Ending.returned (.bool a) = .returned (.bool b) := by rw [h]

set_option maxHeartbeats 400000 in
theorem isDigit_any (x : UInt8) (w : World) : Calls Tryd.prog 17 #[.int .u8 (x.toNat : Int)] w fun e w' => e = .returned (.bool (isDig x)) ∧ w' = w := by
  unfold isDig
  go_enter Tryd.func17, Tryd.ntmps17
  go_wp2
  all_goals
    go_ret
    refine ⟨ret_bool ?_, rfl⟩
    rw [Bool.eq_iff_iff]
    simp only [Bool.and_eq_true, Bool.or_eq_true, decide_eq_true_eq, bne_iff_ne, beq_iff_eq, ne_eq, Bool.false_eq_true, true_iff, false_iff]
    omega

set_option maxHeartbeats 400000 in
theorem isPlainByte_any (x : UInt8) (w : World) : Calls Tryd.prog 21 #[.int .u8 (x.toNat : Int)] w fun e w' => e = .returned (.bool (isPlain x)) ∧ w' = w := by
  unfold isPlain
  go_enter Tryd.func21, Tryd.ntmps21
  go_wp2
  all_goals
    go_ret
    refine ⟨ret_bool ?_, rfl⟩
    rw [Bool.eq_iff_iff]
    simp only [Bool.and_eq_true, Bool.or_eq_true, decide_eq_true_eq, bne_iff_ne, beq_iff_eq, ne_eq, Bool.false_eq_true, true_iff, false_iff]
    omega
set_option maxHeartbeats 400000 in
theorem isDelim_any (x : UInt8) (w : World) : Calls Tryd.prog 7 #[.int .u8 (x.toNat : Int)] w fun e w' => e = .returned (.bool (isDelim x)) ∧ w' = w := by
  unfold isDelim
  go_enter Tryd.func7, Tryd.ntmps7
  go_wp2
  all_goals
    go_ret
    refine ⟨ret_bool ?_, rfl⟩
    rw [Bool.eq_iff_iff]
    simp only [Bool.and_eq_true, Bool.or_eq_true, decide_eq_true_eq, bne_iff_ne, beq_iff_eq, ne_eq, Bool.false_eq_true, true_iff, false_iff]
    omega
end Go.Proofs.Qxb6000022aDoor
