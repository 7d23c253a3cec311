import Derived.Test.Qxb6003569aDoorProg
import Derived.Test.Qxb6003569aDoorPlain
import Derived.WalkKit
import Derived.WalkSpells
import Derived.WalkLawsBesides
import Derived.Deep.QuietTactic
import Derived.BigQuiet
set_option linter.unusedSimpArgs false
set_option linter.unusedVariables false
namespace Go.Proofs.Qxb6003569aDoor
open Go.RowKit

theorem byte_eq (a : UInt8) (n : Nat) (hn : n < 256) : (((a.toNat : Int) == (n : Int)) = true) ↔ a = n.toUInt8 := by
  rw [beq_iff_eq, ← UInt8.toNat_inj]
  simp
  omega
theorem byte_ne (a : UInt8) (n : Nat) (hn : n < 256) (h : ¬ a = n.toUInt8) : ((a.toNat : Int) == (n : Int)) = false := by
  rw [Bool.eq_false_iff]; exact fun e => h ((byte_eq a n hn).1 e)
theorem byte_is (a : UInt8) (n : Nat) (hn : n < 256) (h : a = n.toUInt8) : ((a.toNat : Int) == (n : Int)) = true := (byte_eq a n hn).2 h
theorem take_snoc (s : ByteArray) (k : Nat) (h : k < s.size) : s.data.toList.take (k + 1) = s.data.toList.take k ++ [s[k]] := by
  rw [List.take_succ_eq_append_getElem (by simpa using h)]; rfl

/-- The counts at k. -/
def st (s : ByteArray) (k : Nat) : Nat × Nat × Nat × Bool := Pl.stat (s.data.toList.take k)
theorem st_step (s : ByteArray) (k : Nat) (h : k < s.size) : st s (k + 1) = Pl.step (st s k) s[k] := by
  unfold st Pl.stat
  rw [take_snoc s k h, List.foldl_append]
  rfl
theorem st_bound (s : ByteArray) (k : Nat) (h : k ≤ s.size) : (st s k).1 ≤ k ∧ (st s k).2.1 ≤ k ∧ (st s k).2.2.1 ≤ k := by
  have := Pl.stat_bound (s.data.toList.take k)
  rw [List.length_take] at this
  unfold st
  omega

def StatRel (s : ByteArray) (s2 s3 s4 s5 s6 : Value) (k : Nat) : Prop :=
  k ≤ s.size ∧ s6 = .int .i64 k ∧ s2 = .int .i64 ((st s k).1 : Nat) ∧ s3 = .int .i64 ((st s k).2.1 : Nat) ∧ s4 = .int .i64 ((st s k).2.2.1 : Nat) ∧ s5 = .bool (st s k).2.2.2

def StatPost (s : ByteArray) (w : World) (e : Ending) (w' : World) : Prop :=
  e = .returned (.tuple #[.int .i64 ((Pl.stat s.data.toList).1 : Nat), .int .i64 ((Pl.stat s.data.toList).2.1 : Nat), .int .i64 ((Pl.stat s.data.toList).2.2.1 : Nat)]) ∧ w' = w

set_option maxHeartbeats 1000000 in
theorem stats_any (s : ByteArray) (w : World) (hs : s.size ≤ 16777216) :
    Calls Tryd.prog 12 #[.string s] w (StatPost s w) := by
  go_enter Tryd.func12, Tryd.ntmps12
  go_wp2
  go_loop [2, 3, 4, 5, 6] (fun s2 s3 s4 s5 s6 => ∃ k : Nat, StatRel s s2 s3 s4 s5 s6 k) (fun s2 s3 s4 s5 s6 => s.size - (intOf s6).toNat)
  case atStart => exact ⟨0, Nat.zero_le _, rfl, rfl, rfl, rfl, rfl⟩
  case round =>
    obtain ⟨k, hk, rfl, rfl, rfl, rfl, rfl⟩ := hrel
    obtain ⟨b1, b2, b3⟩ := st_bound s k hk
    by_cases hlt : k < s.size
    · have HST : Hid (st s (k + 1) = Pl.step (st s k) s[k]) := st_step s k hlt
      have hlt' : (k : Int) < s.size := by omega
      generalize hq : st s k = q at *
      obtain ⟨n1, n2, n3, a⟩ := q
      simp only at b1 b2 b3 ⊢
      by_cases h47 : s[k] = 47
      · have q1 : ((s[k].toNat : Int) == 47) = true := byte_is _ 47 (by decide) h47
        have HE : Hid (st s (k + 1) = (n1 + 1, n2, n3, true)) := by show _ = _; rw [HST.out, Pl.step, if_pos h47]
        clear h47 HST hq
        go_wp2
        go_round
        case rel => exact ⟨k + 1, by omega, by go_num, by rw [HE.out]; go_num, by rw [HE.out], by rw [HE.out], by rw [HE.out]⟩
        case measure => simp [intOf]; omega
      have q1 : ((s[k].toNat : Int) == 47) = false := byte_ne _ 47 (by decide) h47
      cases a
      · have HE : Hid (st s (k + 1) = (n1, n2, n3, false)) := by show _ = _; rw [HST.out, Pl.step, if_neg h47]; simp
        clear h47 HST hq
        go_wp2
        go_round
        case rel => exact ⟨k + 1, by omega, by go_num, by rw [HE.out], by rw [HE.out], by rw [HE.out], by rw [HE.out]⟩
        case measure => simp [intOf]; omega
      by_cases h58 : s[k] = 58
      · have q2 : ((s[k].toNat : Int) == 58) = true := byte_is _ 58 (by decide) h58
        have HE : Hid (st s (k + 1) = (n1, n2 + 1, n3, false)) := by show _ = _; rw [HST.out, Pl.step, if_neg h47, h58]; rfl
        clear h47 h58 HST hq
        go_wp2
        go_round
        case rel => exact ⟨k + 1, by omega, by go_num, by rw [HE.out], by rw [HE.out]; go_num, by rw [HE.out], by rw [HE.out]⟩
        case measure => simp [intOf]; omega
      have q2 : ((s[k].toNat : Int) == 58) = false := byte_ne _ 58 (by decide) h58
      by_cases h42 : s[k] = 42
      · have q3 : ((s[k].toNat : Int) == 42) = true := byte_is _ 42 (by decide) h42
        have HE : Hid (st s (k + 1) = (n1, n2, n3 + 1, false)) := by show _ = _; rw [HST.out, Pl.step, if_neg h47, h42]; rfl
        clear h47 h58 h42 HST hq
        go_wp2
        go_round
        case rel => exact ⟨k + 1, by omega, by go_num, by rw [HE.out], by rw [HE.out], by rw [HE.out]; go_num, by rw [HE.out]⟩
        case measure => simp [intOf]; omega
      have q3 : ((s[k].toNat : Int) == 42) = false := byte_ne _ 42 (by decide) h42
      have HE : Hid (st s (k + 1) = (n1, n2, n3, false)) := by show _ = _; rw [HST.out, Pl.step, if_neg h47]; simp [h58, h42]
      clear h47 h58 h42 HST hq
      go_wp2
      go_round
      case rel => exact ⟨k + 1, by omega, by go_num, by rw [HE.out], by rw [HE.out], by rw [HE.out], by rw [HE.out]⟩
      case measure => simp [intOf]; omega
    · have hk' : k = s.size := by omega
      have HE : Hid (st s k = Pl.stat s.data.toList) := by show _ = _; unfold st; rw [List.take_of_length_le (by simp; omega)]
      generalize hq : st s k = q at *
      obtain ⟨n1, n2, n3, a⟩ := q
      simp only
      have hne : ¬ (k : Int) < s.size := by omega
      clear hk' hq
      go_wp2
      go_ret3
      exact ⟨by rw [← HE.out]; rfl, rfl⟩
end Go.Proofs.Qxb6003569aDoor
