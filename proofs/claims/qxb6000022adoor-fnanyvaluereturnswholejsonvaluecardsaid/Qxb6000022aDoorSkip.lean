import Derived.Test.Qxb6000022aDoorScan
set_option linter.unusedSimpArgs false
set_option linter.unusedVariables false
namespace Go.Proofs.Qxb6000022aDoor
open Go.RowKit

def isSp (x : UInt8) : Bool := x.toNat == 32 || x.toNat == 9 || x.toNat == 13 || x.toNat == 10
theorem isSp_calm {x : UInt8} (h : isSp x = true) : calm x = true := by
  unfold isSp at h
  simp only [Bool.or_eq_true, beq_iff_eq] at h
  rw [calm_iff]
  simp only [← UInt8.toNat_inj, ne_eq]
  simp
  omega
theorem isDig_word {x : UInt8} (h : isDig x = true) : wordB x = true := by unfold wordB; rw [h]; rfl

def RunPost (t : UInt8 → Bool) (l : List UInt8) (i : Nat) (w : World) (e : Ending) (w' : World) : Prop :=
  ∃ k : Nat, e = .returned (.int .i64 (k : Int)) ∧ Runs t l i k ∧ SameW w w'

set_option maxHeartbeats 1000000 in
theorem isHex_any (x : UInt8) (w : World) : Calls Tryd.prog 23 #[.int .u8 (x.toNat : Int)] w fun e w' => e = .returned (.bool (isHex x)) ∧ w' = w := by
  have hc := isDigit_any x w
  cases hd : isDig x
  · rw [hd] at hc
    go_enter Tryd.func23, Tryd.ntmps23
    go_wp2_with fail
    refine hc.mono ?_
    rintro e w' ⟨rfl, rfl⟩
    go_wp2
    all_goals
      go_ret
      refine ⟨ret_bool ?_, rfl⟩
      rw [Bool.eq_iff_iff]
      simp only [isHex, hd, Bool.false_or, Bool.and_eq_true, Bool.or_eq_true, decide_eq_true_eq, Bool.false_eq_true, true_iff, false_iff]
      omega
  · rw [hd] at hc
    go_enter Tryd.func23, Tryd.ntmps23
    go_wp2_with fail
    refine hc.mono ?_
    rintro e w' ⟨rfl, rfl⟩
    go_wp2
    go_ret
    exact ⟨ret_bool (by simp [isHex, hd]), rfl⟩

set_option maxHeartbeats 1000000 in
theorem skipDigits_any (w : World) (pa : Option Addr) (c i : Nat) (l : List UInt8) (hA : BytesAt w pa c l) (hi : i ≤ l.length) :
    Calls Tryd.prog 25 #[.slice pa l.length c, .int .i64 i] w (RunPost isDig l i w) := by
  have hl : l.length ≤ maxLen := Nat.le_trans hA.1 hA.2.1
  unfold maxLen at hl
  go_enter Tryd.func25, Tryd.ntmps25
  go_wp2
  go_loopw [1] (fun j wr => ∃ k : Nat, j = .int .i64 k ∧ SameW w wr ∧ Hid (Runs isDig l i k)) (fun j _ => l.length - (intOf j).toNat)
  case atStart => exact ⟨i, rfl, rfl, Runs.refl _ hi⟩
  case round =>
    obtain ⟨k, rfl, HW, HR⟩ := hrel
    have hw : w = wr := HW
    clear HW
    subst hw
    by_cases hlt : (k : Int) < l.length
    · obtain ⟨b, o, rfl, e1⟩ := hA.at (k := k) (by omega)
      have hx : l[k]? = some l[k] := List.getElem?_eq_getElem (by omega)
      have HX : Hid (l[k]? = some l[k]) := hx
      clear hx
      have hcall := isDigit_any (l[k]) w
      cases hp : isDig l[k]
      · rw [hp] at hcall
        go_wp2_with fail
        refine hcall.mono ?_
        rintro e w' ⟨rfl, rfl⟩
        go_wp2
        go_ret
        exact ⟨k, rfl, HR.out, rfl⟩
      · rw [hp] at hcall
        go_wp2_with fail
        refine hcall.mono ?_
        rintro e w' ⟨rfl, rfl⟩
        go_wp2
        go_roundw
        case rel => exact ⟨k + 1, by go_num, rfl, HR.out.trans (Runs.one HX.out hp)⟩
        case measure => simp [intOf]; omega
    · go_wp2
      go_ret
      exact ⟨k, rfl, HR.out, rfl⟩

set_option maxHeartbeats 2000000 in
theorem skipSpace_any (w : World) (pa : Option Addr) (c i : Nat) (l : List UInt8) (hA : BytesAt w pa c l) (hi : i ≤ l.length) :
    Calls Tryd.prog 24 #[.slice pa l.length c, .int .i64 i] w (RunPost isSp l i w) := by
  have hl : l.length ≤ maxLen := Nat.le_trans hA.1 hA.2.1
  unfold maxLen at hl
  go_enter Tryd.func24, Tryd.ntmps24
  go_wp2
  go_loop [1] (fun j => ∃ k : Nat, j = .int .i64 k ∧ Hid (Runs isSp l i k)) (fun j => l.length - (intOf j).toNat)
  case atStart => exact ⟨i, rfl, Runs.refl _ hi⟩
  case round =>
    obtain ⟨k, rfl, HR⟩ := hrel
    by_cases hlt : (k : Int) < l.length
    · obtain ⟨b, o, rfl, e1⟩ := hA.at (k := k) (by omega)
      have HX : Hid (l[k]? = some l[k]) := List.getElem?_eq_getElem (by omega)
      have HNEXT : Hid (isSp l[k] = true → Runs isSp l i (k + 1)) := fun h => HR.out.trans (Runs.one HX.out h)
      clear HX
      generalize l[k] = x at *
      cases q1 : ((x.toNat : Int) == 32)
      · cases q2 : ((x.toNat : Int) == 9)
        · cases q3 : ((x.toNat : Int) == 13)
          · cases q4 : ((x.toNat : Int) == 10)
            · go_wp2
              go_ret
              exact ⟨k, rfl, HR.out, rfl⟩
            · go_wp2
              go_round
              case rel => exact ⟨k + 1, by go_num, HNEXT.out (by unfold isSp; simp at q4; simp; omega)⟩
              case measure => simp [intOf]; omega
          · go_wp2
            go_round
            case rel => exact ⟨k + 1, by go_num, HNEXT.out (by unfold isSp; simp at q3; simp; omega)⟩
            case measure => simp [intOf]; omega
        · go_wp2
          go_round
          case rel => exact ⟨k + 1, by go_num, HNEXT.out (by unfold isSp; simp at q2; simp; omega)⟩
          case measure => simp [intOf]; omega
      · go_wp2
        go_round
        case rel => exact ⟨k + 1, by go_num, HNEXT.out (by unfold isSp; simp at q1; simp; omega)⟩
        case measure => simp [intOf]; omega
    · go_wp2
      go_ret
      exact ⟨k, rfl, HR.out, rfl⟩
end Go.Proofs.Qxb6000022aDoor
