import Derived.Test.Qxb6000022aDoorWord
set_option linter.unusedSimpArgs false
set_option linter.unusedVariables false
namespace Go.Proofs.Qxb6000022aDoor
open Go.RowKit

def SameW (a b : World) : Prop := a = b
def TextPost (l : List UInt8) (w : World) (e : Ending) (w' : World) : Prop :=
  ∃ v : Bool, e = .returned (.bool v) ∧ (v = true → PV l) ∧ Below w.heap.size w w'

set_option maxHeartbeats 1000000 in
theorem text_any (w : World) (pa : Option Addr) (c : Nat) (l : List UInt8) (hA : BytesAt w pa c l) :
    Calls Tryd.prog 12 #[.slice pa l.length c] w (TextPost l w) := by
  have hl : l.length ≤ maxLen := Nat.le_trans hA.1 hA.2.1
  unfold maxLen at hl
  by_cases h0 : l.length = 0
  · have h0' : ((l.length : Int) == 0) = true := by rw [h0]; rfl
    clear h0
    go_enter Tryd.func12, Tryd.ntmps12
    go_wp2
    go_ret
    exact ⟨false, rfl, fun h => (by cases h), Below.refl _ _⟩
  have h0' : ((l.length : Int) == 0) = false := by rw [beq_eq_false_iff_ne]; omega
  obtain ⟨b, o, rfl, e0⟩ := hA.at (k := 0) (by omega)
  rw [Nat.add_zero] at e0
  have g0 : l[0]? = some l[0] := List.getElem?_eq_getElem _
  have hpos : (0 : Int) < l.length := by omega
  generalize hx : l[0] = x at e0 g0
  by_cases q : x = 34
  · have HQ : Hid (x = 34) := q
    have q1 : ((x.toNat : Int) == 34) = true := byte_is x 34 (by decide) q
    clear q
    by_cases hn : (l.length : Int) < 2
    · go_enter Tryd.func12, Tryd.ntmps12
      go_wp2
      go_ret
      exact ⟨false, rfl, fun h => (by cases h), Below.refl _ _⟩
    obtain ⟨b', o', hbo, e9⟩ := hA.at (k := l.length - 1) (by omega)
    cases hbo
    have G9 : Hid (l[l.length - 1]? = some l[l.length - 1]) := List.getElem?_eq_getElem _
    generalize hy : l[l.length - 1] = y at e9 G9
    clear hy hx
    by_cases q' : y = 34
    · have HQ' : Hid (y = 34) := q'
      have q2 : ((y.toNat : Int) == 34) = true := byte_is y 34 (by decide) q'
      clear q'
      go_enter Tryd.func12, Tryd.ntmps12
      go_wp2
      go_loopw [4] (fun i' wr => ∃ k : Nat, 1 ≤ k ∧ k ≤ l.length - 1 ∧ i' = .int .i64 k ∧ SameW w wr ∧ Hid (∀ j, 1 ≤ j → j < k → ∀ x, l[j]? = some x → isPlain x = true)) (fun i' _ => l.length - (intOf i').toNat)
      case atStart => exact ⟨1, Nat.le_refl _, by omega, rfl, rfl, fun j hj hk => absurd hk (by omega)⟩
      case round =>
        obtain ⟨k, hk1, hk, rfl, HW, HJ⟩ := hrel
        have hw : w = wr := HW
        clear HW
        subst hw
        by_cases hlt : (k : Int) < l.length - 1
        · obtain ⟨b', o', hbo, e1⟩ := hA.at (k := k) (by omega)
          cases hbo
          have hlt2 : (k : Int) < l.length := by omega
          have hcall := isPlainByte_any (l[k]) w
          cases hp : isPlain l[k]
          · rw [hp] at hcall
            go_wp2_with fail
            refine hcall.mono ?_
            rintro e w' ⟨rfl, rfl⟩
            go_wp2
            go_ret
            exact ⟨false, rfl, fun h => (by cases h), Below.refl _ _⟩
          · rw [hp] at hcall
            go_wp2_with fail
            refine hcall.mono ?_
            rintro e w' ⟨rfl, rfl⟩
            go_wp2
            go_roundw
            case rel =>
              refine ⟨k + 1, by omega, by omega, by go_num, rfl, fun j hj hjk x hx => ?_⟩
              rcases Nat.lt_or_ge j k with h | h
              · exact HJ.out j hj h x hx
              · have : j = k := by omega
                subst this
                rw [List.getElem?_eq_getElem (by omega)] at hx
                rw [← Option.some.inj hx]; exact hp
            case measure => simp [intOf]; omega
        · go_wp2
          go_ret
          refine ⟨true, rfl, fun _ => pv_quoted (n := 0) (by omega) (by rw [g0, HQ.out]) (by rw [G9.out, HQ'.out]) (fun j h1 h2 x hx => HJ.out j h1 (by omega) x hx), Below.refl _ _⟩
    · have q2 : ((y.toNat : Int) == 34) = false := byte_ne y 34 (by decide) q'
      clear q'
      go_enter Tryd.func12, Tryd.ntmps12
      go_wp2
      go_ret
      exact ⟨false, rfl, fun h => (by cases h), Below.refl _ _⟩
  have q1 : ((x.toNat : Int) == 34) = false := byte_ne x 34 (by decide) q
  clear q
  by_cases z : x = 48
  · have HZ : Hid (x = 48) := z
    have z1 : ((x.toNat : Int) == 48) = true := byte_is x 48 (by decide) z
    clear z hx
    go_enter Tryd.func12, Tryd.ntmps12
    go_wp2
    go_ret
    refine ⟨_, rfl, fun h => ?_, Below.refl _ _⟩
    have h1 : l.length = 1 := by simp at h; omega
    right; left
    match l, h1, g0 with
    | [a], _, g0 => cases g0; rw [HZ.out]
  have z1 : ((x.toNat : Int) == 48) = false := byte_ne x 48 (by decide) z
  clear z hx
  by_cases dd : 49 ≤ (x.toNat : Int) ∧ (x.toNat : Int) ≤ 57
  · obtain ⟨d1, d2⟩ := dd
    go_enter Tryd.func12, Tryd.ntmps12
    go_wp2
    go_loopw [5] (fun i' wr => ∃ k : Nat, 1 ≤ k ∧ k ≤ l.length ∧ i' = .int .i64 k ∧ SameW w wr ∧ Hid (∀ j, 1 ≤ j → j < k → ∀ x, l[j]? = some x → isDig x = true)) (fun i' _ => l.length - (intOf i').toNat)
    case atStart => exact ⟨1, Nat.le_refl _, by omega, rfl, rfl, fun j hj hk => absurd hk (by omega)⟩
    case round =>
      obtain ⟨k, hk1, hk, rfl, HW, HJ⟩ := hrel
      have hw : w = wr := HW
      clear HW
      subst hw
      by_cases hlt : (k : Int) < l.length
      · obtain ⟨b', o', hbo, e1⟩ := hA.at (k := k) (by omega)
        cases hbo
        have hcall := isDigit_any (l[k]) w
        cases hp : isDig l[k]
        · rw [hp] at hcall
          go_wp2_with fail
          refine hcall.mono ?_
          rintro e w' ⟨rfl, rfl⟩
          go_wp2
          go_ret
          exact ⟨false, rfl, fun h => (by cases h), Below.refl _ _⟩
        · rw [hp] at hcall
          go_wp2_with fail
          refine hcall.mono ?_
          rintro e w' ⟨rfl, rfl⟩
          go_wp2
          go_roundw
          case rel =>
            refine ⟨k + 1, by omega, by omega, by go_num, rfl, fun j hj hjk x hx => ?_⟩
            rcases Nat.lt_or_ge j k with h | h
            · exact HJ.out j hj h x hx
            · have : j = k := by omega
              subst this
              rw [List.getElem?_eq_getElem (by omega)] at hx
              rw [← Option.some.inj hx]; exact hp
          case measure => simp [intOf]; omega
      · go_wp2
        go_ret
        refine ⟨true, rfl, fun _ => pv_digits g0 (by omega) (fun j h1 h2 x hx => HJ.out j h1 (by omega) x hx), Below.refl _ _⟩
  · have dd' : ¬ (49 : Int) ≤ (x.toNat : Int) ∨ ¬ (x.toNat : Int) ≤ 57 := by omega
    clear dd
    by_cases n4 : l.length = 4
    · have N4 : Hid (l.length = 4) := n4
      have n4a : ((l.length : Int) == 4) = true := by rw [n4]; rfl
      have n4b : ((l.length : Int) == 5) = false := by rw [n4]; rfl
      clear n4
      rcases dd' with d | d
      all_goals
        go_enter Tryd.func12, Tryd.ntmps12
        go_wp2_with fail
        refine (word_any w _ c 0 l _ hA (Nat.zero_le _) (by decide)).mono ?_
        rintro e w' ⟨v, rfl, H, hb⟩
        cases v
        · clear H
          go_wp2_with fail
          refine (word_any w' _ c 0 l _ (hA.below hb) (Nat.zero_le _) (by decide)).mono ?_
          rintro e w'' ⟨v, rfl, H, hb'⟩
          have HH : Hid (v = true → WordAt l 0 _) := H
          clear H
          go_wp2
          go_ret
          refine ⟨v, rfl, fun h => ?_, hb.trans (hb'.mono hb.size)⟩
          right; right; right; right; right
          exact (HH.out (by first | trivial | exact h)).whole N4.out
        · have HH : Hid (true = true → WordAt l 0 _) := H
          clear H
          go_wp2
          go_ret
          refine ⟨true, rfl, fun h => ?_, hb⟩
          right; right; right; left
          exact (HH.out (by first | trivial | exact h)).whole N4.out
    have n4a : ((l.length : Int) == 4) = false := by rw [beq_eq_false_iff_ne]; omega
    by_cases n5 : l.length = 5
    · have N5 : Hid (l.length = 5) := n5
      have n5a : ((l.length : Int) == 5) = true := by rw [n5]; rfl
      clear n4 n5
      rcases dd' with d | d
      all_goals
        go_enter Tryd.func12, Tryd.ntmps12
        go_wp2_with fail
        refine (word_any w _ c 0 l _ hA (Nat.zero_le _) (by decide)).mono ?_
        rintro e w' ⟨v, rfl, H, hb⟩
        have HH : Hid (v = true → WordAt l 0 _) := H
        clear H
        cases v
        · go_wp2
          go_ret
          exact ⟨false, rfl, fun h => (by cases h), hb⟩
        · go_wp2
          go_ret
          refine ⟨true, rfl, fun h => ?_, hb⟩
          right; right; right; right; left
          exact (HH.out (by first | trivial | exact h)).whole N5.out
    have n5a : ((l.length : Int) == 5) = false := by rw [beq_eq_false_iff_ne]; omega
    clear n4 n5
    rcases dd' with d | d
    all_goals
      go_enter Tryd.func12, Tryd.ntmps12
      go_wp2
      go_ret
      exact ⟨false, rfl, fun h => (by cases h), Below.refl _ _⟩
end Go.Proofs.Qxb6000022aDoor
