import Derived.Test.Qxb6000022aDoorSkip
set_option linter.unusedSimpArgs false
set_option linter.unusedVariables false
namespace Go.Proofs.Qxb6000022aDoor
open Go.RowKit

def StrPost (l : List UInt8) (i : Nat) (w : World) (e : Ending) (w' : World) : Prop :=
  SameW w w' ∧ (e = .returned (.int .i64 (-1)) ∨ ∃ k : Nat, e = .returned (.int .i64 (k : Int)) ∧ i < k ∧ k ≤ l.length ∧ sEnd (l.drop (i + 1)) = some (k - (i + 1)))

theorem isHex_ne {x : UInt8} (h : isHex x = true) : x ≠ 34 ∧ x ≠ 92 := by
  unfold isHex isDig at h
  simp only [Bool.or_eq_true, Bool.and_eq_true, decide_eq_true_eq] at h
  simp only [← UInt8.toNat_inj, ne_eq]
  simp
  omega

set_option maxHeartbeats 4000000 in
set_option maxRecDepth 100000 in
theorem parseString_any (w : World) (pa : Option Addr) (c i : Nat) (l : List UInt8) (hA : BytesAt w pa c l) (hl : l.length ≤ 1048576) (hi : i < l.length) :
    Calls Tryd.prog 14 #[.slice pa l.length c, .int .i64 i] w (StrPost l i w) := by
  go_enter Tryd.func14, Tryd.ntmps14
  go_wp2
  go_loopw [5] (fun j wr => ∃ k : Nat, j = .int .i64 k ∧ i + 1 ≤ k ∧ k ≤ l.length ∧ SameW w wr ∧ Hid (Sg l (i + 1) k)) (fun j _ => l.length - (intOf j).toNat)
  case atStart => exact ⟨i + 1, by go_num, Nat.le_refl _, by omega, rfl, Sg.refl _ _⟩
  case round =>
    obtain ⟨k, rfl, hik, hk, HW, HR⟩ := hrel
    have hw : w = wr := HW
    clear HW
    subst hw
    by_cases hlt : (k : Int) < l.length
    · obtain ⟨b, o, rfl, e1⟩ := hA.at (k := k) (by omega)
      have HX : Hid (l[k]? = some l[k]) := List.getElem?_eq_getElem (by omega)
      generalize l[k] = x at *
      by_cases x34 : x = 34
      · have q1 : ((x.toNat : Int) == 34) = true := byte_is x 34 (by decide) x34
        have HS : Hid (sEnd (l.drop (i + 1)) = some (k + 1 - (i + 1))) := HR.out.stop (by rw [HX.out, x34])
        clear x34
        go_wp2
        go_ret
        exact ⟨rfl, .inr ⟨k + 1, by go_num, by omega, by omega, HS.out⟩⟩
      have q1 : ((x.toNat : Int) == 34) = false := byte_ne x 34 (by decide) x34
      by_cases x32 : (x.toNat : Int) < 32
      · clear x34
        go_wp2
        go_ret
        exact ⟨rfl, .inl rfl⟩
      by_cases x92 : x = 92
      · have q2 : ((x.toNat : Int) == 92) = true := byte_is x 92 (by decide) x92
        have HX92 : Hid (l[k]? = some 92) := by show l[k]? = some 92; rw [HX.out, x92]
        clear x34 x92 HX
        by_cases h1 : (l.length : Int) ≤ (k : Int) + 1
        · go_wp2
          go_ret
          exact ⟨rfl, .inl rfl⟩
        · obtain ⟨b', o', hbo, e2⟩ := hA.at (k := k + 1) (by omega)
          cases hbo
          have h1' : (k : Int) + 1 < l.length := by omega
          have HY : Hid (l[k + 1]? = some l[k + 1]) := List.getElem?_eq_getElem (by omega)
          generalize l[k + 1] = y at *
          have HE : Hid (Sg l (i + 1) (k + 2)) := HR.out.esc HX92.out HY.out
          clear HY HX92
          obtain ⟨yv, hyv⟩ : ∃ v : Int, (y.toNat : Int) = v := ⟨_, rfl⟩
          rw [hyv] at e2
          clear hyv y
          by_cases hu : yv = 117
          · subst hu
            by_cases h6 : (l.length : Int) < (k : Int) + 6
            · go_wp2
              go_ret
              exact ⟨rfl, .inl rfl⟩
            · go_wp2
              go_loopw [8] (fun j wr => ∃ q : Nat, j = .int .i64 q ∧ k + 2 ≤ q ∧ q ≤ k + 6 ∧ SameW w wr ∧ Hid (Sg l (i + 1) q)) (fun j _ => l.length - (intOf j).toNat)
              case atStart => exact ⟨k + 2, by go_num, Nat.le_refl _, by omega, rfl, HE⟩
              case round =>
                obtain ⟨q, rfl, hkq, hq6, HW, HQ⟩ := hrel
                have hw : w = wr := HW
                clear HW
                subst hw
                by_cases hlq : (q : Int) < (k : Int) + 6
                · obtain ⟨b', o', hbo, e3⟩ := hA.at (k := q) (by omega)
                  cases hbo
                  have HZ : Hid (l[q]? = some l[q]) := List.getElem?_eq_getElem (by omega)
                  generalize l[q] = z at *
                  have hlq' : (q : Int) < l.length := by omega
                  have hcall := isHex_any z w
                  cases hp : isHex z
                  · rw [hp] at hcall
                    go_wp2_with fail
                    refine hcall.mono ?_
                    rintro e w' ⟨rfl, rfl⟩
                    go_wp2
                    go_ret
                    exact ⟨rfl, .inl rfl⟩
                  · rw [hp] at hcall
                    go_wp2_with fail
                    refine hcall.mono ?_
                    rintro e w' ⟨rfl, rfl⟩
                    go_wp2
                    go_roundw
                    case rel => exact ⟨q + 1, by go_num, by omega, by omega, rfl, HQ.out.step HZ.out (isHex_ne hp).1 (isHex_ne hp).2⟩
                    case measure => simp [intOf]; omega
                · have hqe : q = k + 6 := by omega
                  subst hqe
                  go_wp2
                  go_roundw
                  case rel => exact ⟨k + 6, by go_num, by omega, by omega, rfl, HQ⟩
                  case measure => simp [intOf]; omega
          · by_cases h8 : yv = 34 ∨ yv = 92 ∨ yv = 47 ∨ yv = 98 ∨ yv = 102 ∨ yv = 110 ∨ yv = 114 ∨ yv = 116
            · clear hu
              rcases h8 with rfl | rfl | rfl | rfl | rfl | rfl | rfl | rfl
              all_goals
                go_wp2
                go_roundw
                case rel => exact ⟨k + 2, by go_num, by omega, by omega, rfl, HE⟩
                case measure => simp [intOf]; omega
            · have z0 : (yv == 117) = false := by simpa using hu
              have z1 : (yv == 34) = false := by rw [beq_eq_false_iff_ne]; omega
              have z2 : (yv == 92) = false := by rw [beq_eq_false_iff_ne]; omega
              have z3 : (yv == 47) = false := by rw [beq_eq_false_iff_ne]; omega
              have z4 : (yv == 98) = false := by rw [beq_eq_false_iff_ne]; omega
              have z5 : (yv == 102) = false := by rw [beq_eq_false_iff_ne]; omega
              have z6 : (yv == 110) = false := by rw [beq_eq_false_iff_ne]; omega
              have z7 : (yv == 114) = false := by rw [beq_eq_false_iff_ne]; omega
              have z8 : (yv == 116) = false := by rw [beq_eq_false_iff_ne]; omega
              clear hu h8
              go_wp2
              go_ret
              exact ⟨rfl, .inl rfl⟩
      · have q2 : ((x.toNat : Int) == 92) = false := byte_ne x 92 (by decide) x92
        have HN : Hid (Sg l (i + 1) (k + 1)) := HR.out.step HX.out x34 x92
        clear x34 x92 HX
        go_wp2
        go_roundw
        case rel => exact ⟨k + 1, by go_num, by omega, by omega, rfl, HN⟩
        case measure => simp [intOf]; omega
    · go_wp2
      go_ret
      exact ⟨rfl, .inl rfl⟩
end Go.Proofs.Qxb6000022aDoor
