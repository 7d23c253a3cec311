import Derived.Test.Qxb6000022aDoorSkip
import Derived.Deep.Cut
import Derived.Deep.CutRange
import Derived.Deep.DeepCutAuto
set_option linter.unusedSimpArgs false
set_option linter.unusedVariables false
namespace Go.Proofs.Qxb6000022aDoor
open Go.RowKit

def NumPost (l : List UInt8) (i : Nat) (w : World) (e : Ending) (w' : World) : Prop :=
  SameW w w' ∧ (e = .returned (.int .i64 (-1)) ∨ ∃ k : Nat, e = .returned (.int .i64 (k : Int)) ∧ i < k ∧ Runs wordB l i k)

theorem word_of {x : UInt8} {v : Int} (h : (x.toNat : Int) = v) (hv : (48 ≤ v ∧ v ≤ 57) ∨ (97 ≤ v ∧ v ≤ 122) ∨ v = 45 ∨ v = 43 ∨ v = 46 ∨ v = 69) : wordB x = true := by
  unfold wordB isDig
  simp
  omega

set_option maxHeartbeats 4000000 in
set_option maxRecDepth 100000 in
theorem parseNumber_any (w : World) (pa : Option Addr) (c i : Nat) (l : List UInt8) (hA : BytesAt w pa c l) (hl : l.length ≤ 1048576) (hi : i < l.length) :
    Calls Tryd.prog 18 #[.slice pa l.length c, .int .i64 i] w (NumPost l i w) := by
  have rd : ∀ k, k < l.length → ∃ b o, ∃ x : UInt8, pa = some ⟨b, o, none⟩ ∧ w.cell? ⟨b, o + k, none⟩ = some (.int .u8 (x.toNat : Int)) ∧ l[k]? = some x := by
    intro k hk
    obtain ⟨b, o, h1, h2⟩ := hA.at hk
    exact ⟨b, o, l[k], h1, h2, List.getElem?_eq_getElem hk⟩
  have RD : Hid (∀ k, k < l.length → ∃ b o, ∃ x : UInt8, pa = some ⟨b, o, none⟩ ∧ w.cell? ⟨b, o + k, none⟩ = some (.int .u8 (x.toNat : Int)) ∧ l[k]? = some x) := rd
  obtain ⟨b, o, x, rfl, e1, g1⟩ := rd i hi
  clear rd
  have G1 : Hid (l[i]? = some x) := g1
  clear g1
  have hi' : (i : Int) < l.length := by omega
  go_enter Tryd.func18, Tryd.ntmps18
  go_upto_if 19 with fail
  go_cut [5] (fun s5 wx => ∃ j : Nat, s5 = .int .i64 j ∧ SameW w wx ∧ Hid (Runs wordB l i j))
  case first =>
    cases q : ((x.toNat : Int) == 45)
    · go_wp2
      go_meet
      case rel => exact ⟨i, rfl, rfl, Runs.refl _ (by omega)⟩
    · go_wp2
      go_meet
      case rel => exact ⟨i + 1, by go_num, rfl, Runs.one G1.out (word_of rfl (by simp at q; omega))⟩
  case rest =>
    obtain ⟨j, rfl, HW, HR⟩ := hcut
    have hw : w = wc := HW
    clear HW
    subst hw
    clear e1 G1 hi'
    by_cases h1 : (l.length : Int) ≤ j
    · go_wp2
      go_ret
      exact ⟨rfl, .inl rfl⟩
    have hj : (j : Int) < l.length := by omega
    obtain ⟨b', o', y, hbo, e1, g1⟩ := RD.out j (by omega)
    cases hbo
    have G1 : Hid (l[j]? = some y) := g1
    clear g1
    go_upto_if 30 with fail
    go_cut [5] (fun s5 wx => ∃ j : Nat, s5 = .int .i64 j ∧ i < j ∧ SameW w wx ∧ Hid (Runs wordB l i j))
    case first =>
      cases q : ((y.toNat : Int) == 48)
      · by_cases h49 : (49 : Int) ≤ y.toNat
        · by_cases h57 : (y.toNat : Int) ≤ 57
          · go_wp2_with fail
            refine (skipDigits_any w (some ⟨b, o, none⟩) c (j + 1) l hA (by omega)).mono ?_
            rintro e w' ⟨k, rfl, hr, HW⟩
            have hw : w = w' := HW
            clear HW
            subst hw
            have HK : Hid (Runs wordB l i k ∧ i < k) := ⟨HR.out.trans ((Runs.one G1.out (word_of rfl (by omega))).trans (hr.mono fun _ => isDig_word)), by have := hr.1; have := HR.out.1; omega⟩
            clear hr
            go_wp2
            go_meet
            case rel => exact ⟨k, rfl, HK.out.2, rfl, HK.out.1⟩
          · go_wp2
            go_ret
            exact ⟨rfl, .inl rfl⟩
        · go_wp2
          go_ret
          exact ⟨rfl, .inl rfl⟩
      · have HK : Hid (Runs wordB l i (j + 1) ∧ i < j + 1) := ⟨HR.out.trans (Runs.one G1.out (word_of rfl (by simp at q; omega))), by have := HR.out.1; omega⟩
        go_wp2
        go_meet
        case rel => exact ⟨j + 1, by go_num, HK.out.2, rfl, HK.out.1⟩
    case rest =>
      clear e1 G1 HR hj h1
      obtain ⟨j, rfl, hij, HW, HR⟩ := hcut
      have hw : w = wc := HW
      clear HW
      subst hw
      by_cases hj : (j : Int) < l.length
      · obtain ⟨b', o', y, hbo, e1, g1⟩ := RD.out j (by omega)
        cases hbo
        have G1 : Hid (l[j]? = some y) := g1
        clear g1
        go_upto_if 59 with fail
        go_cut [5] (fun s5 wx => ∃ j : Nat, s5 = .int .i64 j ∧ i < j ∧ SameW w wx ∧ Hid (Runs wordB l i j))
        case first =>
          cases q : ((y.toNat : Int) == 46)
          · go_wp2
            go_meet
            case rel => exact ⟨j, rfl, hij, rfl, HR⟩
          · go_wp2_with fail
            refine (skipDigits_any w (some ⟨b, o, none⟩) c (j + 1) l hA (by omega)).mono ?_
            rintro e w' ⟨k, rfl, hr, HW⟩
            have hw : w = w' := HW
            clear HW
            subst hw
            have HK : Hid (Runs wordB l i k ∧ i < k) := ⟨HR.out.trans ((Runs.one G1.out (word_of rfl (by simp at q; omega))).trans (hr.mono fun _ => isDig_word)), by have := hr.1; omega⟩
            clear hr
            cases q2 : ((k : Int) == (j : Int) + 1)
            · go_wp2
              go_meet
              case rel => exact ⟨k, rfl, HK.out.2, rfl, HK.out.1⟩
            · go_wp2
              go_ret
              exact ⟨rfl, .inl rfl⟩
        case rest =>
          clear e1 G1 HR hij hj
          obtain ⟨j, rfl, hij, HW, HR⟩ := hcut
          have hw : w = wc := HW
          clear HW
          subst hw
          by_cases hj : (j : Int) < l.length
          · obtain ⟨b', o', y, hbo, e1, g1⟩ := RD.out j (by omega)
            cases hbo
            have G1 : Hid (l[j]? = some y) := g1
            clear g1
            go_upto_region 16 with fail
            go_cut [86] (fun s wx => s = .bool (y.toNat == 101 || y.toNat == 69) ∧ SameW w wx)
            case first =>
              cases q1 : ((y.toNat : Int) == 101)
              · cases q2 : ((y.toNat : Int) == 69)
                · go_wp2
                  go_meet
                  case rel => exact ⟨by congr 1; simp at q1 q2; simp; omega, rfl⟩
                · go_wp2
                  go_meet
                  case rel => exact ⟨by congr 1; simp at q1 q2; simp; omega, rfl⟩
              · go_wp2
                go_meet
                case rel => exact ⟨by congr 1; simp at q1; simp; omega, rfl⟩
            case rest =>
              obtain ⟨rfl, HW⟩ := hcut
              have hw : w = wc := HW
              clear HW
              subst hw
              cases q : (y.toNat == 101 || y.toNat == 69)
              · go_wp2
                go_ret
                exact ⟨rfl, .inr ⟨j, rfl, hij, HR.out⟩⟩
              have HK : Hid (Runs wordB l i (j + 1)) := HR.out.trans (Runs.one G1.out (word_of rfl (by simp at q; omega)))
              clear G1 HR e1 q
              by_cases hj2 : (j : Int) + 1 < l.length
              · obtain ⟨b', o', y, hbo, e1, g1⟩ := RD.out (j + 1) (by omega)
                cases hbo
                have G1 : Hid (l[j + 1]? = some y) := g1
                clear g1
                cases q1 : ((y.toNat : Int) == 43)
                · cases q2 : ((y.toNat : Int) == 45)
                  · go_wp2_with fail
                    refine (skipDigits_any w (some ⟨b, o, none⟩) c (j + 1) l hA (by omega)).mono ?_
                    rintro e w' ⟨k, rfl, hr, HW⟩
                    have hw : w = w' := HW
                    clear HW
                    subst hw
                    have HL : Hid (Runs wordB l i k ∧ i < k) := ⟨HK.out.trans (hr.mono fun _ => isDig_word), by have := hr.1; omega⟩
                    clear hr
                    cases q3 : ((k : Int) == (j : Int) + 1)
                    · go_wp2
                      go_ret
                      exact ⟨rfl, .inr ⟨k, rfl, HL.out.2, HL.out.1⟩⟩
                    · go_wp2
                      go_ret
                      exact ⟨rfl, .inl rfl⟩
                  · go_wp2_with fail
                    refine (skipDigits_any w (some ⟨b, o, none⟩) c (j + 2) l hA (by omega)).mono ?_
                    rintro e w' ⟨k, rfl, hr, HW⟩
                    have hw : w = w' := HW
                    clear HW
                    subst hw
                    have HL : Hid (Runs wordB l i k ∧ i < k) := ⟨HK.out.trans ((Runs.one G1.out (word_of rfl (by simp at q2; omega))).trans (hr.mono fun _ => isDig_word)), by have := hr.1; omega⟩
                    clear hr
                    cases q3 : ((k : Int) == (j : Int) + 2)
                    · go_wp2
                      go_ret
                      exact ⟨rfl, .inr ⟨k, rfl, HL.out.2, HL.out.1⟩⟩
                    · go_wp2
                      go_ret
                      exact ⟨rfl, .inl rfl⟩
                · go_wp2_with fail
                  refine (skipDigits_any w (some ⟨b, o, none⟩) c (j + 2) l hA (by omega)).mono ?_
                  rintro e w' ⟨k, rfl, hr, HW⟩
                  have hw : w = w' := HW
                  clear HW
                  subst hw
                  have HL : Hid (Runs wordB l i k ∧ i < k) := ⟨HK.out.trans ((Runs.one G1.out (word_of rfl (by simp at q1; omega))).trans (hr.mono fun _ => isDig_word)), by have := hr.1; omega⟩
                  clear hr
                  cases q3 : ((k : Int) == (j : Int) + 2)
                  · go_wp2
                    go_ret
                    exact ⟨rfl, .inr ⟨k, rfl, HL.out.2, HL.out.1⟩⟩
                  · go_wp2
                    go_ret
                    exact ⟨rfl, .inl rfl⟩
              · go_wp2_with fail
                refine (skipDigits_any w (some ⟨b, o, none⟩) c (j + 1) l hA (by omega)).mono ?_
                rintro e w' ⟨k, rfl, hr, HW⟩
                have hw : w = w' := HW
                clear HW
                subst hw
                have hke : (k : Int) = (j : Int) + 1 := by have := hr.1; have := hr.2.1; omega
                have q2 : ((k : Int) == (j : Int) + 1) = true := by rw [hke]; simp
                clear hr hke
                go_wp2
                go_ret
                exact ⟨rfl, .inl rfl⟩
          · go_wp2
            go_ret
            exact ⟨rfl, .inr ⟨j, rfl, hij, HR.out⟩⟩
      · go_wp2
        go_ret
        exact ⟨rfl, .inr ⟨j, rfl, hij, HR.out⟩⟩
end Go.Proofs.Qxb6000022aDoor
