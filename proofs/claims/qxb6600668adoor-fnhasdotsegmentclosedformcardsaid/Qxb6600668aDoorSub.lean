import Derived.Test.Qxb6600668aDoorProg
import Derived.Test.Qxb6600668aDoorPlain
import Derived.WalkKit
import Derived.WalkSpells
import Derived.WalkLawsBesides
import Derived.Deep.QuietTactic
import Derived.BigQuiet
set_option linter.unusedSimpArgs false
set_option linter.unusedVariables false
namespace Go.Proofs.Qxb6600668aDoor
open Go.RowKit

/-- The text sub stands in l at i. -/
def At (l sub : List UInt8) (i : Nat) : Prop := ∀ j, j < sub.length → l[i + j]? = sub[j]?
theorem At.occ {l sub : List UInt8} {i : Nat} (h : At l sub i) (hi : i + sub.length ≤ l.length) : Pl.Occ l sub := by
  refine ⟨l.take i, l.drop (i + sub.length), ?_⟩
  have e : (l.drop i).take sub.length = sub := by
    apply List.ext_getElem?
    intro k
    rcases Nat.lt_or_ge k sub.length with hk | hk
    · rw [List.getElem?_take, if_pos hk, List.getElem?_drop]; exact h k hk
    · rw [List.getElem?_eq_none (by rw [List.length_take]; omega), List.getElem?_eq_none hk]
  rw [List.append_assoc]
  conv => lhs; rw [← List.take_append_drop i l]
  congr 1
  conv => lhs; rw [← List.take_append_drop sub.length (l.drop i)]
  rw [e, List.drop_drop]
theorem occ_at {l sub : List UInt8} (h : Pl.Occ l sub) : ∃ i, i + sub.length ≤ l.length ∧ At l sub i := by
  obtain ⟨a, b, rfl⟩ := h
  refine ⟨a.length, by simp, fun j hj => ?_⟩
  rw [List.append_assoc, List.getElem?_append_right (by omega), show a.length + j - a.length = j by omega, List.getElem?_append_left hj]

def SubPost (s sub : ByteArray) (w : World) (e : Ending) (w' : World) : Prop :=
  ∃ v : Bool, e = .returned (.bool v) ∧ (v = true ↔ Pl.Occ s.data.toList sub.data.toList) ∧ ∃ n, w' = w.drewN n
def DrewN (w w' : World) : Prop := ∃ n, w' = w.drewN n
theorem DrewN.refl (w : World) : DrewN w w := ⟨0, rfl⟩
theorem DrewN.step {w w' : World} (h : DrewN w w') (n : Nat) : DrewN w (w'.drewN n) := by
  obtain ⟨k, rfl⟩ := h
  exact ⟨k + n, by simp⟩

theorem wrap_small (z : Int) (h0 : 0 ≤ z) (h1 : z < 9223372036854775808) : IntKind.i64.wrap z = z := by
  unfold IntKind.wrap
  have e : z % (2 ^ IntKind.i64.bits : Int) = z := Int.emod_eq_of_lt h0 (by show z < 18446744073709551616; omega)
  simp only [e]
  rw [if_neg]
  show ¬ ((true && decide (z ≥ 9223372036854775808)) = true)
  simp
  omega

set_option maxHeartbeats 2000000 in
theorem sub_any (s sub : ByteArray) (w : World) (hs : s.size ≤ 16777216) (hm : sub.size ≤ 100) :
    Calls Tryd.prog 6 #[.string s, .string sub] w (SubPost s sub w) := by
  go_enter Tryd.func6, Tryd.ntmps6
  go_wp2
  go_loopw [7] (fun s7 wr => ∃ i : Nat, s7 = .int .i64 i ∧ i ≤ s.size + 1 ∧ DrewN w wr ∧ Hid (∀ k, k < i → k + sub.size ≤ s.size → ¬ At s.data.toList sub.data.toList k)) (fun s7 _ => s.size + 1 - (intOf s7).toNat)
  case atStart => exact ⟨0, rfl, Nat.zero_le _, DrewN.refl _, fun k hk => absurd hk (Nat.not_lt_zero _)⟩
  case round =>
    obtain ⟨i, rfl, hi, HD, HN⟩ := hrel
    by_cases hle : (i : Int) + sub.size ≤ s.size
    · go_wp2
      go_loopw [8] (fun s8 wr => ∃ j : Nat, s8 = .int .i64 j ∧ j ≤ sub.size ∧ DrewN w wr ∧ Hid (∀ k, k < j → s.data.toList[i + k]? = sub.data.toList[k]?)) (fun s8 _ => sub.size - (intOf s8).toNat)
      case atStart => exact ⟨0, rfl, Nat.zero_le _, HD, fun k hk => absurd hk (Nat.not_lt_zero _)⟩
      case round =>
        obtain ⟨j, rfl, hj, HD, HJ⟩ := hrel
        by_cases hlt : (j : Int) < sub.size
        · obtain ⟨q, hq⟩ : ∃ q, q = i + j := ⟨_, rfl⟩
          have hql : q < s.size := by omega
          have hql' : (q : Int) < s.size := by omega
          have hjl : j < sub.size := by omega
          have hsum : (i : Int) + (j : Int) = (q : Int) := by omega
          have hwr : IntKind.i64.wrap ((i : Int) + j) = (q : Int) := by rw [hsum]; exact wrap_small _ (by omega) (by omega)
          have HX : Hid (s.data.toList[i + j]? = some s[q] ∧ sub.data.toList[j]? = some sub[j]) := ⟨by rw [← hq]; exact Lib.data_getElem? s q hql, Lib.data_getElem? sub j hjl⟩
          clear hq
          by_cases hc : s[q] = sub[j]
          · have hb : ((s[q].toNat : Int) == (sub[j].toNat : Int)) = true := by rw [hc]; simp
            have HC : Hid (s[q] = sub[j]) := hc
            clear hc
            go_wp2
            go_quiet (fail)
            go_wp2
            go_roundw
            case rel =>
              refine ⟨j + 1, by go_num, by omega, HD.step _, fun k hk => ?_⟩
              rcases Nat.lt_or_ge k j with h | h
              · exact HJ.out k h
              · have : k = j := by omega
                subst this
                rw [HX.out.1, HX.out.2, HC.out]
            case measure => simp [intOf]; omega
          · have hb : ((s[q].toNat : Int) == (sub[j].toNat : Int)) = false := by
              rw [Bool.eq_false_iff]; intro h; rw [beq_iff_eq] at h
              exact hc (UInt8.toNat_inj.1 (by omega))
            have HNA : Hid (¬ At s.data.toList sub.data.toList i) := by
              intro h
              have := h j (by rw [← Lib.size_eq]; exact hjl)
              rw [HX.out.1, HX.out.2] at this
              exact hc (Option.some.inj this)
            have q1 : ((j : Int) == sub.size) = false := by rw [beq_eq_false_iff_ne]; omega
            clear hc HX
            go_wp2
            go_quiet (fail)
            go_wp2
            go_roundw
            case rel =>
              refine ⟨i + 1, by go_num, by omega, HD.step _, fun k hk hks => ?_⟩
              rcases Nat.lt_or_ge k i with h | h
              · exact HN.out k h hks
              · have : k = i := by omega
                subst this
                exact HNA.out
            case measure => simp [intOf]; omega
        · have hje : j = sub.size := by omega
          subst hje
          have HO : Hid (Pl.Occ s.data.toList sub.data.toList) := At.occ (i := i) (fun k hk => HJ.out k (by rw [← Lib.size_eq] at hk; exact hk)) (by rw [← Lib.size_eq, ← Lib.size_eq]; omega)
          clear HJ HN
          go_wp2
          go_quiet (fail)
          go_wp2
          go_ret
          exact ⟨true, rfl, ⟨fun _ => HO.out, fun _ => rfl⟩, HD.step _⟩
    · have HNO : Hid (¬ Pl.Occ s.data.toList sub.data.toList) := by
        intro h
        obtain ⟨k, hk, hA⟩ := occ_at h
        rw [← Lib.size_eq, ← Lib.size_eq] at hk
        exact HN.out k (by omega) hk hA
      clear HN
      go_wp2
      go_ret
      exact ⟨false, rfl, ⟨fun h => (by cases h), fun h => absurd h HNO.out⟩, HD⟩
end Go.Proofs.Qxb6600668aDoor
