import Derived.Test.Qxb6600668aDoorDot
set_option linter.unusedSimpArgs false
set_option linter.unusedVariables false
namespace Go.Proofs.Qxb6600668aDoor
open Go.RowKit

theorem zzdot_any (s : ByteArray) (w : World) (hs : s.size ≤ 1048576) : Calls Tryd.prog 7 #[.string s] w (DotPost s w) := by
  have h := dot_any s w hs
  go_enter Tryd.func7, Tryd.ntmps7
  go_wp2_with fail
  refine h.mono ?_
  rintro e w' ⟨rfl, hb⟩
  clear h
  have HB : Hid (Below w.heap.size w w') := hb
  clear hb
  go_wp2
  go_ret
  exact ⟨rfl, HB.out⟩

def SizePost (p : ByteArray) (w : World) (e : Ending) (w' : World) : Prop := ∃ v : Bool, e = .returned (.bool v) ∧ (v = true → p.size ≤ 1048576) ∧ w' = w
theorem bytes5_any (p : ByteArray) (w : World) (hp : p.size ≤ maxLen) : Calls Tryd.prog 5 #[.string p] w (SizePost p w) := by
  unfold maxLen at hp
  go_enter Tryd.func5, Tryd.ntmps5
  go_wp2
  all_goals
    go_ret
    exact ⟨_, rfl, fun h => (by first | (cases h; done) | omega), rfl⟩

def TruePost (w : World) (e : Ending) (w' : World) : Prop := e = .returned (.bool true) ∧ Below w.heap.size w w'

theorem framed (p : ByteArray) : (⟨#[47]⟩ ++ p ++ ⟨#[47]⟩ : ByteArray).data.toList = Pl.frame p.data.toList := by
  simp [Pl.frame]

set_option maxHeartbeats 1000000 in
theorem law_walk (p : ByteArray) (w : World) (hp : p.size ≤ maxLen) : Calls Tryd.prog 3 #[.string p] w (TruePost w) := by
  have hb := bytes5_any p w hp
  clear hp
  go_enter Tryd.func3, Tryd.ntmps3
  go_wp2_with fail
  refine hb.mono ?_
  rintro e w' ⟨v, rfl, hsz, hw⟩
  subst hw
  clear hb
  cases v
  · go_wp2
    go_ret
    exact ⟨rfl, Below.refl _ _⟩
  have hsz' := hsz rfl
  clear hsz
  have g0 : ¬ (1048576 : Int) < (p.size : Int) := by omega
  have z1 : ¬ 9223372036854775807 < 1 + p.size := by omega
  have z2 : ¬ 9223372036854775807 < 1 + p.size + 1 := by omega
  have hfs : (⟨#[47]⟩ ++ p ++ ⟨#[47]⟩ : ByteArray).size ≤ 16777216 := by
    rw [Lib.size_eq, framed]; unfold Pl.frame; simp; omega
  have HLAW : Hid (((Pl.segs p.data.toList).any Pl.isDot = true) ↔ Pl.Occ (⟨#[47]⟩ ++ p ++ ⟨#[47]⟩ : ByteArray).data.toList [47, 46, 47] ∨ Pl.Occ (⟨#[47]⟩ ++ p ++ ⟨#[47]⟩ : ByteArray).data.toList [47, 46, 46, 47]) := by
    show _ ↔ _
    rw [framed]; exact Pl.law _
  go_wp2_with fail
  refine (sub_any _ _ w' hfs (by decide)).mono ?_
  rintro e w1 ⟨v1, rfl, ho1, n1, rfl⟩
  have HO1 : Hid (v1 = true ↔ Pl.Occ (⟨#[47]⟩ ++ p ++ ⟨#[47]⟩ : ByteArray).data.toList [47, 46, 47]) := ho1
  clear ho1
  have hbel : Below w'.heap.size w' (w'.drewN n1) := below_drewN (Below.refl _ _) n1
  cases v1
  · go_wp2_with fail
    refine (sub_any _ _ _ hfs (by decide)).mono ?_
    rintro e w2 ⟨v2, rfl, ho2, n2, rfl⟩
    have HO2 : Hid (v2 = true ↔ Pl.Occ (⟨#[47]⟩ ++ p ++ ⟨#[47]⟩ : ByteArray).data.toList [47, 46, 46, 47]) := ho2
    clear ho2
    have hbel2 := below_drewN hbel n2
    have HB2 : Hid (Below w'.heap.size w' ((w'.drewN n1).drewN n2)) := hbel2
    clear hbel hbel2
    generalize (w'.drewN n1).drewN n2 = w3 at *
    have hdt := zzdot_any p w3 hsz'
    have HV : Hid ((Pl.segs p.data.toList).any Pl.isDot = v2) := by
      show _ = _
      rw [Bool.eq_iff_iff, HLAW.out, HO2.out]
      constructor
      · rintro (h | h)
        · exact absurd (HO1.out.2 h) (by simp)
        · exact h
      · exact .inr
    go_wp2_with fail
    refine hdt.mono ?_
    rintro e w4 ⟨rfl, hb4⟩
    rw [HV.out]
    clear hdt
    have HB4 : Hid (Below w'.heap.size w' w4) := HB2.out.trans (hb4.mono HB2.out.size)
    clear hb4
    cases v2
    · go_wp2
      go_ret
      exact ⟨rfl, HB4.out⟩
    · go_wp2
      go_ret
      exact ⟨rfl, HB4.out⟩
  · have HB2 : Hid (Below w'.heap.size w' (w'.drewN n1)) := hbel
    clear hbel
    generalize w'.drewN n1 = w3 at *
    have hdt := zzdot_any p w3 hsz'
    have HV : Hid ((Pl.segs p.data.toList).any Pl.isDot = true) := HLAW.out.2 (.inl (HO1.out.1 (by first | rfl | trivial)))
    go_wp2_with fail
    refine hdt.mono ?_
    rintro e w4 ⟨rfl, hb4⟩
    rw [HV.out]
    clear hdt
    have HB4 : Hid (Below w'.heap.size w' w4) := HB2.out.trans (hb4.mono HB2.out.size)
    clear hb4
    go_wp2
    go_ret
    exact ⟨rfl, HB4.out⟩
end Go.Proofs.Qxb6600668aDoor
