import Derived.Test.Qxb6000022aDoorAgree
import Derived.Test.Qxb6000022aDoorValue
import Derived.Deep.Cut
import Derived.Deep.CutRange
import Derived.Deep.DeepCutAuto
set_option linter.unusedSimpArgs false
set_option linter.unusedVariables false
namespace Go.Proofs.Qxb6000022aDoor
open Go.RowKit

set_option maxHeartbeats 400000 in
/-- The bound on the bytes: some answer. -/
theorem bytes5_any (w : World) (p1 p2 p3 : Option Addr) (c1 c2 c3 n1 n2 n3 : Nat) (h1 : n1 ≤ maxLen) (h2 : n2 ≤ maxLen) (h3 : n3 ≤ maxLen) :
    Calls Tryd.prog 5 #[.slice p1 n1 c1, .slice p2 n2 c2, .slice p3 n3 c3] w fun e w' => (∃ v : Bool, e = .returned (.bool v) ∧ SameW w w') := by
  unfold maxLen at h1 h2 h3
  go_enter Tryd.func5, Tryd.ntmps5
  go_wp2
  all_goals
    go_ret
    exact ⟨_, rfl, rfl⟩

def scal (x : UInt8) : Bool := !(x == 34 || x == 123 || x == 91)
theorem scal_of {x : UInt8} (h : x ≠ 34 ∧ x ≠ 123 ∧ x ≠ 91) : scal x = true := by
  unfold scal; simp [h.1, h.2.1, h.2.2]

set_option maxHeartbeats 4000000 in
set_option maxRecDepth 100000 in
theorem whole_any (w : World) (p1 p2 p3 : Option Addr) (c1 c2 c3 : Nat) (l1 l2 l3 : List UInt8) (h1 : BytesAt w p1 c1 l1) (h2 : BytesAt w p2 c2 l2) (h3 : BytesAt w p3 c3 l3)
    (n1 : p1 = none → l1 = [] ∧ c1 = 0) (n2 : p2 = none → l2 = [] ∧ c2 = 0) (n3 : p3 = none → l3 = [] ∧ c3 = 0) :
    Calls Tryd.prog 3 #[.slice p1 l1.length c1, .slice p2 l2.length c2, .slice p3 l3.length c3] w (TruePost w) := by
  have b1 : l1.length ≤ maxLen := Nat.le_trans h1.1 h1.2.1
  have b2 : l2.length ≤ maxLen := Nat.le_trans h2.1 h2.2.1
  have b3 : l3.length ≤ maxLen := Nat.le_trans h3.1 h3.2.1
  have hc5 := bytes5_any w p1 p2 p3 c1 c2 c3 l1.length l2.length l3.length b1 b2 b3
  unfold maxLen at b1 b2 b3
  have N1 : Hid (p1 = none → l1 = [] ∧ c1 = 0) := n1
  have N2 : Hid (p2 = none → l2 = [] ∧ c2 = 0) := n2
  have N3 : Hid (p3 = none → l3 = [] ∧ c3 = 0) := n3
  clear n1 n2 n3
  go_enter Tryd.func3, Tryd.ntmps3
  go_wp2_with fail
  refine hc5.mono ?_
  rintro e w' ⟨v, rfl, HW⟩
  have hw : w = w' := HW
  clear HW
  subst hw
  clear hc5
  cases v
  · go_wp2
    go_ret
    exact ⟨rfl, Below.refl _ _⟩
  by_cases g1 : (65536 : Int) < l1.length
  · go_wp2
    go_ret
    exact ⟨rfl, Below.refl _ _⟩
  by_cases g2 : (65536 : Int) < l2.length
  · go_wp2
    go_ret
    exact ⟨rfl, Below.refl _ _⟩
  by_cases g3 : (65536 : Int) < l3.length
  · go_wp2
    go_ret
    exact ⟨rfl, Below.refl _ _⟩
  have hpv := parseValue_any p2 c2 l2 (by omega) _ 0 (Nat.le_refl _) (Nat.zero_le _) w h2
  go_wp2_with fail
  refine hpv.mono ?_
  clear hpv
  rintro e wa ⟨hba, rfl | ⟨k, rfl, hv⟩⟩
  · have HBA : Hid (Below w.heap.size w wa) := hba
    clear hba
    have hne : ((-1 : Int) == (l2.length : Int)) = false := by rw [beq_eq_false_iff_ne]; omega
    have hne' : ((-1 : Int) != (l2.length : Int)) = true := by rw [bne, hne]; rfl
    go_wp2
    go_ret
    exact ⟨rfl, HBA.out⟩
  by_cases hkl : k = l2.length
  rotate_left
  · have HBA : Hid (Below w.heap.size w wa) := hba
    clear hba hv
    have hne : ((k : Int) == (l2.length : Int)) = false := by rw [beq_eq_false_iff_ne]; omega
    have hne' : ((k : Int) != (l2.length : Int)) = true := by rw [bne, hne]; rfl
    clear hkl
    go_wp2
    go_ret
    exact ⟨rfl, HBA.out⟩
  subst hkl
  have hpos : 0 < l2.length := hv.1
  have HTOP : Hid (Top l2 0 l2.length) := hv.2.2.2
  obtain ⟨b, o, rfl, e0⟩ := (h2.below hba).at hpos
  have G0 : Hid (l2[0]? = some l2[0]) := List.getElem?_eq_getElem hpos
  generalize l2[0] = x at *
  rw [Nat.add_zero] at e0
  have hpos' : (0 : Int) < l2.length := by omega
  have H1 : Hid (BytesAt wa p1 c1 l1) := h1.below hba
  have H2 : Hid (BytesAt wa (some ⟨b, o, none⟩) c2 l2) := h2.below hba
  have H3 : Hid (BytesAt wa p3 c3 l3) := h3.below hba
  have HB0 : Hid (Below w.heap.size w wa) := hba
  clear h1 h2 h3 hba hv
  go_upto_region 12 with fail
  go_cut [8] (fun s wx => s = .bool (scal x) ∧ SameW wa wx)
  case first =>
    by_cases x34 : x = 34
    · have q1 : ((x.toNat : Int) == 34) = true := byte_is x 34 (by decide) x34
      have q1n : ((x.toNat : Int) != 34) = false := by rw [bne, q1]; rfl
      have HS : Hid (scal x = false) := by show scal x = false; rw [x34]; rfl
      clear x34
      go_wp2
      go_meet
      case rel => exact ⟨by rw [HS.out], rfl⟩
    have q1 : ((x.toNat : Int) == 34) = false := byte_ne x 34 (by decide) x34
    have q1n : ((x.toNat : Int) != 34) = true := by rw [bne, q1]; rfl
    by_cases x123 : x = 123
    · have q2 : ((x.toNat : Int) == 123) = true := byte_is x 123 (by decide) x123
      have q2n : ((x.toNat : Int) != 123) = false := by rw [bne, q2]; rfl
      have HS : Hid (scal x = false) := by show scal x = false; rw [x123]; rfl
      clear x34 x123
      go_wp2
      go_meet
      case rel => exact ⟨by rw [HS.out], rfl⟩
    have q2 : ((x.toNat : Int) == 123) = false := byte_ne x 123 (by decide) x123
    have q2n : ((x.toNat : Int) != 123) = true := by rw [bne, q2]; rfl
    by_cases x91 : x = 91
    · have q3 : ((x.toNat : Int) == 91) = true := byte_is x 91 (by decide) x91
      have q3n : ((x.toNat : Int) != 91) = false := by rw [bne, q3]; rfl
      have HS : Hid (scal x = false) := by show scal x = false; rw [x91]; rfl
      clear x34 x123 x91
      go_wp2
      go_meet
      case rel => exact ⟨by rw [HS.out], rfl⟩
    have q3 : ((x.toNat : Int) == 91) = false := byte_ne x 91 (by decide) x91
    have q3n : ((x.toNat : Int) != 91) = true := by rw [bne, q3]; rfl
    have HS : Hid (scal x = true) := scal_of ⟨x34, x123, x91⟩
    clear x34 x123 x91
    go_wp2
    go_meet
    case rel => exact ⟨by rw [HS.out], rfl⟩
  case rest =>
    obtain ⟨rfl, HW⟩ := hcut
    have hw : wa = wc := HW
    clear HW
    subst hw
    clear e0
    go_upto_region 13 with fail
    go_cut [8, 56] (fun s8 s wx => ∃ v : Bool, s = .bool v ∧ SameW wa wx ∧ Hid (v = false → scal x = true → ∃ d r, l3 = d :: r ∧ isDelim d = true))
    case first =>
      cases hsc : scal x
      · go_wp2
        go_meet
        case rel => exact ⟨false, rfl, rfl, fun _ h => by rw [hsc] at h; cases h⟩
      · by_cases hl : l3.length = 0
        · have hz : ((l3.length : Int) == 0) = true := by rw [hl]; rfl
          clear hl
          go_wp2
          go_meet
          case rel => exact ⟨true, rfl, rfl, fun h => by cases h⟩
        · obtain ⟨b', o', rfl, e3⟩ := H3.out.at (k := 0) (by omega)
          have G3 : Hid (l3[0]? = some l3[0]) := List.getElem?_eq_getElem (by omega)
          generalize l3[0] = d at *
          rw [Nat.add_zero] at e3
          have hz : ((l3.length : Int) == 0) = false := by rw [beq_eq_false_iff_ne]; omega
          have hl1 : (0 : Int) < l3.length := by omega
          clear hl
          have hdc := isDelim_any d wa
          go_wp2_with fail
          refine hdc.mono ?_
          rintro e w' ⟨rfl, hw⟩
          subst hw
          go_wp2
          go_meet
          case rel =>
            refine ⟨!isDelim d, rfl, rfl, fun h _ => ?_⟩
            have hg := G3.out
            cases l3 with
            | nil => cases hg
            | cons y r =>
              have : y = d := by simpa using hg
              exact ⟨y, r, rfl, by rw [this]; simpa using h⟩
    case rest =>
      obtain ⟨v, rfl, HW, HOK⟩ := hcut
      have hw : wa = wc := HW
      clear HW
      subst hw
      cases v
      rotate_left
      · go_wp2
        go_ret
        exact ⟨rfl, HB0.out⟩
      have HAV : Hid (AV (l2 ++ l3) l2.length) := av_of_top hpos HTOP.out (fun ⟨y, hy, hyn⟩ => HOK.out rfl (by
        have := G0.out
        rw [hy] at this
        rw [← Option.some.inj this]
        exact scal_of hyn))
      clear HOK HTOP G0
      go_wp2_with fail
      refine (clone_any wa p1 c1 l1 H1.out N1.out (by omega)).mono ?_
      rintro e w1 ⟨q1, e1, rfl, hq1, m1, hb1⟩
      have HQ1 : Hid (BytesAt w1 q1 e1 l1 ∧ (q1 = none → l1 = [] ∧ e1 = 0) ∧ Below wa.heap.size wa w1) := ⟨hq1, m1, hb1⟩
      clear hq1 m1 hb1 H1 N1
      go_wp2_with fail
      refine (clone_any w1 (some ⟨b, o, none⟩) c2 l2 (H2.out.below HQ1.out.2.2) N2.out (by omega)).mono ?_
      rintro e w2 ⟨q2, e2, rfl, hq2, m2, hb2⟩
      have HQ2 : Hid (BytesAt w2 q2 e2 l2 ∧ (q2 = none → l2 = [] ∧ e2 = 0) ∧ Below w1.heap.size w1 w2) := ⟨hq2, m2, hb2⟩
      clear hq2 m2 hb2 H2 N2
      go_wp2_with fail
      refine (clone_any w2 p3 c3 l3 ((H3.out.below HQ1.out.2.2).below HQ2.out.2.2) N3.out (by omega)).mono ?_
      rintro e w3 ⟨q3, e3, rfl, hq3, m3, hb3⟩
      have HQ : Hid (BytesAt w3 q1 e1 l1 ∧ (q1 = none → l1 = [] ∧ e1 = 0) ∧ BytesAt w3 q2 e2 l2 ∧ (q2 = none → l2 = [] ∧ e2 = 0) ∧ BytesAt w3 q3 e3 l3 ∧ (q3 = none → l3 = [] ∧ e3 = 0) ∧ Below w.heap.size w w3) :=
        ⟨(HQ1.out.1.below HQ2.out.2.2).below hb3, HQ1.out.2.1, HQ2.out.1.below hb3, HQ2.out.2.1, hq3, m3, HB0.out.trans (((HQ1.out.2.2.trans (HQ2.out.2.2.mono HQ1.out.2.2.size)).trans (hb3.mono (Nat.le_trans HQ1.out.2.2.size HQ2.out.2.2.size))).mono HB0.out.size)⟩
      clear hq3 m3 hb3 H3 N3 HQ1 HQ2 HB0
      obtain ⟨i0, hi, hzz⟩ := Option.map_eq_some_iff.1 info5
      simp only [Prod.mk.injEq] at hzz
      have HI : Hid (Tryd.prog.info? 5 = some i0 ∧ i0.zero = some (.int .u8 0) ∧ i0.size = 1 ∧ i0.bytes = 1) := ⟨hi, hzz⟩
      clear hi hzz
      go_wp2_with (first
        | (refine wpList_make_own w3 rfl _ _ 22 rfl w3.heap.size 5 i0 (.int .u8 0) 1 Tryd.underlying22 HI.out.1 HI.out.2.1 HI.out.2.2.1 .i64 .i64 _ (l1.length + l2.length + l3.length) rfl rfl (by simp) (by have := HI.out.2.2.2; rw [this]; omega) (by unfold maxLen; omega) (Nat.le_refl _) ?_; intro w4 hmk hgm; have HL : Hid (LineRel w3 (some ⟨w3.heap.size, 0, none⟩) (l1.length + l2.length + l3.length) w4 []) := line_made hmk hgm; clear hmk hgm)
        | (at_builtin; refine wpList_append_line w4 rfl (.tmp 72) (.tmp 73) rfl w3 _ _ [] rfl HL.out q1 e1 l1 rfl (HQ.out.1.below HL.out.2) HQ.out.2.1 (by simp; omega) ?_; intro pb1 cb1 w5 hl5; have HL5 : Hid (LineRel w3 pb1 cb1 w5 l1) := hl5; clear hl5; simp only [List.length_nil, Nat.zero_add])
        | (at_builtin; refine wpList_append_line w5 rfl (.tmp 75) (.tmp 76) rfl w3 pb1 cb1 l1 rfl HL5.out q2 e2 l2 rfl (HQ.out.2.2.1.below HL5.out.2) HQ.out.2.2.2.1 (by omega) ?_; intro pb2 cb2 w6 hl6; have HL6 : Hid (LineRel w3 pb2 cb2 w6 (l1 ++ l2)) := hl6; clear hl6)
        | (at_builtin; refine wpList_append_line w6 rfl (.tmp 78) (.tmp 79) rfl w3 pb2 cb2 (l1 ++ l2) (by rw [List.length_append]; rfl) HL6.out q3 e3 l3 rfl (HQ.out.2.2.2.2.1.below HL6.out.2) HQ.out.2.2.2.2.2.1 (by simp; omega) ?_; intro pb4 cb4 w8 hl8; have HL8 : Hid (LineRel w3 pb4 cb4 w8 (l1 ++ l2 ++ l3)) := hl8; clear hl8; simp only [List.length_append]))
      have hlen : (l1 ++ l2 ++ l3).length = l1.length + l2.length + l3.length := by simp only [List.length_append]
      have hdrop : (l1 ++ l2 ++ l3).drop l1.length = l2 ++ l3 := by
        rw [List.append_assoc, List.drop_left]
      have hc9 := zzAnyValue_any w8 pb4 cb4 l1.length l2.length (l1 ++ l2 ++ l3) HL8.out.bytes (by rw [hdrop]; exact HAV.out)
      rw [hlen, hdrop, List.take_left] at hc9
      refine hc9.mono ?_
      rintro e w10 ⟨r2, f2, rfl, hr2, hb10⟩
      have HR2 : Hid (BytesAt w10 r2 f2 l2 ∧ BytesAt w10 q2 e2 l2 ∧ Below w.heap.size w w10) :=
        ⟨hr2, HQ.out.2.2.1.below (HL8.out.below hb10).2, HQ.out.2.2.2.2.2.2.trans ((HL8.out.below hb10).2.mono HQ.out.2.2.2.2.2.2.size)⟩
      clear hc9 hr2 hb10 HL HL5 HL6 HL8 HQ HI hlen hdrop
      have hcast : ((l1.length + l2.length : Nat) : Int) = (l1.length : Int) + l2.length := by simp
      rw [hcast]
      clear hcast
      go_wp2_with fail
      refine (same_any w10 r2 q2 f2 e2 l2 HR2.out.1 HR2.out.2.1).mono ?_
      rintro e w12 ⟨rfl, hb12⟩
      have HR4 : Hid (Below w.heap.size w w12) := HR2.out.2.2.trans (hb12.mono HR2.out.2.2.size)
      clear HR2 hb12
      go_wp2
      go_ret
      exact ⟨rfl, HR4.out⟩
end Go.Proofs.Qxb6000022aDoor
