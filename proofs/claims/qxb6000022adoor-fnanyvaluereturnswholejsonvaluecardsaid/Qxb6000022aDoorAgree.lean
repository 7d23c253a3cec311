import Derived.Test.Qxb6000022aDoorLine
set_option linter.unusedSimpArgs false
set_option linter.unusedVariables false
namespace Go.Proofs.Qxb6000022aDoor
open Go.RowKit

def TruePost (w : World) (e : Ending) (w' : World) : Prop := e = .returned (.bool true) ∧ Below w.heap.size w w'

set_option maxHeartbeats 2000000 in
theorem agree_any (w : World) (p1 p2 p3 : Option Addr) (c1 c2 c3 : Nat) (l1 l2 l3 : List UInt8) (d : UInt8) (h1 : BytesAt w p1 c1 l1) (h2 : BytesAt w p2 c2 l2) (h3 : BytesAt w p3 c3 l3)
    (n1 : p1 = none → l1 = [] ∧ c1 = 0) (n2 : p2 = none → l2 = [] ∧ c2 = 0) (n3 : p3 = none → l3 = [] ∧ c3 = 0) :
    Calls Tryd.prog 4 #[.slice p1 l1.length c1, .slice p2 l2.length c2, .int .u8 (d.toNat : Int), .slice p3 l3.length c3] w (TruePost w) := by
  have b1 : l1.length ≤ maxLen := Nat.le_trans h1.1 h1.2.1
  have b2 : l2.length ≤ maxLen := Nat.le_trans h2.1 h2.2.1
  have b3 : l3.length ≤ maxLen := Nat.le_trans h3.1 h3.2.1
  have hc11 := bytes11_any w p1 p2 p3 c1 c2 c3 l1.length l2.length l3.length d b1 b2 b3
  unfold maxLen at b1 b2 b3
  have N1 : Hid (p1 = none → l1 = [] ∧ c1 = 0) := n1
  have N2 : Hid (p2 = none → l2 = [] ∧ c2 = 0) := n2
  have N3 : Hid (p3 = none → l3 = [] ∧ c3 = 0) := n3
  clear n1 n2 n3
  go_enter Tryd.func4, Tryd.ntmps4
  go_wp2_with fail
  refine hc11.mono ?_
  rintro e w' ⟨v, rfl, hw⟩
  have hw : w = w' := hw
  subst hw
  clear hc11
  cases v
  · go_wp2
    go_ret
    exact ⟨rfl, Below.refl _ _⟩
  by_cases g1 : (65536 : Int) < l1.length
  · go_wp2
    go_ret
    exact ⟨rfl, Below.refl _ _⟩
  by_cases g2 : (65536 : Int) < l2.length
  · go_wp2
    go_ret
    exact ⟨rfl, Below.refl _ _⟩
  by_cases g3 : (65536 : Int) < l3.length
  · go_wp2
    go_ret
    exact ⟨rfl, Below.refl _ _⟩
  go_wp2_with fail
  refine (text_any w p2 c2 l2 h2).mono ?_
  rintro e wa ⟨v, rfl, hpv, hba⟩
  cases v
  · go_wp2
    go_ret
    exact ⟨rfl, hba⟩
  have PVv : Hid (PV l2) := hpv rfl
  clear hpv
  go_wp2_with fail
  refine (isDelim_any d wa).mono ?_
  rintro e w' ⟨rfl, hw⟩
  subst hw
  cases hdl : isDelim d
  · go_wp2
    go_ret
    exact ⟨rfl, hba⟩
  have HDL : Hid (isDelim d = true) := hdl
  clear hdl
  have H1 : Hid (BytesAt w' p1 c1 l1) := h1.below hba
  have H2 : Hid (BytesAt w' p2 c2 l2) := h2.below hba
  have H3 : Hid (BytesAt w' p3 c3 l3) := h3.below hba
  have HB0 : Hid (Below w.heap.size w w') := hba
  clear h1 h2 h3 hba
  go_wp2_with fail
  refine (clone_any w' p1 c1 l1 H1.out N1.out (by omega)).mono ?_
  rintro e w1 ⟨q1, e1, rfl, hq1, m1, hb1⟩
  have HQ1 : Hid (BytesAt w1 q1 e1 l1 ∧ (q1 = none → l1 = [] ∧ e1 = 0) ∧ Below w'.heap.size w' w1) := ⟨hq1, m1, hb1⟩
  clear hq1 m1 hb1 H1 N1
  go_wp2_with fail
  refine (clone_any w1 p2 c2 l2 (H2.out.below HQ1.out.2.2) N2.out (by omega)).mono ?_
  rintro e w2 ⟨q2, e2, rfl, hq2, m2, hb2⟩
  have HQ2 : Hid (BytesAt w2 q2 e2 l2 ∧ (q2 = none → l2 = [] ∧ e2 = 0) ∧ Below w1.heap.size w1 w2) := ⟨hq2, m2, hb2⟩
  clear hq2 m2 hb2 H2 N2
  go_wp2_with fail
  refine (clone_any w2 p3 c3 l3 ((H3.out.below HQ1.out.2.2).below HQ2.out.2.2) N3.out (by omega)).mono ?_
  rintro e w3 ⟨q3, e3, rfl, hq3, m3, hb3⟩
  have HQ : Hid (BytesAt w3 q1 e1 l1 ∧ (q1 = none → l1 = [] ∧ e1 = 0) ∧ BytesAt w3 q2 e2 l2 ∧ (q2 = none → l2 = [] ∧ e2 = 0) ∧ BytesAt w3 q3 e3 l3 ∧ (q3 = none → l3 = [] ∧ e3 = 0) ∧ Below w.heap.size w w3) :=
    ⟨(HQ1.out.1.below HQ2.out.2.2).below hb3, HQ1.out.2.1, HQ2.out.1.below hb3, HQ2.out.2.1, hq3, m3, HB0.out.trans (((HQ1.out.2.2.trans (HQ2.out.2.2.mono HQ1.out.2.2.size)).trans (hb3.mono (Nat.le_trans HQ1.out.2.2.size HQ2.out.2.2.size))).mono HB0.out.size)⟩
  clear hq3 m3 hb3 H3 N3 HQ1 HQ2 HB0
  obtain ⟨i0, hi, hzz⟩ := Option.map_eq_some_iff.1 info5
  simp only [Prod.mk.injEq] at hzz
  have HI : Hid (Tryd.prog.info? 5 = some i0 ∧ i0.zero = some (.int .u8 0) ∧ i0.size = 1 ∧ i0.bytes = 1) := ⟨hi, hzz⟩
  clear hi hzz
  go_wp2_with (first
    | (refine wpList_make_own w3 rfl _ _ 22 rfl w3.heap.size 5 i0 (.int .u8 0) 1 Tryd.underlying22 HI.out.1 HI.out.2.1 HI.out.2.2.1 .i64 .i64 _ (l1.length + l2.length + l3.length + 1) rfl rfl (by simp) (by have := HI.out.2.2.2; rw [this]; omega) (by unfold maxLen; omega) (Nat.le_refl _) ?_; intro w4 hmk hgm; have HL : Hid (LineRel w3 (some ⟨w3.heap.size, 0, none⟩) (l1.length + l2.length + l3.length + 1) w4 []) := line_made hmk hgm; clear hmk hgm)
    | (at_builtin; refine wpList_append_line w4 rfl (.tmp 54) (.tmp 55) rfl w3 _ _ [] rfl HL.out q1 e1 l1 rfl (HQ.out.1.below HL.out.2) HQ.out.2.1 (by simp; omega) ?_; intro pb1 cb1 w5 hl5; have HL5 : Hid (LineRel w3 pb1 cb1 w5 l1) := hl5; clear hl5; simp only [List.length_nil, Nat.zero_add])
    | (at_builtin; refine wpList_append_line w5 rfl (.tmp 57) (.tmp 58) rfl w3 pb1 cb1 l1 rfl HL5.out q2 e2 l2 rfl (HQ.out.2.2.1.below HL5.out.2) HQ.out.2.2.2.1 (by omega) ?_; intro pb2 cb2 w6 hl6; have HL6 : Hid (LineRel w3 pb2 cb2 w6 (l1 ++ l2)) := hl6; clear hl6)
    | (at_builtin; refine wpList_append_line (w6.alloc (.cells #[.int .u8 (d.toNat : Int)] 5)) rfl (.tmp 60) (.tmp 62) rfl w3 pb2 cb2 (l1 ++ l2) (by rw [List.length_append]; rfl) (HL6.out.alloc _) (some ⟨w6.heap.size, 0, none⟩) 1 [d] rfl (line_one HL6.out d) (fun h => by cases h) (by simp; omega) ?_; intro pb3 cb3 w7 hl7; have HL7 : Hid (LineRel w3 pb3 cb3 w7 (l1 ++ l2 ++ [d])) := hl7; clear hl7; simp only [List.length_append, List.length_cons, List.length_nil, Nat.zero_add])
    | (at_builtin; refine wpList_append_line w7 rfl (.tmp 64) (.tmp 65) rfl w3 pb3 cb3 (l1 ++ l2 ++ [d]) (by simp only [List.length_append, List.length_cons, List.length_nil, Nat.zero_add]; rfl) HL7.out q3 e3 l3 rfl (HQ.out.2.2.2.2.1.below HL7.out.2) HQ.out.2.2.2.2.2.1 (by simp; omega) ?_; intro pb4 cb4 w8 hl8; have HL8 : Hid (LineRel w3 pb4 cb4 w8 (l1 ++ l2 ++ [d] ++ l3)) := hl8; clear hl8; simp only [List.length_append, List.length_cons, List.length_nil, Nat.zero_add]))
  have hlen : (l1 ++ l2 ++ [d] ++ l3).length = l1.length + l2.length + 1 + l3.length := by simp only [List.length_append, List.length_cons, List.length_nil, Nat.zero_add]
  have hdrop : (l1 ++ l2 ++ [d] ++ l3).drop l1.length = l2 ++ d :: l3 := by
    rw [List.append_assoc, List.append_assoc, List.drop_left]; rfl
  have hc13 := zzPlainValue_any w8 pb4 cb4 l1.length (l1 ++ l2 ++ [d] ++ l3) l2 l3 d HL8.out.bytes hdrop PVv.out HDL.out
  rw [hlen] at hc13
  refine hc13.mono ?_
  rintro e w9 ⟨r1, f1, rfl, hr1, hb9⟩
  have hc9 := zzAnyValue_any w9 pb4 cb4 l1.length l2.length (l1 ++ l2 ++ [d] ++ l3) (HL8.out.bytes.below hb9) (by rw [hdrop]; exact av_of_pv PVv.out HDL.out)
  rw [hlen, hdrop, List.take_left] at hc9
  have HR1 : Hid (BytesAt w9 r1 f1 l2 ∧ LineRel w3 pb4 cb4 w9 (l1 ++ l2 ++ [d] ++ l3)) := ⟨hr1, HL8.out.below hb9⟩
  clear hc13 hlen hdrop hr1 hb9
  go_wp2_with fail
  refine hc9.mono ?_
  rintro e w10 ⟨r2, f2, rfl, hr2, hb10⟩
  have HR2 : Hid (BytesAt w10 r1 f1 l2 ∧ BytesAt w10 r2 f2 l2 ∧ BytesAt w10 q2 e2 l2 ∧ Below w.heap.size w w10) :=
    ⟨HR1.out.1.below hb10, hr2, HQ.out.2.2.1.below (HR1.out.2.below hb10).2, HQ.out.2.2.2.2.2.2.trans ((HR1.out.2.below hb10).2.mono HQ.out.2.2.2.2.2.2.size)⟩
  clear hc9 hr2 hb10 HR1 HL HL5 HL6 HL7 HL8 HQ HI
  have hcast : ((l1.length + l2.length : Nat) : Int) = (l1.length : Int) + l2.length := by simp
  rw [hcast]
  clear hcast
  go_wp2_with fail
  refine (same_any w10 r1 q2 f1 e2 l2 HR2.out.1 HR2.out.2.2.1).mono ?_
  rintro e w11 ⟨rfl, hb11⟩
  have HR3 : Hid (BytesAt w11 r2 f2 l2 ∧ BytesAt w11 q2 e2 l2 ∧ Below w.heap.size w w11) := ⟨HR2.out.2.1.below hb11, HR2.out.2.2.1.below hb11, HR2.out.2.2.2.trans (hb11.mono HR2.out.2.2.2.size)⟩
  clear HR2 hb11
  go_wp2_with fail
  refine (same_any w11 r2 q2 f2 e2 l2 HR3.out.1 HR3.out.2.1).mono ?_
  rintro e w12 ⟨rfl, hb12⟩
  have HR4 : Hid (Below w.heap.size w w12) := HR3.out.2.2.trans (hb12.mono HR3.out.2.2.size)
  clear HR3 hb12
  go_wp2
  go_ret
  exact ⟨rfl, HR4.out⟩
end Go.Proofs.Qxb6000022aDoor
