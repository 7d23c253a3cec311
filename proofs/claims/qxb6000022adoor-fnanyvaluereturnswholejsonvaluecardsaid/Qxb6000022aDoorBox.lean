import Derived.Test.Qxb6000022aDoorPstr
import Derived.Test.Qxb6000022aDoorNum
set_option linter.unusedSimpArgs false
set_option linter.unusedVariables false
namespace Go.Proofs.Qxb6000022aDoor
open Go.RowKit

def VPost (l : List UInt8) (i : Nat) (w : World) (e : Ending) (w' : World) : Prop :=
  Below w.heap.size w w' ∧ (e = .returned (.int .i64 (-1)) ∨ ∃ k : Nat, e = .returned (.int .i64 (k : Int)) ∧ VG l i k)
def BoxPost (l : List UInt8) (i : Nat) (w : World) (e : Ending) (w' : World) : Prop :=
  Below w.heap.size w w' ∧ (e = .returned (.int .i64 (-1)) ∨ ∃ k : Nat, e = .returned (.int .i64 (k : Int)) ∧ k ≤ l.length ∧ ∀ d, Gs l (d + 1) (i + 1) d k)

/-- Inside a box: the scan goes on at its depth. -/
def In (l : List UInt8) (i k : Nat) : Prop := ∀ d, Gs l (d + 1) (i + 1) (d + 1) k
theorem In.space {l : List UInt8} {i k n : Nat} (h : In l i k) (hr : Runs isSp l k n) : In l i n := fun d => (h d).trans (Gs.calms _ k n rfl (hr.mono fun _ => isSp_calm))
theorem In.value {l : List UInt8} {i k n : Nat} (h : In l i k) (hv : VG l k n) : In l i n := fun d => (h d).trans (hv.2.2.1 d)
theorem In.byte {l : List UInt8} {i k : Nat} {x : UInt8} (h : In l i k) (hx : l[k]? = some x) (hc : calm x = true) : In l i (k + 1) := fun d =>
  (h d).trans (Gs.byte hx ((calm_iff x).1 hc).1 ((calm_iff x).1 hc).2.1 ((calm_iff x).1 hc).2.2)
theorem In.str {l : List UInt8} {i k n : Nat} (h : In l i k) (hx : l[k]? = some 34) (hn : sEnd (l.drop (k + 1)) = some (n - (k + 1))) (hk : k < n) : In l i n := fun d => by
  have := (h d).trans (Gs.str hx hn)
  rw [show k + 1 + (n - (k + 1)) = n by omega] at this
  exact this
theorem In.close {l : List UInt8} {i k : Nat} {x : UInt8} (h : In l i k) (hx : l[k]? = some x) (hc : x = 125 ∨ x = 93) : ∀ d, Gs l (d + 1) (i + 1) d (k + 1) := fun d => (h d).trans (Gs.close hx hc)
theorem In.start (l : List UInt8) (i : Nat) : In l i (i + 1) := fun d => Gs.refl _ _ _

set_option maxHeartbeats 4000000 in
set_option maxRecDepth 100000 in
theorem parseArray_of (pa : Option Addr) (c i : Nat) (l : List UInt8) (hl : l.length ≤ 1048576) (hi : i < l.length)
    (IH : ∀ j, i < j → j ≤ l.length → ∀ w, BytesAt w pa c l → Calls Tryd.prog 6 #[.slice pa l.length c, .int .i64 j] w (VPost l j w)) (w : World) (hA : BytesAt w pa c l) :
    Calls Tryd.prog 16 #[.slice pa l.length c, .int .i64 i] w (BoxPost l i w) := by
  have hrd : ∀ k wr, Below w.heap.size w wr → k < l.length → ∃ b o, ∃ x : UInt8, pa = some ⟨b, o, none⟩ ∧ wr.cell? ⟨b, o + k, none⟩ = some (.int .u8 (x.toNat : Int)) ∧ l[k]? = some x := by
    intro k wr hb hk
    obtain ⟨b, o, h1, h2⟩ := (hA.below hb).at hk
    exact ⟨b, o, l[k], h1, h2, List.getElem?_eq_getElem hk⟩
  have RD : Hid (∀ k wr, Below w.heap.size w wr → k < l.length → ∃ b o, ∃ x : UInt8, pa = some ⟨b, o, none⟩ ∧ wr.cell? ⟨b, o + k, none⟩ = some (.int .u8 (x.toNat : Int)) ∧ l[k]? = some x) := hrd
  have VV : Hid (∀ j, i < j → j ≤ l.length → ∀ w, BytesAt w pa c l → Calls Tryd.prog 6 #[.slice pa l.length c, .int .i64 j] w (VPost l j w)) := IH
  have HA : Hid (BytesAt w pa c l) := hA
  obtain ⟨b, o, _, rfl, _, _⟩ := hrd i w (Below.refl _ _) hi
  clear hrd IH hA
  go_enter Tryd.func16, Tryd.ntmps16
  go_wp2_with fail
  refine (skipSpace_any w (some ⟨b, o, none⟩) c (i + 1) l HA.out (by omega)).mono ?_
  rintro e w' ⟨j, rfl, hr, HW⟩
  have hw : w = w' := HW
  clear HW
  subst hw
  have hij : i + 1 ≤ j := hr.1
  have hjl : j ≤ l.length := hr.2.1
  have HIN : Hid (In l i j) := (In.start l i).space hr
  clear hr
  by_cases hj : (j : Int) < l.length
  · obtain ⟨b', o', x, hbo, e1, g1⟩ := RD.out j w (Below.refl _ _) (by omega)
    cases hbo
    have G1 : Hid (l[j]? = some x) := g1
    clear g1
    by_cases xcl : x = 93
    · have q1 : ((x.toNat : Int) == 93) = true := byte_is x 93 (by decide) xcl
      have HC : Hid (∀ d, Gs l (d + 1) (i + 1) d (j + 1)) := HIN.out.close G1.out (.inr xcl)
      clear xcl
      go_wp2
      go_ret
      exact ⟨Below.refl _ _, .inr ⟨j + 1, by go_num, by omega, HC.out⟩⟩
    have q1 : ((x.toNat : Int) == 93) = false := byte_ne x 93 (by decide) xcl
    clear xcl G1
    go_wp2
    clear e1 q1
    go_loopw [5] (fun s wr => ∃ k : Nat, s = .int .i64 k ∧ i + 1 ≤ k ∧ k ≤ l.length ∧ Hid (In l i k ∧ Below w.heap.size w wr)) (fun s _ => l.length - (intOf s).toNat)
    case atStart => exact ⟨j, rfl, hij, hjl, HIN.out, Below.refl _ _⟩
    case round =>
      obtain ⟨k, rfl, hik, hk, HK⟩ := hrel
      clear HIN hj hij hjl
      by_cases hlt : (k : Int) < l.length
      · go_wp2_with fail
        refine (VV.out k (by omega) (by omega) wr (HA.out.below HK.out.2)).mono ?_
        rintro e w1 ⟨hb1, rfl | ⟨k2, rfl, hv⟩⟩
        · have HB1 : Hid (Below w.heap.size w w1) := HK.out.2.trans (hb1.mono HK.out.2.size)
          clear hb1
          go_wp2
          go_ret
          exact ⟨HB1.out, .inl rfl⟩
        have HV : Hid (In l i k2 ∧ Below w.heap.size w w1) := ⟨HK.out.1.value hv, HK.out.2.trans (hb1.mono HK.out.2.size)⟩
        have hk2 : k + 1 ≤ k2 := by have := hv.1; omega
        have hk2l : k2 ≤ l.length := hv.2.1
        have hk20 : ¬ (k2 : Int) < 0 := by omega
        clear hv hb1 HK
        go_wp2_with fail
        refine (skipSpace_any w1 (some ⟨b, o, none⟩) c k2 l (HA.out.below HV.out.2) hk2l).mono ?_
        rintro e w' ⟨k3, rfl, hr, HW⟩
        have hw : w1 = w' := HW
        clear HW
        subst hw
        have hk3 : k2 ≤ k3 := hr.1
        have hk3l : k3 ≤ l.length := hr.2.1
        have HV3 : Hid (In l i k3 ∧ Below w.heap.size w w1) := ⟨HV.out.1.space hr, HV.out.2⟩
        clear hr HV
        by_cases hlt3 : (k3 : Int) < l.length
        · obtain ⟨b', o', y, hbo, e1, g1⟩ := RD.out k3 w1 HV3.out.2 (by omega)
          cases hbo
          have G1 : Hid (l[k3]? = some y) := g1
          clear g1
          by_cases ycl : y = 93
          · have q1 : ((y.toNat : Int) == 93) = true := byte_is y 93 (by decide) ycl
            have HC : Hid (∀ d, Gs l (d + 1) (i + 1) d (k3 + 1)) := HV3.out.1.close G1.out (.inr ycl)
            clear ycl
            go_wp2
            go_ret
            exact ⟨HV3.out.2, .inr ⟨k3 + 1, by go_num, by omega, HC.out⟩⟩
          have q1 : ((y.toNat : Int) == 93) = false := byte_ne y 93 (by decide) ycl
          clear ycl
          by_cases y44 : y = 44
          · have q2 : ((y.toNat : Int) == 44) = true := byte_is y 44 (by decide) y44
            have HV4 : Hid (In l i (k3 + 1) ∧ Below w.heap.size w w1) := ⟨HV3.out.1.byte G1.out (by rw [y44]; decide), HV3.out.2⟩
            clear y44 HV3 G1
            go_wp2_with fail
            refine (skipSpace_any w1 (some ⟨b, o, none⟩) c (k3 + 1) l (HA.out.below HV4.out.2) (by omega)).mono ?_
            rintro e w' ⟨k5, rfl, hr, HW⟩
            have hw : w1 = w' := HW
            clear HW
            subst hw
            have hk5 : k3 + 1 ≤ k5 := hr.1
            have hk5l : k5 ≤ l.length := hr.2.1
            have HV5 : Hid (In l i k5 ∧ Below w.heap.size w w1) := ⟨HV4.out.1.space hr, HV4.out.2⟩
            clear hr HV4
            go_wp2
            go_roundw
            case rel => exact ⟨k5, rfl, by omega, by omega, HV5⟩
            case measure => simp [intOf]; omega
          · have q2 : ((y.toNat : Int) == 44) = false := byte_ne y 44 (by decide) y44
            clear y44
            go_wp2
            go_ret
            exact ⟨HV3.out.2, .inl rfl⟩
        · go_wp2
          go_ret
          exact ⟨HV3.out.2, .inl rfl⟩
      · go_wp2
        go_ret
        exact ⟨HK.out.2, .inl rfl⟩
  · go_wp2
    go_loopw [5] (fun s wr => s = .int .i64 j ∧ SameW w wr) (fun s _ => 0)
    case atStart => exact ⟨rfl, rfl⟩
    case round =>
      obtain ⟨rfl, HW⟩ := hrel
      have hw : w = wr := HW
      clear HW
      subst hw
      go_wp2
      go_ret
      exact ⟨Below.refl _ _, .inl rfl⟩

set_option maxHeartbeats 4000000 in
set_option maxRecDepth 100000 in
theorem parseObject_of (pa : Option Addr) (c i : Nat) (l : List UInt8) (hl : l.length ≤ 1048576) (hi : i < l.length)
    (IH : ∀ j, i < j → j ≤ l.length → ∀ w, BytesAt w pa c l → Calls Tryd.prog 6 #[.slice pa l.length c, .int .i64 j] w (VPost l j w)) (w : World) (hA : BytesAt w pa c l) :
    Calls Tryd.prog 15 #[.slice pa l.length c, .int .i64 i] w (BoxPost l i w) := by
  have hrd : ∀ k wr, Below w.heap.size w wr → k < l.length → ∃ b o, ∃ x : UInt8, pa = some ⟨b, o, none⟩ ∧ wr.cell? ⟨b, o + k, none⟩ = some (.int .u8 (x.toNat : Int)) ∧ l[k]? = some x := by
    intro k wr hb hk
    obtain ⟨b, o, h1, h2⟩ := (hA.below hb).at hk
    exact ⟨b, o, l[k], h1, h2, List.getElem?_eq_getElem hk⟩
  have RD : Hid (∀ k wr, Below w.heap.size w wr → k < l.length → ∃ b o, ∃ x : UInt8, pa = some ⟨b, o, none⟩ ∧ wr.cell? ⟨b, o + k, none⟩ = some (.int .u8 (x.toNat : Int)) ∧ l[k]? = some x) := hrd
  have VV : Hid (∀ j, i < j → j ≤ l.length → ∀ w, BytesAt w pa c l → Calls Tryd.prog 6 #[.slice pa l.length c, .int .i64 j] w (VPost l j w)) := IH
  have HA : Hid (BytesAt w pa c l) := hA
  obtain ⟨b, o, _, rfl, _, _⟩ := hrd i w (Below.refl _ _) hi
  clear hrd IH hA
  go_enter Tryd.func15, Tryd.ntmps15
  go_wp2_with fail
  refine (skipSpace_any w (some ⟨b, o, none⟩) c (i + 1) l HA.out (by omega)).mono ?_
  rintro e w' ⟨j, rfl, hr, HW⟩
  have hw : w = w' := HW
  clear HW
  subst hw
  have hij : i + 1 ≤ j := hr.1
  have hjl : j ≤ l.length := hr.2.1
  have HIN : Hid (In l i j) := (In.start l i).space hr
  clear hr
  by_cases hj : (j : Int) < l.length
  · obtain ⟨b', o', x, hbo, e1, g1⟩ := RD.out j w (Below.refl _ _) (by omega)
    cases hbo
    have G1 : Hid (l[j]? = some x) := g1
    clear g1
    by_cases xcl : x = 125
    · have q1 : ((x.toNat : Int) == 125) = true := byte_is x 125 (by decide) xcl
      have HC : Hid (∀ d, Gs l (d + 1) (i + 1) d (j + 1)) := HIN.out.close G1.out (.inl xcl)
      clear xcl
      go_wp2
      go_ret
      exact ⟨Below.refl _ _, .inr ⟨j + 1, by go_num, by omega, HC.out⟩⟩
    have q1 : ((x.toNat : Int) == 125) = false := byte_ne x 125 (by decide) xcl
    clear xcl G1
    go_wp2
    clear e1 q1
    go_loopw [5] (fun s wr => ∃ k : Nat, s = .int .i64 k ∧ i + 1 ≤ k ∧ k ≤ l.length ∧ Hid (In l i k ∧ Below w.heap.size w wr)) (fun s _ => l.length - (intOf s).toNat)
    case atStart => exact ⟨j, rfl, hij, hjl, HIN.out, Below.refl _ _⟩
    case round =>
      obtain ⟨k, rfl, hik, hk, HK⟩ := hrel
      clear HIN hj hij hjl
      by_cases hlt : (k : Int) < l.length
      · obtain ⟨b', o', y0, hbo, e1, g1⟩ := RD.out k wr HK.out.2 (by omega)
        cases hbo
        have G1 : Hid (l[k]? = some y0) := g1
        clear g1
        by_cases y34 : y0 = 34
        · have q1 : ((y0.toNat : Int) == 34) = true := byte_is y0 34 (by decide) y34
          have G34 : Hid (l[k]? = some 34) := by show l[k]? = some 34; rw [G1.out, y34]
          clear y34 G1
          go_wp2_with fail
          refine (parseString_any wr (some ⟨b, o, none⟩) c k l (HA.out.below HK.out.2) hl (by omega)).mono ?_
          rintro e w' ⟨HW, rfl | ⟨ks, rfl, hks, hksl, hse⟩⟩
          · have hw : wr = w' := HW
            clear HW
            subst hw
            go_wp2
            go_ret
            exact ⟨HK.out.2, .inl rfl⟩
          have hw : wr = w' := HW
          clear HW
          subst hw
          have HS : Hid (In l i ks ∧ Below w.heap.size w wr) := ⟨HK.out.1.str G34.out hse hks, HK.out.2⟩
          have hks0 : ¬ (ks : Int) < 0 := by omega
          clear hse HK G34 e1 q1
          go_wp2_with fail
          refine (skipSpace_any wr (some ⟨b, o, none⟩) c ks l (HA.out.below HS.out.2) hksl).mono ?_
          rintro e w' ⟨kt, rfl, hr, HW⟩
          have hw : wr = w' := HW
          clear HW
          subst hw
          have hkt : ks ≤ kt := hr.1
          have hktl : kt ≤ l.length := hr.2.1
          have HT : Hid (In l i kt ∧ Below w.heap.size w wr) := ⟨HS.out.1.space hr, HS.out.2⟩
          clear hr HS hks0
          by_cases hlt2 : (kt : Int) < l.length
          · obtain ⟨b', o', y, hbo, e1, g1⟩ := RD.out kt wr HT.out.2 (by omega)
            cases hbo
            have G1 : Hid (l[kt]? = some y) := g1
            clear g1
            by_cases y58 : y = 58
            · have q2 : ((y.toNat : Int) == 58) = true := byte_is y 58 (by decide) y58
              have q3 : ((y.toNat : Int) != 58) = false := by rw [bne, q2]; rfl
              have HU : Hid (In l i (kt + 1) ∧ Below w.heap.size w wr) := ⟨HT.out.1.byte G1.out (by rw [y58]; decide), HT.out.2⟩
              clear y58 HT G1
              go_wp2_with fail
              refine (skipSpace_any wr (some ⟨b, o, none⟩) c (kt + 1) l (HA.out.below HU.out.2) (by omega)).mono ?_
              rintro e w' ⟨ku, rfl, hr, HW⟩
              have hw : wr = w' := HW
              clear HW
              subst hw
              have hku : kt + 1 ≤ ku := hr.1
              have hkul : ku ≤ l.length := hr.2.1
              have HX : Hid (In l i ku ∧ Below w.heap.size w wr) := ⟨HU.out.1.space hr, HU.out.2⟩
              clear hr HU e1 q2 q3
              go_wp2_with fail
              refine (VV.out ku (by omega) hkul wr (HA.out.below HX.out.2)).mono ?_
              rintro e w1 ⟨hb1, rfl | ⟨k2, rfl, hv⟩⟩
              · have HB1 : Hid (Below w.heap.size w w1) := HX.out.2.trans (hb1.mono HX.out.2.size)
                clear hb1
                go_wp2
                go_ret
                exact ⟨HB1.out, .inl rfl⟩
              have HV : Hid (In l i k2 ∧ Below w.heap.size w w1) := ⟨HX.out.1.value hv, HX.out.2.trans (hb1.mono HX.out.2.size)⟩
              have hk2 : k + 1 ≤ k2 := by have := hv.1; omega
              have hk2l : k2 ≤ l.length := hv.2.1
              have hk20 : ¬ (k2 : Int) < 0 := by omega
              clear hv hb1 HX
              go_wp2_with fail
              refine (skipSpace_any w1 (some ⟨b, o, none⟩) c k2 l (HA.out.below HV.out.2) hk2l).mono ?_
              rintro e w' ⟨k3, rfl, hr, HW⟩
              have hw : w1 = w' := HW
              clear HW
              subst hw
              have hk3 : k2 ≤ k3 := hr.1
              have hk3l : k3 ≤ l.length := hr.2.1
              have HV3 : Hid (In l i k3 ∧ Below w.heap.size w w1) := ⟨HV.out.1.space hr, HV.out.2⟩
              clear hr HV
              by_cases hlt3 : (k3 : Int) < l.length
              · obtain ⟨b', o', y, hbo, e1, g1⟩ := RD.out k3 w1 HV3.out.2 (by omega)
                cases hbo
                have G1 : Hid (l[k3]? = some y) := g1
                clear g1
                by_cases ycl : y = 125
                · have q1 : ((y.toNat : Int) == 125) = true := byte_is y 125 (by decide) ycl
                  have HC : Hid (∀ d, Gs l (d + 1) (i + 1) d (k3 + 1)) := HV3.out.1.close G1.out (.inl ycl)
                  clear ycl
                  go_wp2
                  go_ret
                  exact ⟨HV3.out.2, .inr ⟨k3 + 1, by go_num, by omega, HC.out⟩⟩
                have q1 : ((y.toNat : Int) == 125) = false := byte_ne y 125 (by decide) ycl
                clear ycl
                by_cases y44 : y = 44
                · have q2 : ((y.toNat : Int) == 44) = true := byte_is y 44 (by decide) y44
                  have HV4 : Hid (In l i (k3 + 1) ∧ Below w.heap.size w w1) := ⟨HV3.out.1.byte G1.out (by rw [y44]; decide), HV3.out.2⟩
                  clear y44 HV3 G1
                  go_wp2_with fail
                  refine (skipSpace_any w1 (some ⟨b, o, none⟩) c (k3 + 1) l (HA.out.below HV4.out.2) (by omega)).mono ?_
                  rintro e w' ⟨k5, rfl, hr, HW⟩
                  have hw : w1 = w' := HW
                  clear HW
                  subst hw
                  have hk5 : k3 + 1 ≤ k5 := hr.1
                  have hk5l : k5 ≤ l.length := hr.2.1
                  have HV5 : Hid (In l i k5 ∧ Below w.heap.size w w1) := ⟨HV4.out.1.space hr, HV4.out.2⟩
                  clear hr HV4
                  go_wp2
                  go_roundw
                  case rel => exact ⟨k5, rfl, by omega, by omega, HV5⟩
                  case measure => simp [intOf]; omega
                · have q2 : ((y.toNat : Int) == 44) = false := byte_ne y 44 (by decide) y44
                  clear y44
                  go_wp2
                  go_ret
                  exact ⟨HV3.out.2, .inl rfl⟩
              · go_wp2
                go_ret
                exact ⟨HV3.out.2, .inl rfl⟩
            · have q2 : ((y.toNat : Int) == 58) = false := byte_ne y 58 (by decide) y58
              have q3 : ((y.toNat : Int) != 58) = true := by rw [bne, q2]; rfl
              clear y58
              go_wp2
              go_ret
              exact ⟨HT.out.2, .inl rfl⟩
          · go_wp2
            go_ret
            exact ⟨HT.out.2, .inl rfl⟩
        · have q1 : ((y0.toNat : Int) == 34) = false := byte_ne y0 34 (by decide) y34
          clear y34
          go_wp2
          go_ret
          exact ⟨HK.out.2, .inl rfl⟩
      · go_wp2
        go_ret
        exact ⟨HK.out.2, .inl rfl⟩
  · go_wp2
    go_loopw [5] (fun s wr => s = .int .i64 j ∧ SameW w wr) (fun s _ => 0)
    case atStart => exact ⟨rfl, rfl⟩
    case round =>
      obtain ⟨rfl, HW⟩ := hrel
      have hw : w = wr := HW
      clear HW
      subst hw
      go_wp2
      go_ret
      exact ⟨Below.refl _ _, .inl rfl⟩
end Go.Proofs.Qxb6000022aDoor
