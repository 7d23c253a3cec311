import Derived.Test.Qxb6000022aDoorBox
set_option linter.unusedSimpArgs false
set_option linter.unusedVariables false
namespace Go.Proofs.Qxb6000022aDoor
open Go.RowKit

theorem WordAt.runs {l s : List UInt8} {i : Nat} (h : WordAt l i s) (hs : s.all wordB = true) : Runs wordB l i (i + s.length) := by
  refine ⟨Nat.le_add_right _ _, h.1, fun j x h1 h2 hx => ?_⟩
  obtain ⟨k, rfl⟩ : ∃ k, j = i + k := ⟨j - i, by omega⟩
  have hk : k < s.length := by omega
  rw [h.2 k hk, List.getElem?_eq_getElem hk] at hx
  rw [← Option.some.inj hx]
  exact List.all_eq_true.1 hs _ (List.getElem_mem hk)
theorem VG.ofWord {l : List UInt8} {i : Nat} (s : ByteArray) (n : Nat) (hn : s.data.toList.length = n) (h0 : 0 < n) (hs : s.data.toList.all wordB = true) (h : WordAt l i s.data.toList) : VG l i (i + n) := by
  have := h.runs hs
  rw [hn] at this
  exact VG.word (by omega) this

set_option maxHeartbeats 4000000 in
set_option maxRecDepth 100000 in
theorem parseValue_step (pa : Option Addr) (c i : Nat) (l : List UInt8) (hl : l.length ≤ 1048576) (hi : i < l.length)
    (IH : ∀ j, i < j → j ≤ l.length → ∀ w, BytesAt w pa c l → Calls Tryd.prog 6 #[.slice pa l.length c, .int .i64 j] w (VPost l j w)) (w : World) (hA : BytesAt w pa c l) :
    Calls Tryd.prog 6 #[.slice pa l.length c, .int .i64 i] w (VPost l i w) := by
  obtain ⟨b, o, rfl, e1⟩ := hA.at hi
  have G1 : Hid (l[i]? = some l[i]) := List.getElem?_eq_getElem hi
  generalize l[i] = x at *
  have hi' : (i : Int) < l.length := by omega
  have HA : Hid (BytesAt w (some ⟨b, o, none⟩) c l) := hA
  have VV : Hid (∀ j, i < j → j ≤ l.length → ∀ w, BytesAt w (some ⟨b, o, none⟩) c l → Calls Tryd.prog 6 #[.slice (some ⟨b, o, none⟩) l.length c, .int .i64 j] w (VPost l j w)) := IH
  clear IH hA
  by_cases x34 : x = 34
  · have q1 : ((x.toNat : Int) == 34) = true := byte_is x 34 (by decide) x34
    have G34 : Hid (l[i]? = some 34) := by show l[i]? = some 34; rw [G1.out, x34]
    clear x34 G1
    go_enter Tryd.func6, Tryd.ntmps6
    go_wp2_with fail
    refine (parseString_any w (some ⟨b, o, none⟩) c i l HA.out hl hi).mono ?_
    rintro e w' ⟨HW, rfl | ⟨k, rfl, hk, hkl, hse⟩⟩
    · have hw : w = w' := HW
      clear HW
      subst hw
      go_wp2
      go_ret
      exact ⟨Below.refl _ _, .inl rfl⟩
    · have hw : w = w' := HW
      clear HW
      subst hw
      have HV : Hid (VG l i k) := by
        have := VG.str G34.out hse
        rw [show i + 1 + (k - (i + 1)) = k by omega] at this
        exact this
      clear hse
      go_wp2
      go_ret
      exact ⟨Below.refl _ _, .inr ⟨k, rfl, HV.out⟩⟩
  have q1 : ((x.toNat : Int) == 34) = false := byte_ne x 34 (by decide) x34
  clear x34
  by_cases x123 : x = 123
  · have q2 : ((x.toNat : Int) == 123) = true := byte_is x 123 (by decide) x123
    have HX : Hid (x = 123) := x123
    clear x123
    go_enter Tryd.func6, Tryd.ntmps6
    go_wp2_with fail
    refine (parseObject_of (some ⟨b, o, none⟩) c i l hl hi VV.out w HA.out).mono ?_
    rintro e w' ⟨hb, rfl | ⟨k, rfl, hkl, hg⟩⟩
    · have HB : Hid (Below w.heap.size w w') := hb
      clear hb
      go_wp2
      go_ret
      exact ⟨HB.out, .inl rfl⟩
    · have HV : Hid (VG l i k ∧ Below w.heap.size w w') := ⟨VG.box G1.out (.inl HX.out) hkl hg, hb⟩
      clear hg hb
      go_wp2
      go_ret
      exact ⟨HV.out.2, .inr ⟨k, rfl, HV.out.1⟩⟩
  have q2 : ((x.toNat : Int) == 123) = false := byte_ne x 123 (by decide) x123
  clear x123
  by_cases x91 : x = 91
  · have q3 : ((x.toNat : Int) == 91) = true := byte_is x 91 (by decide) x91
    have HX : Hid (x = 91) := x91
    clear x91
    go_enter Tryd.func6, Tryd.ntmps6
    go_wp2_with fail
    refine (parseArray_of (some ⟨b, o, none⟩) c i l hl hi VV.out w HA.out).mono ?_
    rintro e w' ⟨hb, rfl | ⟨k, rfl, hkl, hg⟩⟩
    · have HB : Hid (Below w.heap.size w w') := hb
      clear hb
      go_wp2
      go_ret
      exact ⟨HB.out, .inl rfl⟩
    · have HV : Hid (VG l i k ∧ Below w.heap.size w w') := ⟨VG.box G1.out (.inr HX.out) hkl hg, hb⟩
      clear hg hb
      go_wp2
      go_ret
      exact ⟨HV.out.2, .inr ⟨k, rfl, HV.out.1⟩⟩
  have q3 : ((x.toNat : Int) == 91) = false := byte_ne x 91 (by decide) x91
  clear x91 G1 VV
  have hnum := parseNumber_any w (some ⟨b, o, none⟩) c i l HA.out hl hi
  by_cases x45 : x = 45
  · have q4 : ((x.toNat : Int) == 45) = true := byte_is x 45 (by decide) x45
    clear x45
    go_enter Tryd.func6, Tryd.ntmps6
    go_wp2_with fail
    refine hnum.mono ?_
    rintro e w' ⟨HW, rfl | ⟨k, rfl, hk, hr⟩⟩
    · have hw : w = w' := HW
      clear HW
      subst hw
      go_wp2
      go_ret
      exact ⟨Below.refl _ _, .inl rfl⟩
    · have hw : w = w' := HW
      clear HW
      subst hw
      have HV : Hid (VG l i k) := VG.word hk hr
      clear hr
      go_wp2
      go_ret
      exact ⟨Below.refl _ _, .inr ⟨k, rfl, HV.out⟩⟩
  have q4 : ((x.toNat : Int) == 45) = false := byte_ne x 45 (by decide) x45
  clear x45
  have hdc := isDigit_any x w
  cases hd : isDig x
  · rw [hd] at hdc
    clear hnum hd
    have HDC : Hid (Calls Tryd.prog 17 #[.int .u8 (x.toNat : Int)] w fun e w' => e = .returned (.bool false) ∧ w' = w) := hdc
    clear hdc
    go_enter Tryd.func6, Tryd.ntmps6
    go_wp2_with fail
    refine HDC.out.mono ?_
    rintro e w' ⟨rfl, hw⟩
    subst hw
    clear HDC
    go_wp2_with fail
    refine (word_any w' (some ⟨b, o, none⟩) c i l _ HA.out (by omega) (by decide)).mono ?_
    rintro e w1 ⟨v, rfl, hwd, hb1⟩
    have HB1 : Hid (Below w'.heap.size w' w1) := hb1
    clear hb1
    cases v
    · clear hwd
      go_wp2_with fail
      refine (word_any w1 (some ⟨b, o, none⟩) c i l _ (HA.out.below HB1.out) (by omega) (by decide)).mono ?_
      rintro e w2 ⟨v, rfl, hwd, hb2⟩
      have HB2 : Hid (Below w'.heap.size w' w2) := HB1.out.trans (hb2.mono HB1.out.size)
      clear hb2 HB1
      cases v
      · clear hwd
        go_wp2_with fail
        refine (word_any w2 (some ⟨b, o, none⟩) c i l _ (HA.out.below HB2.out) (by omega) (by decide)).mono ?_
        rintro e w3 ⟨v, rfl, hwd, hb3⟩
        have HB3 : Hid (Below w'.heap.size w' w3) := HB2.out.trans (hb3.mono HB2.out.size)
        clear hb3 HB2
        cases v
        · clear hwd
          go_wp2
          go_ret
          exact ⟨HB3.out, .inl rfl⟩
        · have HV : Hid (VG l i (i + 5)) := VG.ofWord _ 5 rfl (by decide) (by decide) (hwd rfl)
          clear hwd
          go_wp2
          go_ret
          exact ⟨HB3.out, .inr ⟨i + 5, by go_num, HV.out⟩⟩
      · have HV : Hid (VG l i (i + 4)) := VG.ofWord _ 4 rfl (by decide) (by decide) (hwd rfl)
        clear hwd
        go_wp2
        go_ret
        exact ⟨HB2.out, .inr ⟨i + 4, by go_num, HV.out⟩⟩
    · have HV : Hid (VG l i (i + 4)) := VG.ofWord _ 4 rfl (by decide) (by decide) (hwd rfl)
      clear hwd
      go_wp2
      go_ret
      exact ⟨HB1.out, .inr ⟨i + 4, by go_num, HV.out⟩⟩
  · rw [hd] at hdc
    clear hd
    have HDC : Hid (Calls Tryd.prog 17 #[.int .u8 (x.toNat : Int)] w fun e w' => e = .returned (.bool true) ∧ w' = w) := hdc
    have HNUM : Hid (Calls Tryd.prog 18 #[.slice (some ⟨b, o, none⟩) l.length c, .int .i64 i] w (NumPost l i w)) := hnum
    clear hdc hnum
    go_enter Tryd.func6, Tryd.ntmps6
    go_wp2_with fail
    refine HDC.out.mono ?_
    rintro e w' ⟨rfl, hw⟩
    subst hw
    clear HDC
    go_wp2_with fail
    refine HNUM.out.mono ?_
    rintro e w1 ⟨HW, rfl | ⟨k, rfl, hk, hr⟩⟩
    · have hw : w' = w1 := HW
      clear HW
      subst hw
      go_wp2
      go_ret
      exact ⟨Below.refl _ _, .inl rfl⟩
    · have hw : w' = w1 := HW
      clear HW
      subst hw
      have HV : Hid (VG l i k) := VG.word hk hr
      clear hr
      go_wp2
      go_ret
      exact ⟨Below.refl _ _, .inr ⟨k, rfl, HV.out⟩⟩

theorem parseValue_end (pa : Option Addr) (c : Nat) (l : List UInt8) (hl : l.length ≤ 1048576) (w : World) :
    Calls Tryd.prog 6 #[.slice pa l.length c, .int .i64 l.length] w (VPost l l.length w) := by
  go_enter Tryd.func6, Tryd.ntmps6
  go_wp2
  go_ret
  exact ⟨Below.refl _ _, .inl rfl⟩

theorem parseValue_any (pa : Option Addr) (c : Nat) (l : List UInt8) (hl : l.length ≤ 1048576) : ∀ (n i : Nat), l.length - i ≤ n → i ≤ l.length → ∀ w, BytesAt w pa c l →
    Calls Tryd.prog 6 #[.slice pa l.length c, .int .i64 i] w (VPost l i w) := by
  intro n
  induction n with
  | zero =>
    intro i hn hi w hA
    obtain rfl : i = l.length := by omega
    exact parseValue_end pa c l hl w
  | succ n ih =>
    intro i hn hi w hA
    by_cases he : i = l.length
    · subst he
      exact parseValue_end pa c l hl w
    · exact parseValue_step pa c i l hl (by omega) (fun j hj hjl w hA => ih j (by omega) hjl w hA) w hA
end Go.Proofs.Qxb6000022aDoor
