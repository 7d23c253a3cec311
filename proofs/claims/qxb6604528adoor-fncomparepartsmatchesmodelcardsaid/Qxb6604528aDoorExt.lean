import Derived.Test.Qxb6604528aDoorSizes
set_option linter.unusedSimpArgs false
set_option linter.unusedVariables false
namespace Go.Proofs.Qxb6604528aDoor
open Go.RowKit

theorem ext_res (r : Bool) (L : List (ByteArray × Bool)) (t x : ByteArray) (d : UInt8) (hx : Pl.pieces x.data.toList = Pl.pieces t.data.toList ++ [[d]]) :
    resS r L t L x = (if Pl.moreS r [Pl.norm r [d]] 0 then -1 else 0) ∧ resS r L x L t = (if Pl.moreS r [Pl.norm r [d]] 0 then 1 else 0) := by
  have e : Pl.seqS r (lp L) x.data.toList = Pl.seqS r (lp L) t.data.toList ++ [Pl.norm r [d]] := by
    unfold Pl.seqS
    rw [hx, List.map_append, List.append_assoc]
    rfl
  have hl : L.length ≤ (Pl.seqS r (lp L) t.data.toList).length := by
    unfold Pl.seqS
    simp [lp]
  unfold resS
  rw [e]
  exact ⟨Pl.cmpS_ext r _ _ _ hl, Pl.cmpS_ext' r _ _ _ hl⟩
theorem ext_one (r : Bool) (L : List (ByteArray × Bool)) (t x : ByteArray) (hx : Pl.pieces x.data.toList = Pl.pieces t.data.toList ++ [[49]]) : resS r L t L x = -1 ∧ resS r L x L t = 1 := by
  have := ext_res r L t x 49 hx
  have e : Pl.moreS r [Pl.norm r [49]] 0 = true := by cases r <;> decide
  rw [e] at this
  exact this
theorem ext_zero (r : Bool) (L : List (ByteArray × Bool)) (t x : ByteArray) (hx : Pl.pieces x.data.toList = Pl.pieces t.data.toList ++ [[48]]) : resS r L t L x = (if r then 0 else -1) ∧ resS r L x L t = (if r then 0 else 1) := by
  have := ext_res r L t x 48 hx
  cases r
  · exact this
  · exact this

theorem app_data (a b : ByteArray) : (a ++ b).data.toList = a.data.toList ++ b.data.toList := by
  simp
theorem szB (t : ByteArray) (a : UInt8) (x : ByteArray) (h : t.size ≤ 1048576) (hx : x.size ≤ 1 := by decide) : (t ++ x ++ ⟨#[a]⟩).size ≤ maxLen := by
  rw [Lib.size_eq, app_data, app_data, List.length_append, List.length_append, ← Lib.size_eq, ← Lib.size_eq]
  show t.size + x.size + 1 ≤ maxLen
  unfold maxLen
  omega
theorem last_eq (t : ByteArray) (hpos : 0 < t.size) : t.data.toList.getLast? = some t[t.size - 1] := by
  rw [List.getLast?_eq_getElem?]
  have h : t.data.toList.length - 1 = t.size - 1 := by rw [Lib.size_eq]
  rw [h, List.getElem?_eq_getElem (by simp; have : t.data.size = t.size := rfl; omega)]
  rfl
theorem piecesB (t : ByteArray) (d : UInt8) (hd : d ≠ 46) (hpos : 0 < t.size) (h : t[t.size - 1] = 46) : Pl.pieces (t ++ ⟨#[]⟩ ++ ⟨#[d]⟩ : ByteArray).data.toList = Pl.pieces t.data.toList ++ [[d]] := by
  rw [app_data, app_data]
  have := Pl.pieces_end d hd t.data.toList (.inr (by rw [last_eq t hpos, h]))
  simpa using this
theorem piecesC (t : ByteArray) (d : UInt8) (hd : d ≠ 46) (hpos : 0 < t.size) (h : ¬ t[t.size - 1] = 46) : Pl.pieces (t ++ ⟨#[46]⟩ ++ ⟨#[d]⟩ : ByteArray).data.toList = Pl.pieces t.data.toList ++ [[d]] := by
  rw [app_data, app_data]
  have := Pl.pieces_dot d hd t.data.toList (by intro e; rw [Lib.size_eq, e] at hpos; cases hpos) (by rw [last_eq t hpos]; intro e; exact h (Option.some.inj e))
  simpa using this

def LawPost (w : World) (e : Ending) (w' : World) : Prop := e = .returned (.bool true) ∧ Below w.heap.size w w'

set_option maxHeartbeats 400000 in
theorem ext_walk (w : World) (pa : Option Addr) (c : Nat) (L : List (ByteArray × Bool)) (t : ByteArray) (r : Bool) (hP : PartsAt w pa c L) (hpa : pa = none → L = [] ∧ c = 0) (hL : L.length ≤ maxLen) (ht : t.size ≤ maxLen) :
    Calls Tryd.prog 4 #[.slice pa L.length c, .string t, .bool r] w (LawPost w) := by
  have h14 := bytes14_any w pa c L t r hP hL
  unfold maxLen at hL ht
  have HP : Hid (PartsAt w pa c L) := hP
  have HPA : Hid (pa = none → L = [] ∧ c = 0) := hpa
  clear hP hpa
  go_enter Tryd.func4, Tryd.ntmps4
  go_wp2_with fail
  refine h14.mono ?_
  rintro e w' ⟨v, rfl, hw⟩
  subst hw
  clear h14
  cases v
  · go_wp2_with fail
    go_ret
    exact ⟨rfl, Below.refl _ _⟩
  by_cases hn : L.length ≤ 65536
  · by_cases htn : t.size ≤ 1048576
    · have h7 := partsBytes_any w' pa c L HP.out hn
      go_wp2_with fail
      refine h7.mono ?_
      rintro e w2 ⟨v, rfl, hw⟩
      subst hw
      clear h7
      by_cases hv : wrap64 (v + t.size) ≤ 1048576
      · by_cases hte : t.toList = []
        · have hd : t.data.toList = [] := by rw [← Lib.toList_data]; exact hte
          obtain rfl : t = ⟨#[]⟩ := by
            obtain ⟨⟨l⟩⟩ := t
            simp at hd
            subst hd
            rfl
          have H1 : Hid (Pl.pieces (⟨#[]⟩ ++ ⟨#[]⟩ ++ ⟨#[49]⟩ : ByteArray).data.toList = Pl.pieces (⟨#[]⟩ : ByteArray).data.toList ++ [[49]]) := rfl
          have H0 : Hid (Pl.pieces (⟨#[]⟩ ++ ⟨#[]⟩ ++ ⟨#[48]⟩ : ByteArray).data.toList = Pl.pieces (⟨#[]⟩ : ByteArray).data.toList ++ [[48]]) := rfl
          have hv2 : wrap64 v ≤ 1048576 := by
            have h := hv
            rw [show (((⟨#[]⟩ : ByteArray).size : Nat) : Int) = 0 from rfl, Int.add_zero] at h
            exact h
          go_wp2_with fail
          refine (toParts_any w2 pa c L _ HP.out HPA.out (by omega)).mono ?_
          rintro e w3 ⟨pb1, cb1, rfl, hp1, hb1⟩
          have HP1 : Hid (PartsAt w3 pb1 cb1 L) := hp1
          have HB1 : Hid (Below w2.heap.size w2 w3) := hb1
          clear hp1 hb1
          go_wp2_with fail
          refine (toParts_any _ pa c L _ ?hP HPA.out (by omega)).mono ?_
          case hP => exact HP.out.below (HB1.out.alloc HB1.out.size _)
          rintro e w4 ⟨pb2, cb2, rfl, hp2, hb2⟩
          have hb2' : Below (w3.heap.size + 1) (w3.alloc (.cells #[.slice pb1 L.length cb1, .string ⟨#[]⟩] 30)) w4 := hb2.mono (by simp)
          obtain ⟨a0, a1, _⟩ := box_later hb2'
          have HP1' : Hid (PartsAt w4 pb1 cb1 L) := HP1.out.below (((Below.refl _ _).alloc (Nat.le_refl _) _).trans (hb2'.mono (Nat.le_succ _)))
          have HP2 : Hid (PartsAt w4 pb2 cb2 L) := hp2
          have HB2 : Hid (Below w2.heap.size w2 w4) := (HB1.out.alloc HB1.out.size _).trans (hb2'.mono (Nat.le_succ_of_le HB1.out.size))
          have hz3 : w3.heap.size < w4.heap.size := World.block_lt_of_cell? _ _ a0
          clear hp2 hb2 hb2' HP1
          go_wp2_with fail
          refine (toParts_any _ pa c L _ ?hP HPA.out (by omega)).mono ?_
          case hP => exact HP.out.below (HB2.out.alloc HB2.out.size _)
          rintro e w5 ⟨pb3, cb3, rfl, hp3, hb3⟩
          have hb3' : Below (w4.heap.size + 1) (w4.alloc (.cells #[.slice pb2 L.length cb2, .string (⟨#[]⟩ ++ ⟨#[]⟩ ++ ⟨#[49]⟩)] 30)) w5 := hb3.mono (by simp)
          obtain ⟨b0, b1, _⟩ := box_later hb3'
          have hb45 : Below w4.heap.size w4 w5 := ((Below.refl _ _).alloc (Nat.le_refl _) _).trans (hb3'.mono (Nat.le_succ _))
          have a0' := (hb45.cell (p := ⟨w3.heap.size, 0, none⟩) hz3).trans a0
          have a1' := (hb45.cell (p := ⟨w3.heap.size, 1, none⟩) hz3).trans a1
          have HPa : Hid (PartsAt w5 pb1 cb1 L) := HP1'.out.below hb45
          have HPb : Hid (PartsAt w5 pb2 cb2 L) := HP2.out.below hb45
          have HPc : Hid (PartsAt w5 pb3 cb3 L) := hp3
          have HB3 : Hid (Below w2.heap.size w2 w5) := HB2.out.trans (hb45.mono HB2.out.size)
          have hz4 : w4.heap.size < w5.heap.size := World.block_lt_of_cell? _ _ b0
          have hz3' : w3.heap.size < w5.heap.size := by omega
          clear hp3 hb3 hb3' a0 a1 hb45 HP1' HP2
          go_wp2_with fail
          refine (zzCompareParts_any _ pb1 pb2 cb1 cb2 L L ⟨#[]⟩ _ r ?hPa ?hPb (by unfold maxLen; omega) ?ht).mono ?_
          case hPa => exact HPa.out.below ((Below.refl _ _).alloc (Nat.le_refl _) _)
          case hPb => exact HPb.out.below ((Below.refl _ _).alloc (Nat.le_refl _) _)
          case ht => decide
          rw [(ext_one r L ⟨#[]⟩ (⟨#[]⟩ ++ ⟨#[]⟩ ++ ⟨#[49]⟩) H1.out).1]
          rintro e w6 ⟨rfl, hb6⟩
          have hb6' : Below (w5.heap.size + 1) (w5.alloc (.cells #[.slice pb3 L.length cb3, .string (⟨#[]⟩ ++ ⟨#[]⟩ ++ ⟨#[48]⟩)] 30)) w6 := hb6.mono (by simp)
          obtain ⟨c0, c1, _⟩ := box_later hb6'
          have hb56 : Below w5.heap.size w5 w6 := ((Below.refl _ _).alloc (Nat.le_refl _) _).trans (hb6'.mono (Nat.le_succ _))
          have a06 := (hb56.cell (p := ⟨w3.heap.size, 0, none⟩) hz3').trans a0'
          have a16 := (hb56.cell (p := ⟨w3.heap.size, 1, none⟩) hz3').trans a1'
          have b06 := (hb56.cell (p := ⟨w4.heap.size, 0, none⟩) hz4).trans b0
          have b16 := (hb56.cell (p := ⟨w4.heap.size, 1, none⟩) hz4).trans b1
          have HPa6 : Hid (PartsAt w6 pb1 cb1 L) := HPa.out.below hb56
          have HPb6 : Hid (PartsAt w6 pb2 cb2 L) := HPb.out.below hb56
          have HPc6 : Hid (PartsAt w6 pb3 cb3 L) := HPc.out.below hb56
          have HB6 : Hid (Below w2.heap.size w2 w6) := HB3.out.trans (hb56.mono HB3.out.size)
          have hz5 : w5.heap.size < w6.heap.size := World.block_lt_of_cell? _ _ c0
          have z36 : w3.heap.size < w6.heap.size := by omega
          have z46 : w4.heap.size < w6.heap.size := by omega
          clear hb6 hb6' hb56 a0' a1' b0 b1 HPa HPb HPc
          go_wp2_with fail
          refine (zzCompareParts_any w6 pb2 pb1 cb2 cb1 L L _ ⟨#[]⟩ r HPb6.out HPa6.out ?ht (by unfold maxLen; omega)).mono ?_
          case ht => decide
          rw [(ext_one r L ⟨#[]⟩ (⟨#[]⟩ ++ ⟨#[]⟩ ++ ⟨#[49]⟩) H1.out).2]
          rintro e w7 ⟨rfl, hb7⟩
          have a07 := (hb7.cell (p := ⟨w3.heap.size, 0, none⟩) z36).trans a06
          have a17 := (hb7.cell (p := ⟨w3.heap.size, 1, none⟩) z36).trans a16
          have c07 := (hb7.cell (p := ⟨w5.heap.size, 0, none⟩) hz5).trans c0
          have c17 := (hb7.cell (p := ⟨w5.heap.size, 1, none⟩) hz5).trans c1
          have HPa7 : Hid (PartsAt w7 pb1 cb1 L) := HPa6.out.below hb7
          have HPc7 : Hid (PartsAt w7 pb3 cb3 L) := HPc6.out.below hb7
          have HB7 : Hid (Below w2.heap.size w2 w7) := HB6.out.trans (hb7.mono HB6.out.size)
          have z37 : w3.heap.size < w7.heap.size := Nat.lt_of_lt_of_le z36 hb7.size
          have z57 : w5.heap.size < w7.heap.size := Nat.lt_of_lt_of_le hz5 hb7.size
          clear hb7 a06 a16 b06 b16 c0 c1 HPa6 HPb6 HPc6
          obtain ⟨hr1, hr2⟩ := ext_zero r L ⟨#[]⟩ (⟨#[]⟩ ++ ⟨#[]⟩ ++ ⟨#[48]⟩) H0.out
          cases r
          all_goals
            simp only [if_true, if_false, Bool.false_eq_true, reduceIte] at hr1 hr2
            go_wp2_with fail
            refine (zzCompareParts_any w7 pb3 pb1 cb3 cb1 L L _ ⟨#[]⟩ _ HPc7.out HPa7.out ?ht (by unfold maxLen; omega)).mono ?_
            case ht => decide
            rw [hr2]
            rintro e w8 ⟨rfl, hb8⟩
            have a08 := (hb8.cell (p := ⟨w3.heap.size, 0, none⟩) z37).trans a07
            have a18 := (hb8.cell (p := ⟨w3.heap.size, 1, none⟩) z37).trans a17
            have c08 := (hb8.cell (p := ⟨w5.heap.size, 0, none⟩) z57).trans c07
            have c18 := (hb8.cell (p := ⟨w5.heap.size, 1, none⟩) z57).trans c17
            have HPa8 : Hid (PartsAt w8 pb1 cb1 L) := HPa7.out.below hb8
            have HPc8 : Hid (PartsAt w8 pb3 cb3 L) := HPc7.out.below hb8
            have HB8 : Hid (Below w2.heap.size w2 w8) := HB7.out.trans (hb8.mono HB7.out.size)
            have HR1 := hr1
            clear hb8 a07 a17 c07 c17 hr2 hr1
            go_wp2_with fail
            refine (zzCompareParts_any w8 pb1 pb3 cb1 cb3 L L ⟨#[]⟩ _ _ HPa8.out HPc8.out (by unfold maxLen; omega) ?ht).mono ?_
            case ht => decide
            rw [HR1]
            rintro e w9 ⟨rfl, hb9⟩
            have HB9 : Hid (Below w2.heap.size w2 w9) := HB8.out.trans (hb9.mono HB8.out.size)
            clear hb9
            go_wp2_with fail
            go_ret
            exact ⟨rfl, HB9.out⟩
        · have hd : t.data.toList ≠ [] := by rw [← Lib.toList_data]; exact hte
          have hpos : 0 < t.size := by rw [Lib.size_eq]; exact List.length_pos_iff.2 hd
          by_cases hlast : t[t.size - 1] = 46
          · have hb : ((t[t.size - 1].toNat : Int) == 46) = true := by rw [hlast]; rfl
            have H1 : Hid (Pl.pieces (t ++ ⟨#[]⟩ ++ ⟨#[49]⟩ : ByteArray).data.toList = Pl.pieces t.data.toList ++ [[49]]) := piecesB t 49 (by decide) hpos hlast
            have H0 : Hid (Pl.pieces (t ++ ⟨#[]⟩ ++ ⟨#[48]⟩ : ByteArray).data.toList = Pl.pieces t.data.toList ++ [[48]]) := piecesB t 48 (by decide) hpos hlast
            have hte2 : t.toList.isEmpty = false := by cases h : t.toList with | nil => exact absurd h hte | cons => rfl
            clear hlast hd hte
            go_wp2_with fail
            refine (toParts_any w2 pa c L _ HP.out HPA.out (by omega)).mono ?_
            rintro e w3 ⟨pb1, cb1, rfl, hp1, hb1⟩
            have HP1 : Hid (PartsAt w3 pb1 cb1 L) := hp1
            have HB1 : Hid (Below w2.heap.size w2 w3) := hb1
            clear hp1 hb1
            go_wp2_with fail
            refine (toParts_any _ pa c L _ ?hP HPA.out (by omega)).mono ?_
            case hP => exact HP.out.below (HB1.out.alloc HB1.out.size _)
            rintro e w4 ⟨pb2, cb2, rfl, hp2, hb2⟩
            have hb2' : Below (w3.heap.size + 1) (w3.alloc (.cells #[.slice pb1 L.length cb1, .string t] 30)) w4 := hb2.mono (by simp)
            obtain ⟨a0, a1, _⟩ := box_later hb2'
            have HP1' : Hid (PartsAt w4 pb1 cb1 L) := HP1.out.below (((Below.refl _ _).alloc (Nat.le_refl _) _).trans (hb2'.mono (Nat.le_succ _)))
            have HP2 : Hid (PartsAt w4 pb2 cb2 L) := hp2
            have HB2 : Hid (Below w2.heap.size w2 w4) := (HB1.out.alloc HB1.out.size _).trans (hb2'.mono (Nat.le_succ_of_le HB1.out.size))
            have hz3 : w3.heap.size < w4.heap.size := World.block_lt_of_cell? _ _ a0
            clear hp2 hb2 hb2' HP1
            go_wp2_with fail
            refine (toParts_any _ pa c L _ ?hP HPA.out (by omega)).mono ?_
            case hP => exact HP.out.below (HB2.out.alloc HB2.out.size _)
            rintro e w5 ⟨pb3, cb3, rfl, hp3, hb3⟩
            have hb3' : Below (w4.heap.size + 1) (w4.alloc (.cells #[.slice pb2 L.length cb2, .string (t ++ ⟨#[]⟩ ++ ⟨#[49]⟩)] 30)) w5 := hb3.mono (by simp)
            obtain ⟨b0, b1, _⟩ := box_later hb3'
            have hb45 : Below w4.heap.size w4 w5 := ((Below.refl _ _).alloc (Nat.le_refl _) _).trans (hb3'.mono (Nat.le_succ _))
            have a0' := (hb45.cell (p := ⟨w3.heap.size, 0, none⟩) hz3).trans a0
            have a1' := (hb45.cell (p := ⟨w3.heap.size, 1, none⟩) hz3).trans a1
            have HPa : Hid (PartsAt w5 pb1 cb1 L) := HP1'.out.below hb45
            have HPb : Hid (PartsAt w5 pb2 cb2 L) := HP2.out.below hb45
            have HPc : Hid (PartsAt w5 pb3 cb3 L) := hp3
            have HB3 : Hid (Below w2.heap.size w2 w5) := HB2.out.trans (hb45.mono HB2.out.size)
            have hz4 : w4.heap.size < w5.heap.size := World.block_lt_of_cell? _ _ b0
            have hz3' : w3.heap.size < w5.heap.size := by omega
            clear hp3 hb3 hb3' a0 a1 hb45 HP1' HP2
            go_wp2_with fail
            refine (zzCompareParts_any _ pb1 pb2 cb1 cb2 L L t _ r ?hPa ?hPb (by unfold maxLen; omega) ?ht).mono ?_
            case hPa => exact HPa.out.below ((Below.refl _ _).alloc (Nat.le_refl _) _)
            case hPb => exact HPb.out.below ((Below.refl _ _).alloc (Nat.le_refl _) _)
            case ht => exact szB t _ _ htn
            rw [(ext_one r L t (t ++ ⟨#[]⟩ ++ ⟨#[49]⟩) H1.out).1]
            rintro e w6 ⟨rfl, hb6⟩
            have hb6' : Below (w5.heap.size + 1) (w5.alloc (.cells #[.slice pb3 L.length cb3, .string (t ++ ⟨#[]⟩ ++ ⟨#[48]⟩)] 30)) w6 := hb6.mono (by simp)
            obtain ⟨c0, c1, _⟩ := box_later hb6'
            have hb56 : Below w5.heap.size w5 w6 := ((Below.refl _ _).alloc (Nat.le_refl _) _).trans (hb6'.mono (Nat.le_succ _))
            have a06 := (hb56.cell (p := ⟨w3.heap.size, 0, none⟩) hz3').trans a0'
            have a16 := (hb56.cell (p := ⟨w3.heap.size, 1, none⟩) hz3').trans a1'
            have b06 := (hb56.cell (p := ⟨w4.heap.size, 0, none⟩) hz4).trans b0
            have b16 := (hb56.cell (p := ⟨w4.heap.size, 1, none⟩) hz4).trans b1
            have HPa6 : Hid (PartsAt w6 pb1 cb1 L) := HPa.out.below hb56
            have HPb6 : Hid (PartsAt w6 pb2 cb2 L) := HPb.out.below hb56
            have HPc6 : Hid (PartsAt w6 pb3 cb3 L) := HPc.out.below hb56
            have HB6 : Hid (Below w2.heap.size w2 w6) := HB3.out.trans (hb56.mono HB3.out.size)
            have hz5 : w5.heap.size < w6.heap.size := World.block_lt_of_cell? _ _ c0
            have z36 : w3.heap.size < w6.heap.size := by omega
            have z46 : w4.heap.size < w6.heap.size := by omega
            clear hb6 hb6' hb56 a0' a1' b0 b1 HPa HPb HPc
            go_wp2_with fail
            refine (zzCompareParts_any w6 pb2 pb1 cb2 cb1 L L _ t r HPb6.out HPa6.out ?ht (by unfold maxLen; omega)).mono ?_
            case ht => exact szB t _ _ htn
            rw [(ext_one r L t (t ++ ⟨#[]⟩ ++ ⟨#[49]⟩) H1.out).2]
            rintro e w7 ⟨rfl, hb7⟩
            have a07 := (hb7.cell (p := ⟨w3.heap.size, 0, none⟩) z36).trans a06
            have a17 := (hb7.cell (p := ⟨w3.heap.size, 1, none⟩) z36).trans a16
            have c07 := (hb7.cell (p := ⟨w5.heap.size, 0, none⟩) hz5).trans c0
            have c17 := (hb7.cell (p := ⟨w5.heap.size, 1, none⟩) hz5).trans c1
            have HPa7 : Hid (PartsAt w7 pb1 cb1 L) := HPa6.out.below hb7
            have HPc7 : Hid (PartsAt w7 pb3 cb3 L) := HPc6.out.below hb7
            have HB7 : Hid (Below w2.heap.size w2 w7) := HB6.out.trans (hb7.mono HB6.out.size)
            have z37 : w3.heap.size < w7.heap.size := Nat.lt_of_lt_of_le z36 hb7.size
            have z57 : w5.heap.size < w7.heap.size := Nat.lt_of_lt_of_le hz5 hb7.size
            clear hb7 a06 a16 b06 b16 c0 c1 HPa6 HPb6 HPc6
            obtain ⟨hr1, hr2⟩ := ext_zero r L t (t ++ ⟨#[]⟩ ++ ⟨#[48]⟩) H0.out
            cases r
            all_goals
              simp only [if_true, if_false, Bool.false_eq_true, reduceIte] at hr1 hr2
              go_wp2_with fail
              refine (zzCompareParts_any w7 pb3 pb1 cb3 cb1 L L _ t _ HPc7.out HPa7.out ?ht (by unfold maxLen; omega)).mono ?_
              case ht => exact szB t _ _ htn
              rw [hr2]
              rintro e w8 ⟨rfl, hb8⟩
              have a08 := (hb8.cell (p := ⟨w3.heap.size, 0, none⟩) z37).trans a07
              have a18 := (hb8.cell (p := ⟨w3.heap.size, 1, none⟩) z37).trans a17
              have c08 := (hb8.cell (p := ⟨w5.heap.size, 0, none⟩) z57).trans c07
              have c18 := (hb8.cell (p := ⟨w5.heap.size, 1, none⟩) z57).trans c17
              have HPa8 : Hid (PartsAt w8 pb1 cb1 L) := HPa7.out.below hb8
              have HPc8 : Hid (PartsAt w8 pb3 cb3 L) := HPc7.out.below hb8
              have HB8 : Hid (Below w2.heap.size w2 w8) := HB7.out.trans (hb8.mono HB7.out.size)
              have HR1 := hr1
              clear hb8 a07 a17 c07 c17 hr2 hr1
              go_wp2_with fail
              refine (zzCompareParts_any w8 pb1 pb3 cb1 cb3 L L t _ _ HPa8.out HPc8.out (by unfold maxLen; omega) ?ht).mono ?_
              case ht => exact szB t _ _ htn
              rw [HR1]
              rintro e w9 ⟨rfl, hb9⟩
              have HB9 : Hid (Below w2.heap.size w2 w9) := HB8.out.trans (hb9.mono HB8.out.size)
              clear hb9
              go_wp2_with fail
              go_ret
              exact ⟨rfl, HB9.out⟩
          · have hb : ((t[t.size - 1].toNat : Int) == 46) = false := by
              rw [Bool.eq_false_iff]; exact fun h => hlast ((byte_eq _ 46 (by decide)).1 h)
            have H1 : Hid (Pl.pieces (t ++ ⟨#[46]⟩ ++ ⟨#[49]⟩ : ByteArray).data.toList = Pl.pieces t.data.toList ++ [[49]]) := piecesC t 49 (by decide) hpos hlast
            have H0 : Hid (Pl.pieces (t ++ ⟨#[46]⟩ ++ ⟨#[48]⟩ : ByteArray).data.toList = Pl.pieces t.data.toList ++ [[48]]) := piecesC t 48 (by decide) hpos hlast
            have hte2 : t.toList.isEmpty = false := by cases h : t.toList with | nil => exact absurd h hte | cons => rfl
            clear hlast hd hte
            go_wp2_with fail
            refine (toParts_any w2 pa c L _ HP.out HPA.out (by omega)).mono ?_
            rintro e w3 ⟨pb1, cb1, rfl, hp1, hb1⟩
            have HP1 : Hid (PartsAt w3 pb1 cb1 L) := hp1
            have HB1 : Hid (Below w2.heap.size w2 w3) := hb1
            clear hp1 hb1
            go_wp2_with fail
            refine (toParts_any _ pa c L _ ?hP HPA.out (by omega)).mono ?_
            case hP => exact HP.out.below (HB1.out.alloc HB1.out.size _)
            rintro e w4 ⟨pb2, cb2, rfl, hp2, hb2⟩
            have hb2' : Below (w3.heap.size + 1) (w3.alloc (.cells #[.slice pb1 L.length cb1, .string t] 30)) w4 := hb2.mono (by simp)
            obtain ⟨a0, a1, _⟩ := box_later hb2'
            have HP1' : Hid (PartsAt w4 pb1 cb1 L) := HP1.out.below (((Below.refl _ _).alloc (Nat.le_refl _) _).trans (hb2'.mono (Nat.le_succ _)))
            have HP2 : Hid (PartsAt w4 pb2 cb2 L) := hp2
            have HB2 : Hid (Below w2.heap.size w2 w4) := (HB1.out.alloc HB1.out.size _).trans (hb2'.mono (Nat.le_succ_of_le HB1.out.size))
            have hz3 : w3.heap.size < w4.heap.size := World.block_lt_of_cell? _ _ a0
            clear hp2 hb2 hb2' HP1
            go_wp2_with fail
            refine (toParts_any _ pa c L _ ?hP HPA.out (by omega)).mono ?_
            case hP => exact HP.out.below (HB2.out.alloc HB2.out.size _)
            rintro e w5 ⟨pb3, cb3, rfl, hp3, hb3⟩
            have hb3' : Below (w4.heap.size + 1) (w4.alloc (.cells #[.slice pb2 L.length cb2, .string (t ++ ⟨#[46]⟩ ++ ⟨#[49]⟩)] 30)) w5 := hb3.mono (by simp)
            obtain ⟨b0, b1, _⟩ := box_later hb3'
            have hb45 : Below w4.heap.size w4 w5 := ((Below.refl _ _).alloc (Nat.le_refl _) _).trans (hb3'.mono (Nat.le_succ _))
            have a0' := (hb45.cell (p := ⟨w3.heap.size, 0, none⟩) hz3).trans a0
            have a1' := (hb45.cell (p := ⟨w3.heap.size, 1, none⟩) hz3).trans a1
            have HPa : Hid (PartsAt w5 pb1 cb1 L) := HP1'.out.below hb45
            have HPb : Hid (PartsAt w5 pb2 cb2 L) := HP2.out.below hb45
            have HPc : Hid (PartsAt w5 pb3 cb3 L) := hp3
            have HB3 : Hid (Below w2.heap.size w2 w5) := HB2.out.trans (hb45.mono HB2.out.size)
            have hz4 : w4.heap.size < w5.heap.size := World.block_lt_of_cell? _ _ b0
            have hz3' : w3.heap.size < w5.heap.size := by omega
            clear hp3 hb3 hb3' a0 a1 hb45 HP1' HP2
            go_wp2_with fail
            refine (zzCompareParts_any _ pb1 pb2 cb1 cb2 L L t _ r ?hPa ?hPb (by unfold maxLen; omega) ?ht).mono ?_
            case hPa => exact HPa.out.below ((Below.refl _ _).alloc (Nat.le_refl _) _)
            case hPb => exact HPb.out.below ((Below.refl _ _).alloc (Nat.le_refl _) _)
            case ht => exact szB t _ _ htn
            rw [(ext_one r L t (t ++ ⟨#[46]⟩ ++ ⟨#[49]⟩) H1.out).1]
            rintro e w6 ⟨rfl, hb6⟩
            have hb6' : Below (w5.heap.size + 1) (w5.alloc (.cells #[.slice pb3 L.length cb3, .string (t ++ ⟨#[46]⟩ ++ ⟨#[48]⟩)] 30)) w6 := hb6.mono (by simp)
            obtain ⟨c0, c1, _⟩ := box_later hb6'
            have hb56 : Below w5.heap.size w5 w6 := ((Below.refl _ _).alloc (Nat.le_refl _) _).trans (hb6'.mono (Nat.le_succ _))
            have a06 := (hb56.cell (p := ⟨w3.heap.size, 0, none⟩) hz3').trans a0'
            have a16 := (hb56.cell (p := ⟨w3.heap.size, 1, none⟩) hz3').trans a1'
            have b06 := (hb56.cell (p := ⟨w4.heap.size, 0, none⟩) hz4).trans b0
            have b16 := (hb56.cell (p := ⟨w4.heap.size, 1, none⟩) hz4).trans b1
            have HPa6 : Hid (PartsAt w6 pb1 cb1 L) := HPa.out.below hb56
            have HPb6 : Hid (PartsAt w6 pb2 cb2 L) := HPb.out.below hb56
            have HPc6 : Hid (PartsAt w6 pb3 cb3 L) := HPc.out.below hb56
            have HB6 : Hid (Below w2.heap.size w2 w6) := HB3.out.trans (hb56.mono HB3.out.size)
            have hz5 : w5.heap.size < w6.heap.size := World.block_lt_of_cell? _ _ c0
            have z36 : w3.heap.size < w6.heap.size := by omega
            have z46 : w4.heap.size < w6.heap.size := by omega
            clear hb6 hb6' hb56 a0' a1' b0 b1 HPa HPb HPc
            go_wp2_with fail
            refine (zzCompareParts_any w6 pb2 pb1 cb2 cb1 L L _ t r HPb6.out HPa6.out ?ht (by unfold maxLen; omega)).mono ?_
            case ht => exact szB t _ _ htn
            rw [(ext_one r L t (t ++ ⟨#[46]⟩ ++ ⟨#[49]⟩) H1.out).2]
            rintro e w7 ⟨rfl, hb7⟩
            have a07 := (hb7.cell (p := ⟨w3.heap.size, 0, none⟩) z36).trans a06
            have a17 := (hb7.cell (p := ⟨w3.heap.size, 1, none⟩) z36).trans a16
            have c07 := (hb7.cell (p := ⟨w5.heap.size, 0, none⟩) hz5).trans c0
            have c17 := (hb7.cell (p := ⟨w5.heap.size, 1, none⟩) hz5).trans c1
            have HPa7 : Hid (PartsAt w7 pb1 cb1 L) := HPa6.out.below hb7
            have HPc7 : Hid (PartsAt w7 pb3 cb3 L) := HPc6.out.below hb7
            have HB7 : Hid (Below w2.heap.size w2 w7) := HB6.out.trans (hb7.mono HB6.out.size)
            have z37 : w3.heap.size < w7.heap.size := Nat.lt_of_lt_of_le z36 hb7.size
            have z57 : w5.heap.size < w7.heap.size := Nat.lt_of_lt_of_le hz5 hb7.size
            clear hb7 a06 a16 b06 b16 c0 c1 HPa6 HPb6 HPc6
            obtain ⟨hr1, hr2⟩ := ext_zero r L t (t ++ ⟨#[46]⟩ ++ ⟨#[48]⟩) H0.out
            cases r
            all_goals
              simp only [if_true, if_false, Bool.false_eq_true, reduceIte] at hr1 hr2
              go_wp2_with fail
              refine (zzCompareParts_any w7 pb3 pb1 cb3 cb1 L L _ t _ HPc7.out HPa7.out ?ht (by unfold maxLen; omega)).mono ?_
              case ht => exact szB t _ _ htn
              rw [hr2]
              rintro e w8 ⟨rfl, hb8⟩
              have a08 := (hb8.cell (p := ⟨w3.heap.size, 0, none⟩) z37).trans a07
              have a18 := (hb8.cell (p := ⟨w3.heap.size, 1, none⟩) z37).trans a17
              have c08 := (hb8.cell (p := ⟨w5.heap.size, 0, none⟩) z57).trans c07
              have c18 := (hb8.cell (p := ⟨w5.heap.size, 1, none⟩) z57).trans c17
              have HPa8 : Hid (PartsAt w8 pb1 cb1 L) := HPa7.out.below hb8
              have HPc8 : Hid (PartsAt w8 pb3 cb3 L) := HPc7.out.below hb8
              have HB8 : Hid (Below w2.heap.size w2 w8) := HB7.out.trans (hb8.mono HB7.out.size)
              have HR1 := hr1
              clear hb8 a07 a17 c07 c17 hr2 hr1
              go_wp2_with fail
              refine (zzCompareParts_any w8 pb1 pb3 cb1 cb3 L L t _ _ HPa8.out HPc8.out (by unfold maxLen; omega) ?ht).mono ?_
              case ht => exact szB t _ _ htn
              rw [HR1]
              rintro e w9 ⟨rfl, hb9⟩
              have HB9 : Hid (Below w2.heap.size w2 w9) := HB8.out.trans (hb9.mono HB8.out.size)
              clear hb9
              go_wp2_with fail
              go_ret
              exact ⟨rfl, HB9.out⟩
      · go_wp2_with fail
        go_ret
        exact ⟨rfl, Below.refl _ _⟩
    · go_wp2_with fail
      go_ret
      exact ⟨rfl, Below.refl _ _⟩
  · go_wp2_with fail
    go_ret
    exact ⟨rfl, Below.refl _ _⟩
end Go.Proofs.Qxb6604528aDoor
