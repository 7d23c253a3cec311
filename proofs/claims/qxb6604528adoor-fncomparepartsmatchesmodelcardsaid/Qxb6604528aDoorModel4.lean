import Derived.Test.Qxb6604528aDoorModel3
set_option linter.unusedSimpArgs false
set_option linter.unusedVariables false
namespace Go.Proofs.Qxb6604528aDoor
open Go.RowKit

def SzL (L : List (ByteArray × Bool)) : Prop := ∀ x ∈ L, x.1.size ≤ maxLen

theorem PartsAt.at2 {w : World} {pa : Option Addr} {c k : Nat} {L : List (ByteArray × Bool)} (h : PartsAt w pa c L) (hz : SzL L) (hk : k < L.length) :
    ∃ b o x y, L[k]? = some (x, y) ∧ pa = some ⟨b, o, none⟩ ∧ w.cell? ⟨b, o + k * 2, none⟩ = some (.string x) ∧ w.cell? ⟨b, o + k * 2 + 1, none⟩ = some (.bool y) ∧ x.size ≤ maxLen := by
  obtain ⟨b, o, x, y, hx, hp, e0, e1⟩ := h.at hk
  exact ⟨b, o, x, y, hx, hp, e0, e1, hz _ (List.mem_of_getElem? hx)⟩
theorem lp_take (L : List (ByteArray × Bool)) (k : Nat) (x : ByteArray) (y : Bool) (h : L[k]? = some (x, y)) : lp (L.take (k + 1)) = lp (L.take k) ++ [(x.data.toList, y)] := by
  unfold lp
  rw [List.take_add_one, h]
  simp
theorem lp_drop (L : List (ByteArray × Bool)) (k : Nat) (x : ByteArray) (y : Bool) (h : L[k]? = some (x, y)) : lp (L.drop k) = (x.data.toList, y) :: lp (L.drop (k + 1)) := by
  obtain ⟨hk, e⟩ := List.getElem?_eq_some_iff.1 h
  unfold lp
  rw [List.drop_eq_getElem_cons hk, e]
  rfl

set_option maxHeartbeats 1000000 in
theorem anyNonzero_any (w : World) (pa : Option Addr) (c : Nat) (L : List (ByteArray × Bool)) (hP : PartsAt w pa c L) (hz : SzL L) :
    Calls Tryd.prog 24 #[.slice pa L.length c] w fun e w' => e = .returned (.bool (Pl.anyNZ (lp L))) ∧ w' = w := by
  have hL : L.length ≤ maxLen := Nat.le_trans hP.1 hP.2.1
  unfold maxLen at hL
  generalize hr : Pl.anyNZ (lp L) = res
  have HR : Hid (Pl.anyNZ (lp L) = res) := hr
  clear hr
  go_enter Tryd.func24, Tryd.ntmps24
  go_wp2
  go_loop [3] (fun i => ∃ k : Nat, k ≤ L.length ∧ i = .int .i64 k ∧ Hid (Pl.anyNZ (lp (L.take k)) = false)) (fun i => L.length - (intOf i).toNat)
  case atStart => exact ⟨0, Nat.zero_le _, rfl, rfl⟩
  case round =>
    obtain ⟨k, hk, rfl, hno⟩ := hrel
    by_cases hlt : k < L.length
    · obtain ⟨b, o, x, y, hx, rfl, e0, e1, hxs⟩ := hP.at2 hz hlt
      unfold maxLen at hxs
      have HX : Hid (L[k]? = some (x, y)) := hx
      clear hx e1 hP hz
      go_wp2
      go_loop [5] (fun i => ∃ j : Nat, j ≤ x.size ∧ i = .int .i64 j ∧ Hid ((x.data.toList.take j).all (· == 48) = true)) (fun i => x.size - (intOf i).toNat)
      case atStart => exact ⟨0, Nat.zero_le _, rfl, rfl⟩
      case round =>
        obtain ⟨j, hj, rfl, hall⟩ := hrel
        by_cases hjt : j < x.size
        · by_cases h48 : x[j] = 48
          · have hb : ((x[j].toNat : Int) != 48) = false := by rw [h48]; rfl
            have H48 : Hid (x[j] = 48) := h48
            clear h48
            go_wp2
            go_round
            case rel => exact ⟨j + 1, by omega, by go_num, by show (x.data.toList.take (j + 1)).all (· == 48) = true; rw [take_snoc x j hjt, List.all_append, hall.out]; simpa using H48.out⟩
            case measure => simp [intOf]; omega
          · have hb : ((x[j].toNat : Int) != 48) = true := by
              rw [bne_iff_ne]; intro h; exact h48 ((byte_eq _ 48 (by decide)).1 (by rw [beq_iff_eq]; exact h))
            have HF : Hid (res = true) := by
              rw [← HR.out]
              refine List.any_eq_true.2 ⟨(x.data.toList, y), ?_, List.any_eq_true.2 ⟨x[j], Array.getElem_mem_toList _, by simpa using h48⟩⟩
              exact List.mem_map.2 ⟨(x, y), List.mem_of_getElem? HX.out, rfl⟩
            clear h48
            go_wp2
            go_ret
            exact ⟨by rw [HF.out]; rfl, rfl⟩
        · have hd := all_upto (· == 48) x j hjt hall.out
          have HF : Hid (Pl.anyNZ (lp (L.take (k + 1))) = false) := by
            show Pl.anyNZ (lp (L.take (k + 1))) = false
            rw [lp_take L k x y HX.out]
            unfold Pl.anyNZ
            rw [List.any_append]
            have h1 : (lp (L.take k)).any (fun x => x.1.any fun c => !(c == 48)) = false := hno.out
            rw [h1]
            simp only [List.any_cons, List.any_nil, Bool.or_false, Bool.false_or]
            rw [← List.not_all_eq_any_not, hd]
            rfl
          clear hd
          go_wp2
          go_round
          case rel => exact ⟨k + 1, by omega, by go_num, HF⟩
          case measure => simp [intOf]; omega
    · have HF : Hid (res = false) := by
        show res = false
        rw [← HR.out, ← hno.out, List.take_of_length_le (by omega)]
      go_wp2
      go_ret
      exact ⟨by rw [HF.out]; rfl, rfl⟩

theorem head_eq (x : ByteArray) (h : 0 < x.size) : x.data.toList.head? = some x[0] := by
  rw [List.head?_eq_getElem?, List.getElem?_eq_getElem (by simpa using h)]
  rfl
theorem fit_no (r : Bool) (L : List (ByteArray × Bool)) (k : Nat) (x : ByteArray) (y : Bool) (h : L[k]? = some (x, y)) (hf : Pl.fitP r (x.data.toList, y) = false) : Pl.fitL r (lp L) = false := by
  unfold Pl.fitL
  have : (lp L).all (Pl.fitP r) = false := by
    rw [Bool.eq_false_iff]
    intro ha
    have := List.all_eq_true.1 ha (x.data.toList, y) (List.mem_map.2 ⟨(x, y), List.mem_of_getElem? h, rfl⟩)
    rw [hf] at this
    cases this
  rw [this]
  rfl

set_option maxHeartbeats 1000000 in
theorem listFits_any (w : World) (pa : Option Addr) (c : Nat) (L : List (ByteArray × Bool)) (r : Bool) (hP : PartsAt w pa c L) (hz : SzL L) :
    Calls Tryd.prog 8 #[.slice pa L.length c, .bool r] w fun e w' => e = .returned (.bool (Pl.fitL r (lp L))) ∧ w' = w := by
  have hL : L.length ≤ maxLen := Nat.le_trans hP.1 hP.2.1
  unfold maxLen at hL
  generalize hr : Pl.fitL r (lp L) = res
  have HR : Hid (Pl.fitL r (lp L) = res) := hr
  clear hr
  go_enter Tryd.func8, Tryd.ntmps8
  go_wp2
  go_loop [5] (fun i => ∃ k : Nat, k ≤ L.length ∧ i = .int .i64 k ∧ Hid ((lp (L.take k)).all (Pl.fitP r) = true)) (fun i => L.length - (intOf i).toNat)
  case atStart => exact ⟨0, Nat.zero_le _, rfl, rfl⟩
  case round =>
    obtain ⟨k, hk, rfl, hyes⟩ := hrel
    by_cases hlt : k < L.length
    · obtain ⟨b, o, x, y, hx, rfl, e0, e1, hxs⟩ := hP.at2 hz hlt
      have no : Pl.fitP r (x.data.toList, y) = false → Hid (res = false) := fun h => by
        show res = false
        rw [← HR.out]; exact fit_no r L k x y hx h
      have yes : Pl.fitP r (x.data.toList, y) = true → Hid ((lp (L.take (k + 1))).all (Pl.fitP r) = true) := fun h => by
        show (lp (L.take (k + 1))).all (Pl.fitP r) = true
        rw [lp_take L k x y hx, List.all_append, hyes.out]
        simpa using h
      have h19 := allDigits_any x w hxs
      clear hx hP hz
      cases y
      · cases r
        · have HY := yes (by simp [Pl.fitP])
          clear yes no h19
          go_wp2
          go_round
          case rel => exact ⟨k + 1, by omega, by go_num, HY⟩
          case measure => simp [intOf]; omega
        · have HF := no (by simp [Pl.fitP])
          clear yes no h19
          go_wp2
          go_ret
          exact ⟨by rw [HF.out]; rfl, rfl⟩
      · cases hd : Pl.allDig x.data.toList
        · rw [hd] at h19
          have HF := no (by simp [Pl.fitP, hd])
          clear yes no hd
          cases r
          all_goals
            go_wp2_with (go_at_call 19; refine h19.mono ?_; rintro e w' ⟨rfl, hw⟩; subst hw)
            go_ret
            exact ⟨by rw [HF.out]; rfl, rfl⟩
        · rw [hd] at h19
          by_cases hpos : 0 < x.size
          · have hp' : (0 : Int) < x.size := by omega
            by_cases h48 : x[0] = 48
            · have hb : ((x[0].toNat : Int) == 48) = true := by rw [h48]; rfl
              have HF := no (by simp [Pl.fitP, hd, head_eq x hpos, h48])
              clear yes no hd h48
              cases r
              all_goals
                go_wp2_with (go_at_call 19; refine h19.mono ?_; rintro e w' ⟨rfl, hw⟩; subst hw)
                go_ret
                exact ⟨by rw [HF.out]; rfl, rfl⟩
            · have hb : ((x[0].toNat : Int) == 48) = false := by
                rw [Bool.eq_false_iff]; exact fun h => h48 ((byte_eq _ 48 (by decide)).1 h)
              have HY := yes (by simp [Pl.fitP, hd, head_eq x hpos, h48])
              clear yes no hd h48
              cases r
              all_goals
                go_wp2_with (go_at_call 19; refine h19.mono ?_; rintro e w' ⟨rfl, hw⟩; subst hw)
                go_round
                case rel => exact ⟨k + 1, by omega, by go_num, HY⟩
                case measure => simp [intOf]; omega
          · have he : x.data.toList = [] := List.eq_nil_of_length_eq_zero (by rw [← Lib.size_eq]; omega)
            have HY := yes (by simp [Pl.fitP, he, Pl.allDig])
            clear yes no hd he
            cases r
            all_goals
              go_wp2_with (go_at_call 19; refine h19.mono ?_; rintro e w' ⟨rfl, hw⟩; subst hw)
              go_round
              case rel => exact ⟨k + 1, by omega, by go_num, HY⟩
              case measure => simp [intOf]; omega
    · have hall : (lp L).all (Pl.fitP r) = true := by
        have := hyes.out
        rw [List.take_of_length_le (by omega)] at this
        exact this
      by_cases hpos : 0 < L.length
      · obtain ⟨b, o, x, y, hx, rfl, e0, e1, hxs⟩ := hP.at2 hz (k := L.length - 1) (by omega)
        have hlast : (lp L).getLast? = some (x.data.toList, y) := by
          rw [List.getLast?_eq_getElem?]
          unfold lp
          rw [List.length_map, List.getElem?_map, hx]
          rfl
        have hres : res = !(r && x.data.toList.isEmpty) := by
          rw [← HR.out]
          unfold Pl.fitL
          rw [hall, hlast]
          simp
        have hp' : (0 : Int) < L.length := by omega
        have hidx : ((L.length - 1 : Nat) : Int) = (L.length : Int) - 1 := by omega
        cases hxe : x.data.toList.isEmpty
        · have hxe' : x.toList.isEmpty = false := by rw [Lib.toList_data]; exact hxe
          have HF : Hid (res = true) := by show res = true; rw [hres, hxe]; cases r <;> rfl
          clear hres hlast hall hxe hx hP hz
          cases r
          · go_wp2
            go_ret
            exact ⟨by rw [HF.out]; rfl, rfl⟩
          · go_wp2
            go_ret
            exact ⟨by rw [HF.out]; rfl, rfl⟩
        · have hxe' : x.toList.isEmpty = true := by rw [Lib.toList_data]; exact hxe
          clear hlast hall hx hP hz
          cases r
          · have HF : Hid (res = true) := by show res = true; rw [hres]; rfl
            clear hres hxe
            go_wp2
            go_ret
            exact ⟨by rw [HF.out]; rfl, rfl⟩
          · have HF : Hid (res = false) := by show res = false; rw [hres, hxe]; rfl
            clear hres hxe
            go_wp2
            go_ret
            exact ⟨by rw [HF.out]; rfl, rfl⟩
      · obtain rfl : L = [] := List.eq_nil_of_length_eq_zero (by omega)
        have HF : Hid (res = true) := by show res = true; rw [← HR.out]; cases r <;> rfl
        cases r
        all_goals
          go_wp2
          go_ret
          exact ⟨by rw [HF.out]; rfl, rfl⟩
end Go.Proofs.Qxb6604528aDoor
