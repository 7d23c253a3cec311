import Derived.Test.Qxb6604528aDoorModel1
set_option linter.unusedSimpArgs false
set_option linter.unusedVariables false
namespace Go.Proofs.Qxb6604528aDoor
open Go.RowKit

theorem drop_at (s : ByteArray) (k : Nat) (h : k < s.size) : s.data.toList.drop k = s[k] :: s.data.toList.drop (k + 1) := by
  rw [List.drop_eq_getElem_cons (by simpa using h)]
  rfl
def cbRest (x y : ByteArray) (k : Nat) : Int := Lib.compareBytes (x.data.toList.drop k) (y.data.toList.drop k)
theorem cb_lt {x y : ByteArray} {k : Nat} (hx : k < x.size) (hy : k < y.size) (h : (x[k].toNat : Int) < y[k].toNat) : cbRest x y k = -1 := by
  unfold cbRest
  rw [drop_at x k hx, drop_at y k hy]
  have : x[k] < y[k] := UInt8.lt_iff_toNat_lt.2 (by omega)
  simp [Lib.compareBytes, this]
theorem cb_gt {x y : ByteArray} {k : Nat} (hx : k < x.size) (hy : k < y.size) (h : (y[k].toNat : Int) < x[k].toNat) : cbRest x y k = 1 := by
  unfold cbRest
  rw [drop_at x k hx, drop_at y k hy]
  have h1 : y[k] < x[k] := UInt8.lt_iff_toNat_lt.2 (by omega)
  have h2 : ¬ x[k] < y[k] := fun h => by have := UInt8.lt_iff_toNat_lt.1 h; omega
  simp [Lib.compareBytes, h1, h2]
theorem cb_eq {x y : ByteArray} {k : Nat} (hx : k < x.size) (hy : k < y.size) (h : (y[k].toNat : Int) = x[k].toNat) : cbRest x y k = cbRest x y (k + 1) := by
  unfold cbRest
  rw [drop_at x k hx, drop_at y k hy]
  have h1 : ¬ y[k] < x[k] := fun h => by have := UInt8.lt_iff_toNat_lt.1 h; omega
  have h2 : ¬ x[k] < y[k] := fun h => by have := UInt8.lt_iff_toNat_lt.1 h; omega
  simp [Lib.compareBytes, h1, h2]
theorem cb_end {x y : ByteArray} {k : Nat} (hk : k = min x.size y.size) : cbRest x y k = if x.size < y.size then -1 else if y.size < x.size then 1 else 0 := by
  unfold cbRest
  have e1 : (x.data.toList.drop k).length = x.size - k := by simp
  have e2 : (y.data.toList.drop k).length = y.size - k := by simp
  generalize x.data.toList.drop k = u at e1
  generalize y.data.toList.drop k = v at e2
  cases u with
  | nil =>
    cases v with
    | nil => simp at e1 e2; rw [if_neg (by omega), if_neg (by omega)]; rfl
    | cons b v => simp at e1 e2; rw [if_pos (by omega)]; rfl
  | cons a u =>
    cases v with
    | nil => simp at e1 e2; rw [if_neg (by omega), if_pos (by omega)]; rfl
    | cons b v => simp at e1 e2; omega

set_option maxHeartbeats 1000000 in
theorem compareBytes_any (x y : ByteArray) (w : World) (hx : x.size ≤ maxLen) (hy : y.size ≤ maxLen) :
    Calls Tryd.prog 34 #[.string x, .string y] w fun e w' => e = .returned (.int .i64 (Lib.compareBytes x.data.toList y.data.toList)) ∧ Below w.heap.size w w' := by
  unfold maxLen at hx hy
  have hr : cbRest x y 0 = Lib.compareBytes x.data.toList y.data.toList := rfl
  generalize Lib.compareBytes x.data.toList y.data.toList = res at hr
  have HR : Hid (cbRest x y 0 = res) := hr
  clear hr
  by_cases hxy : y.size < x.size
  · go_enter Tryd.func34, Tryd.ntmps34
    go_wp2
    go_loopw [6] (fun i wr => ∃ k : Nat, k ≤ y.size ∧ i = .int .i64 k ∧ Below w.heap.size w wr ∧ Hid (cbRest x y k = res)) (fun i _ => y.size - (intOf i).toNat)
    case atStart => exact ⟨0, Nat.zero_le _, rfl, Below.refl _ _, HR⟩
    case round =>
      obtain ⟨k, hk, rfl, hbel, hrest⟩ := hrel
      by_cases hlt : k < y.size
      · have hkx : (k : Int) < x.size := by omega
        have hky : (k : Int) < y.size := by omega
        have hlx : k < x.size := by omega
        have hly : k < y.size := by omega
        rcases Int.lt_trichotomy (x[k].toNat : Int) (y[k].toNat : Int) with hc | hc | hc
        · have HF : Hid (res = -1) := by rw [← hrest.out]; exact cb_lt hlx hly hc
          go_wp2
          go_quiet (fail)
          go_wp2
          go_ret
          exact ⟨by rw [HF.out]; rfl, (by first | exact below_drewN hbel _ | exact hbel)⟩
        · have HF : Hid (cbRest x y (k + 1) = res) := by rw [← cb_eq hlx hly hc.symm]; exact hrest
          have h1 : ¬ (x[k].toNat : Int) < (y[k].toNat : Int) := by omega
          have h2 : ¬ (y[k].toNat : Int) < (x[k].toNat : Int) := by omega
          clear hc
          go_wp2
          go_quiet (fail)
          go_wp2
          go_quiet (fail)
          go_wp2
          go_roundw
          case rel => exact ⟨k + 1, by omega, by go_num, (by first | exact below_drewN (below_drewN hbel _) _ | exact below_drewN hbel _), HF⟩
          case measure => simp [intOf]; omega
        · have HF : Hid (res = 1) := by rw [← hrest.out]; exact cb_gt hlx hly hc
          have h1 : ¬ (x[k].toNat : Int) < (y[k].toNat : Int) := by omega
          go_wp2
          go_quiet (fail)
          go_wp2
          go_quiet (fail)
          go_wp2
          go_ret
          exact ⟨by rw [HF.out]; rfl, (by first | exact below_drewN (below_drewN hbel _) _ | exact below_drewN hbel _)⟩
      · have hf := cb_end (x := x) (y := y) (k := k) (by omega)
        rw [hrest.out] at hf
        have HF : Hid (res = if x.size < y.size then -1 else if y.size < x.size then 1 else 0) := hf
        clear hf
        by_cases h1 : x.size < y.size
        · first | (exfalso; omega) | (have h1' : (x.size : Int) < y.size := (by omega); go_wp2; go_ret; exact ⟨by rw [HF.out, if_pos h1]; rfl, hbel⟩)
        · by_cases h2 : y.size < x.size
          · first | (exfalso; omega) | (go_wp2; go_ret; exact ⟨by rw [HF.out, if_neg h1, if_pos h2]; rfl, hbel⟩)
          · first | (exfalso; omega) | (go_wp2; go_ret; exact ⟨by rw [HF.out, if_neg h1, if_neg h2]; rfl, hbel⟩)
  · go_enter Tryd.func34, Tryd.ntmps34
    go_wp2
    go_loopw [6] (fun i wr => ∃ k : Nat, k ≤ x.size ∧ i = .int .i64 k ∧ Below w.heap.size w wr ∧ Hid (cbRest x y k = res)) (fun i _ => x.size - (intOf i).toNat)
    case atStart => exact ⟨0, Nat.zero_le _, rfl, Below.refl _ _, HR⟩
    case round =>
      obtain ⟨k, hk, rfl, hbel, hrest⟩ := hrel
      by_cases hlt : k < x.size
      · have hkx : (k : Int) < x.size := by omega
        have hky : (k : Int) < y.size := by omega
        have hlx : k < x.size := by omega
        have hly : k < y.size := by omega
        rcases Int.lt_trichotomy (x[k].toNat : Int) (y[k].toNat : Int) with hc | hc | hc
        · have HF : Hid (res = -1) := by rw [← hrest.out]; exact cb_lt hlx hly hc
          go_wp2
          go_quiet (fail)
          go_wp2
          go_ret
          exact ⟨by rw [HF.out]; rfl, (by first | exact below_drewN hbel _ | exact hbel)⟩
        · have HF : Hid (cbRest x y (k + 1) = res) := by rw [← cb_eq hlx hly hc.symm]; exact hrest
          have h1 : ¬ (x[k].toNat : Int) < (y[k].toNat : Int) := by omega
          have h2 : ¬ (y[k].toNat : Int) < (x[k].toNat : Int) := by omega
          clear hc
          go_wp2
          go_quiet (fail)
          go_wp2
          go_quiet (fail)
          go_wp2
          go_roundw
          case rel => exact ⟨k + 1, by omega, by go_num, (by first | exact below_drewN (below_drewN hbel _) _ | exact below_drewN hbel _), HF⟩
          case measure => simp [intOf]; omega
        · have HF : Hid (res = 1) := by rw [← hrest.out]; exact cb_gt hlx hly hc
          have h1 : ¬ (x[k].toNat : Int) < (y[k].toNat : Int) := by omega
          go_wp2
          go_quiet (fail)
          go_wp2
          go_quiet (fail)
          go_wp2
          go_ret
          exact ⟨by rw [HF.out]; rfl, (by first | exact below_drewN (below_drewN hbel _) _ | exact below_drewN hbel _)⟩
      · have hf := cb_end (x := x) (y := y) (k := k) (by omega)
        rw [hrest.out] at hf
        have HF : Hid (res = if x.size < y.size then -1 else if y.size < x.size then 1 else 0) := hf
        clear hf
        by_cases h1 : x.size < y.size
        · first | (exfalso; omega) | (have h1' : (x.size : Int) < y.size := (by omega); go_wp2; go_ret; exact ⟨by rw [HF.out, if_pos h1]; rfl, hbel⟩)
        · by_cases h2 : y.size < x.size
          · first | (exfalso; omega) | (go_wp2; go_ret; exact ⟨by rw [HF.out, if_neg h1, if_pos h2]; rfl, hbel⟩)
          · first | (exfalso; omega) | (go_wp2; go_ret; exact ⟨by rw [HF.out, if_neg h1, if_neg h2]; rfl, hbel⟩)
end Go.Proofs.Qxb6604528aDoor
