import Derived.Test.Qxb6604528aDoorModel2
set_option linter.unusedSimpArgs false
set_option linter.unusedVariables false
namespace Go.Proofs.Qxb6604528aDoor
open Go.RowKit

def cdRest (n : Nat) (x y : ByteArray) (k : Nat) : Int := Lib.compareBytes ((Pl.padL n x.data.toList).drop k) ((Pl.padL n y.data.toList).drop k)

theorem pad_len (n : Nat) (x : ByteArray) (h : x.size ≤ n) : (Pl.padL n x.data.toList).length = n := by
  unfold Pl.padL
  rw [List.length_append, List.length_replicate, ← Lib.size_eq]
  omega
theorem pad_lo {n k : Nat} {x : ByteArray} (h : k < n - x.size) : (Pl.padL n x.data.toList).drop k = 48 :: (Pl.padL n x.data.toList).drop (k + 1) := by
  unfold Pl.padL
  have hl : k < (List.replicate (n - x.data.toList.length) (48 : UInt8) ++ x.data.toList).length := by
    rw [List.length_append, List.length_replicate, ← Lib.size_eq]
    omega
  rw [List.drop_eq_getElem_cons hl]
  congr 1
  rw [List.getElem_append_left (by rw [List.length_replicate, ← Lib.size_eq]; exact h), List.getElem_replicate]
theorem pad_hi {n k : Nat} {x : ByteArray} (h : n - x.size ≤ k) (hlt : k - (n - x.size) < x.size) : (Pl.padL n x.data.toList).drop k = x[k - (n - x.size)] :: (Pl.padL n x.data.toList).drop (k + 1) := by
  unfold Pl.padL
  have hl : k < (List.replicate (n - x.data.toList.length) (48 : UInt8) ++ x.data.toList).length := by
    rw [List.length_append, List.length_replicate, ← Lib.size_eq]
    omega
  rw [List.drop_eq_getElem_cons hl]
  congr 1
  rw [List.getElem_append_right (by rw [List.length_replicate, ← Lib.size_eq]; exact h)]
  have e : k - (List.replicate (n - x.data.toList.length) (48 : UInt8)).length = k - (n - x.size) := by rw [List.length_replicate, ← Lib.size_eq]
  simp only [e]
  rfl
theorem pad_full {k : Nat} {x : ByteArray} (h : k < x.size) : (Pl.padL x.size x.data.toList).drop k = x[k] :: (Pl.padL x.size x.data.toList).drop (k + 1) := by
  have e : Pl.padL x.size x.data.toList = x.data.toList := by
    unfold Pl.padL
    rw [← Lib.size_eq, Nat.sub_self]
    rfl
  rw [e]
  exact drop_at x k h
theorem cd_lt {u v : List UInt8} {a b : UInt8} (h : a.toNat < b.toNat) : Lib.compareBytes (a :: u) (b :: v) = -1 := by
  have : a < b := UInt8.lt_iff_toNat_lt.2 h
  simp [Lib.compareBytes, this]
theorem cd_gt {u v : List UInt8} {a b : UInt8} (h : b.toNat < a.toNat) : Lib.compareBytes (a :: u) (b :: v) = 1 := by
  have h1 : b < a := UInt8.lt_iff_toNat_lt.2 h
  have h2 : ¬ a < b := fun h => by have := UInt8.lt_iff_toNat_lt.1 h; omega
  simp [Lib.compareBytes, h1, h2]
theorem cd_eq {u v : List UInt8} {a b : UInt8} (h1 : ¬ b.toNat < a.toNat) (h2 : ¬ a.toNat < b.toNat) : Lib.compareBytes (a :: u) (b :: v) = Lib.compareBytes u v := by
  have g1 : ¬ b < a := fun h => h1 (UInt8.lt_iff_toNat_lt.1 h)
  have g2 : ¬ a < b := fun h => h2 (UInt8.lt_iff_toNat_lt.1 h)
  simp [Lib.compareBytes, g1, g2]
theorem cd_end {n k : Nat} {x y : ByteArray} (hx : x.size ≤ n) (hy : y.size ≤ n) (h : n ≤ k) : cdRest n x y k = 0 := by
  unfold cdRest
  rw [List.drop_eq_nil_of_le (by rw [pad_len n x hx]; exact h), List.drop_eq_nil_of_le (by rw [pad_len n y hy]; exact h)]
  rfl

set_option maxHeartbeats 1000000 in
theorem compareDigits_any (x y : ByteArray) (w : World) (hx : x.size ≤ maxLen) (hy : y.size ≤ maxLen) :
    Calls Tryd.prog 33 #[.string x, .string y] w fun e w' => e = .returned (.int .i64 (Pl.cmpDig x.data.toList y.data.toList)) ∧ w' = w := by
  unfold maxLen at hx hy
  have hr : cdRest (max x.size y.size) x y 0 = Pl.cmpDig x.data.toList y.data.toList := by
    unfold cdRest Pl.cmpDig
    rw [Lib.size_eq, Lib.size_eq]
    rfl
  generalize Pl.cmpDig x.data.toList y.data.toList = res at hr
  by_cases hxy : x.size < y.size
  · have hmax : max x.size y.size = y.size := by omega
    rw [hmax] at hr
    have HR : Hid (cdRest y.size x y 0 = res) := hr
    clear hr hmax
    go_enter Tryd.func33, Tryd.ntmps33
    go_wp2
    go_loop [8] (fun i => ∃ k : Nat, k ≤ y.size ∧ i = .int .i64 k ∧ Hid (cdRest y.size x y k = res)) (fun i => y.size - (intOf i).toNat)
    case atStart => exact ⟨0, Nat.zero_le _, rfl, HR⟩
    case round =>
      obtain ⟨k, hk, rfl, hrest⟩ := hrel
      by_cases hlt : k < y.size
      · by_cases hpx : k < y.size - x.size
        · have h1 : (k : Int) < y.size - x.size := by omega
          have hs : res = Lib.compareBytes (48 :: (Pl.padL y.size x.data.toList).drop (k + 1)) (y[k] :: (Pl.padL y.size y.data.toList).drop (k + 1)) := by
            rw [← hrest.out]; unfold cdRest; rw [pad_lo hpx, pad_full hlt]
          have HS : Hid (res = Lib.compareBytes (48 :: (Pl.padL y.size x.data.toList).drop (k + 1)) (y[k] :: (Pl.padL y.size y.data.toList).drop (k + 1))) := hs
          clear hs
          have n48 : (48 : UInt8).toNat = 48 := rfl
          go_wp2
          all_goals first
            | (go_ret; exact ⟨by rw [HS.out, cd_lt (by rw [n48]; omega)]; rfl, rfl⟩)
            | (go_ret; exact ⟨by rw [HS.out, cd_gt (by rw [n48]; omega)]; rfl, rfl⟩)
            | (go_round
               case rel => exact ⟨k + 1, by omega, by go_num, by rw [HS.out]; exact (cd_eq (by rw [n48]; omega) (by rw [n48]; omega)).symm⟩
               case measure => simp [intOf]; omega)
        · have h1 : (y.size : Int) - x.size ≤ k := by omega
          have hkx : k - (y.size - x.size) < x.size := by omega
          have hs : res = Lib.compareBytes (x[k - (y.size - x.size)] :: (Pl.padL y.size x.data.toList).drop (k + 1)) (y[k] :: (Pl.padL y.size y.data.toList).drop (k + 1)) := by
            rw [← hrest.out]; unfold cdRest; rw [pad_hi (by omega) hkx, pad_full hlt]
          have HS : Hid (res = Lib.compareBytes (x[k - (y.size - x.size)] :: (Pl.padL y.size x.data.toList).drop (k + 1)) (y[k] :: (Pl.padL y.size y.data.toList).drop (k + 1))) := hs
          clear hs
          go_wp2
          all_goals first
            | (go_ret; exact ⟨by rw [HS.out, cd_lt (by omega)]; rfl, rfl⟩)
            | (go_ret; exact ⟨by rw [HS.out, cd_gt (by omega)]; rfl, rfl⟩)
            | (go_round
               case rel => exact ⟨k + 1, by omega, by go_num, by rw [HS.out]; exact (cd_eq (by omega) (by omega)).symm⟩
               case measure => simp [intOf]; omega)
      · have HF : Hid (res = 0) := by rw [← hrest.out]; exact cd_end (by omega) (by omega) (by omega)
        go_wp2
        go_ret
        exact ⟨by rw [HF.out]; rfl, rfl⟩
  · have hmax : max x.size y.size = x.size := by omega
    rw [hmax] at hr
    have HR : Hid (cdRest x.size x y 0 = res) := hr
    clear hr hmax
    go_enter Tryd.func33, Tryd.ntmps33
    go_wp2
    go_loop [8] (fun i => ∃ k : Nat, k ≤ x.size ∧ i = .int .i64 k ∧ Hid (cdRest x.size x y k = res)) (fun i => x.size - (intOf i).toNat)
    case atStart => exact ⟨0, Nat.zero_le _, rfl, HR⟩
    case round =>
      obtain ⟨k, hk, rfl, hrest⟩ := hrel
      by_cases hlt : k < x.size
      · by_cases hpx : k < x.size - y.size
        · have h1 : (k : Int) < x.size - y.size := by omega
          have hs : res = Lib.compareBytes (x[k] :: (Pl.padL x.size x.data.toList).drop (k + 1)) (48 :: (Pl.padL x.size y.data.toList).drop (k + 1)) := by
            rw [← hrest.out]; unfold cdRest; rw [pad_lo hpx, pad_full hlt]
          have HS : Hid (res = Lib.compareBytes (x[k] :: (Pl.padL x.size x.data.toList).drop (k + 1)) (48 :: (Pl.padL x.size y.data.toList).drop (k + 1))) := hs
          clear hs
          have n48 : (48 : UInt8).toNat = 48 := rfl
          go_wp2
          all_goals first
            | (go_ret; exact ⟨by rw [HS.out, cd_lt (by rw [n48]; omega)]; rfl, rfl⟩)
            | (go_ret; exact ⟨by rw [HS.out, cd_gt (by rw [n48]; omega)]; rfl, rfl⟩)
            | (go_round
               case rel => exact ⟨k + 1, by omega, by go_num, by rw [HS.out]; exact (cd_eq (by rw [n48]; omega) (by rw [n48]; omega)).symm⟩
               case measure => simp [intOf]; omega)
        · have h1 : (x.size : Int) - y.size ≤ k := by omega
          have hky : k - (x.size - y.size) < y.size := by omega
          have hs : res = Lib.compareBytes (x[k] :: (Pl.padL x.size x.data.toList).drop (k + 1)) (y[k - (x.size - y.size)] :: (Pl.padL x.size y.data.toList).drop (k + 1)) := by
            rw [← hrest.out]; unfold cdRest; rw [pad_hi (by omega) hky, pad_full hlt]
          have HS : Hid (res = Lib.compareBytes (x[k] :: (Pl.padL x.size x.data.toList).drop (k + 1)) (y[k - (x.size - y.size)] :: (Pl.padL x.size y.data.toList).drop (k + 1))) := hs
          clear hs
          go_wp2
          all_goals first
            | (go_ret; exact ⟨by rw [HS.out, cd_lt (by omega)]; rfl, rfl⟩)
            | (go_ret; exact ⟨by rw [HS.out, cd_gt (by omega)]; rfl, rfl⟩)
            | (go_round
               case rel => exact ⟨k + 1, by omega, by go_num, by rw [HS.out]; exact (cd_eq (by omega) (by omega)).symm⟩
               case measure => simp [intOf]; omega)
      · have HF : Hid (res = 0) := by rw [← hrest.out]; exact cd_end (by omega) (by omega) (by omega)
        go_wp2
        go_ret
        exact ⟨by rw [HF.out]; rfl, rfl⟩

set_option maxHeartbeats 400000 in
theorem modelPart_any (a b : ByteArray) (x y : Bool) (w : World) (ha : a.size ≤ maxLen) (hb : b.size ≤ maxLen) :
    Calls Tryd.prog 23 #[.agg #[.string a, .bool x], .agg #[.string b, .bool y]] w fun e w' => e = .returned (.int .i64 (Pl.mpart (a.data.toList, x) (b.data.toList, y))) ∧ Below w.heap.size w w' := by
  have h33 := compareDigits_any a b
  have h34 := compareBytes_any a b
  have e1 : Pl.mpart (a.data.toList, true) (b.data.toList, true) = Pl.cmpDig a.data.toList b.data.toList := rfl
  have e2 : Pl.mpart (a.data.toList, false) (b.data.toList, false) = Lib.compareBytes a.data.toList b.data.toList := rfl
  cases x <;> cases y
  · rw [e2]
    clear e1 e2 h33
    generalize Lib.compareBytes a.data.toList b.data.toList = res at h34 ⊢
    go_enter Tryd.func23, Tryd.ntmps23
    go_wp2_with fail
    refine (h34 _ ha hb).mono ?_
    rintro e w' ⟨rfl, hbel⟩
    clear h34
    go_wp2_with fail
    go_ret
    exact ⟨rfl, (two_new _ _ _).trans (hbel.mono (by simp; omega))⟩
  · clear e1 e2 h33 h34
    go_enter Tryd.func23, Tryd.ntmps23
    go_wp2
    go_ret
    exact ⟨rfl, two_new _ _ _⟩
  · clear e1 e2 h33 h34
    go_enter Tryd.func23, Tryd.ntmps23
    go_wp2
    go_ret
    exact ⟨rfl, two_new _ _ _⟩
  · rw [e1]
    clear e1 e2 h34
    generalize Pl.cmpDig a.data.toList b.data.toList = res at h33 ⊢
    go_enter Tryd.func23, Tryd.ntmps23
    go_wp2_with fail
    refine (h33 _ ha hb).mono ?_
    rintro e w' ⟨rfl, rfl⟩
    clear h33
    go_wp2_with fail
    go_ret
    exact ⟨rfl, two_new _ _ _⟩
end Go.Proofs.Qxb6604528aDoor
