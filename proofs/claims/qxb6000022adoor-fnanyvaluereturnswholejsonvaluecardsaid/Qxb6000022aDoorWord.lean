import Derived.Test.Qxb6000022aDoorLeaf
set_option linter.unusedSimpArgs false
set_option linter.unusedVariables false
namespace Go.Proofs.Qxb6000022aDoor
open Go.RowKit

/-- The word s stands in l at i. -/
def WordAt (l : List UInt8) (i : Nat) (s : List UInt8) : Prop := i + s.length ≤ l.length ∧ ∀ k, k < s.length → l[i + k]? = s[k]?

theorem WordAt.take {l s : List UInt8} {i : Nat} (h : WordAt l i s) : (l.drop i).take s.length = s := by
  apply List.ext_getElem?
  intro k
  rcases Nat.lt_or_ge k s.length with hk | hk
  · rw [List.getElem?_take, if_pos hk, List.getElem?_drop]; exact h.2 k hk
  · rw [List.getElem?_eq_none (by rw [List.length_take]; omega), List.getElem?_eq_none hk]

def WordPost (l : List UInt8) (i : Nat) (s : ByteArray) (w : World) (e : Ending) (w' : World) : Prop :=
  ∃ v : Bool, e = .returned (.bool v) ∧ (v = true → WordAt l i s.data.toList) ∧ Below w.heap.size w w'

set_option maxHeartbeats 400000 in
theorem word_any (w : World) (pa : Option Addr) (c i : Nat) (l : List UInt8) (s : ByteArray) (hA : BytesAt w pa c l) (hi : i ≤ l.length) (hs : s.size ≤ 10) :
    Calls Tryd.prog 19 #[.slice pa l.length c, .int .i64 i, .string s] w (WordPost l i s w) := by
  have hl : l.length ≤ maxLen := Nat.le_trans hA.1 hA.2.1
  unfold maxLen at hl
  have hi' : (i : Int) ≤ l.length := by omega
  by_cases hlen : (l.length : Int) - i < s.size
  · go_enter Tryd.func19, Tryd.ntmps19
    go_wp2
    go_ret
    exact ⟨false, rfl, fun h => (by cases h), Below.refl _ _⟩
  · go_enter Tryd.func19, Tryd.ntmps19
    go_wp2
    go_loopw [7] (fun i' wr => ∃ k : Nat, k ≤ s.size ∧ i' = .int .i64 k ∧ Below w.heap.size w wr ∧ Hid (∀ j, j < k → l[i + j]? = s.data.toList[j]?)) (fun i' _ => s.size - (intOf i').toNat)
    case atStart => exact ⟨0, Nat.zero_le _, rfl, Below.refl _ _, fun j hj => absurd hj (Nat.not_lt_zero _)⟩
    case round =>
      obtain ⟨k, hk, rfl, hbel, HJ⟩ := hrel
      by_cases hlt : k < s.size
      · have hik : i + k < l.length := by omega
        obtain ⟨b1, o1, rfl, e1⟩ := (hA.below hbel).at hik
        have e1' : wr.cell? ⟨b1, o1 + ((i : Int) + k).toNat, none⟩ = some (.int .u8 (l[i + k].toNat : Int)) := by rw [← e1]; congr 2
        by_cases hc : l[i + k] = s[k]
        · have hb : ((l[i + k].toNat : Int) == (s[k].toNat : Int)) = true := by rw [hc]; simp
          have HC : Hid (l[i + k] = s[k]) := hc
          clear hc
          go_wp2
          go_quiet (fail)
          go_wp2
          go_roundw
          case rel =>
            refine ⟨k + 1, by omega, by go_num, below_drewN hbel _, fun j hj => ?_⟩
            rcases Nat.lt_or_ge j k with h | h
            · exact HJ.out j h
            · have : j = k := by omega
              subst this
              rw [List.getElem?_eq_getElem hik, HC.out, List.getElem?_eq_getElem (by simpa using hlt)]
              rfl
          case measure => simp [intOf]; omega
        · have hb : ((l[i + k].toNat : Int) == (s[k].toNat : Int)) = false := by
            rw [Bool.eq_false_iff]; intro h; rw [beq_iff_eq] at h
            exact hc (UInt8.toNat_inj.1 (by omega))
          clear hc
          go_wp2
          go_quiet (fail)
          go_wp2
          go_ret
          exact ⟨false, rfl, fun h => (by cases h), below_drewN hbel _⟩
      · go_wp2
        go_ret
        refine ⟨true, rfl, fun _ => ⟨?_, fun j hj => HJ.out j ?_⟩, hbel⟩
        · simp; omega
        · simp at hj; omega

/-! The plain values -/
def wTrue : List UInt8 := [116, 114, 117, 101]
def wFalse : List UInt8 := [102, 97, 108, 115, 101]
def wNull : List UInt8 := [110, 117, 108, 108]
def PV (l : List UInt8) : Prop :=
  (∃ u, l = 34 :: (u ++ [34]) ∧ u.all isPlain = true) ∨ l = [48] ∨ (∃ c t, l = c :: t ∧ (49 ≤ c.toNat ∧ c.toNat ≤ 57) ∧ t.all isDig = true) ∨ l = wTrue ∨ l = wFalse ∨ l = wNull

theorem WordAt.whole {l s : List UInt8} (h : WordAt l 0 s) (hl : l.length = s.length) : l = s := by
  have := h.take
  rw [List.drop_zero, List.take_of_length_le (by omega)] at this
  exact this

theorem pv_quoted {l : List UInt8} {n : Nat} (hn : 2 ≤ l.length) (h0 : l[0]? = some 34) (h1 : l[l.length - 1]? = some 34) (ha : ∀ j, 1 ≤ j → j < l.length - 1 → ∀ x, l[j]? = some x → isPlain x = true) : PV l := by
  left
  refine ⟨(l.drop 1).take (l.length - 2), ?_, ?_⟩
  · apply List.ext_getElem?
    intro k
    cases k with
    | zero => rw [h0]; rfl
    | succ k =>
      rw [List.getElem?_cons_succ]
      rcases Nat.lt_or_ge k (l.length - 2) with h | h
      · rw [List.getElem?_append_left (by rw [List.length_take, List.length_drop]; omega), List.getElem?_take, if_pos h, List.getElem?_drop, Nat.add_comm]
      · rw [List.getElem?_append_right (by rw [List.length_take, List.length_drop]; omega)]
        have hL : ((l.drop 1).take (l.length - 2)).length = l.length - 2 := by rw [List.length_take, List.length_drop]; omega
        rw [hL]
        rcases Nat.lt_or_ge k (l.length - 1) with h' | h'
        · rw [show k + 1 = l.length - 1 by omega, h1, show k - (l.length - 2) = 0 by omega]; rfl
        · rw [List.getElem?_eq_none (by omega), List.getElem?_eq_none (by simp; omega)]
  · rw [List.all_eq_true]
    intro x hx
    obtain ⟨k, hk, rfl⟩ := List.getElem_of_mem hx
    rw [List.length_take, List.length_drop] at hk
    refine ha (1 + k) (by omega) (by omega) _ ?_
    rw [List.getElem_take, List.getElem_drop, List.getElem?_eq_getElem]
theorem pv_digits {l : List UInt8} {c : UInt8} (h0 : l[0]? = some c) (hc : 49 ≤ c.toNat ∧ c.toNat ≤ 57) (ha : ∀ j, 1 ≤ j → j < l.length → ∀ x, l[j]? = some x → isDig x = true) : PV l := by
  right; right; left
  cases l with
  | nil => cases h0
  | cons a t =>
    cases h0
    refine ⟨_, _, rfl, hc, ?_⟩
    rw [List.all_eq_true]
    intro x hx
    obtain ⟨k, hk, rfl⟩ := List.getElem_of_mem hx
    exact ha (k + 1) (by omega) (by simp; omega) _ (by simp)
end Go.Proofs.Qxb6000022aDoor
