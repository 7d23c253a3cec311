import Derived.Test.Qxb6000022aDoorText
set_option linter.unusedSimpArgs false
set_option linter.unusedVariables false
namespace Go.Proofs.Qxb6000022aDoor
open Go.RowKit

/-- From the opening quote's next byte: how many bytes to the index past the closing quote. -/
def sEnd : List UInt8 → Option Nat
  | [] => none
  | c :: r => if c = 92 then (match r with | [] => none | _ :: r' => (sEnd r').map (· + 2)) else if c = 34 then some 1 else (sEnd r).map (· + 1)

theorem sEnd_cons (c : UInt8) (r : List UInt8) : sEnd (c :: r) = if c = 92 then (match r with | [] => none | _ :: r' => (sEnd r').map (· + 2)) else if c = 34 then some 1 else (sEnd r).map (· + 1) := by
  cases r <;> simp only [sEnd]
theorem sEnd_plain (u r : List UInt8) (hu : u.all isPlain = true) : sEnd (u ++ 34 :: r) = some (u.length + 1) := by
  induction u with
  | nil => rw [List.nil_append, sEnd_cons, if_neg (by decide), if_pos rfl]; rfl
  | cons a u ih =>
    rw [List.all_cons, Bool.and_eq_true] at hu
    have h1 : a ≠ 92 := by
      rintro rfl; revert hu; simp [isPlain]
    have h2 : a ≠ 34 := by
      rintro rfl; revert hu; simp [isPlain]
    rw [List.cons_append, sEnd_cons, if_neg h1, if_neg h2, ih hu.2]
    rfl

theorem drop_at {l t : List UInt8} {k : Nat} {a : UInt8} (h : l.drop k = a :: t) : k < l.length ∧ l[k]? = some a ∧ l.drop (k + 1) = t := by
  have hk : k < l.length := by
    rcases Nat.lt_or_ge k l.length with h' | h'
    · exact h'
    · rw [List.drop_eq_nil_of_le h'] at h; cases h
  rw [List.drop_eq_getElem_cons hk] at h
  injection h with h1 h2
  exact ⟨hk, by rw [List.getElem?_eq_getElem hk, h1], h2⟩
theorem BytesAt.head {w : World} {pa : Option Addr} {c k : Nat} {l t : List UInt8} {a : UInt8} (h : BytesAt w pa c l) (hd : l.drop k = a :: t) :
    k < l.length ∧ ∃ b o, pa = some ⟨b, o, none⟩ ∧ w.cell? ⟨b, o + k, none⟩ = some (.int .u8 (a.toNat : Int)) := by
  obtain ⟨hk, hg, _⟩ := drop_at hd
  obtain ⟨b, o, e, hc⟩ := h.at hk
  rw [List.getElem?_eq_getElem hk] at hg
  rw [Option.some.inj hg] at hc
  exact ⟨hk, b, o, e, hc⟩

def SEndPost (n : Nat) (w : World) (e : Ending) (w' : World) : Prop := e = .returned (.int .i64 (n : Int)) ∧ w' = w

set_option maxHeartbeats 400000 in
theorem stringEnd_any (w : World) (pa : Option Addr) (c i m : Nat) (l : List UInt8) (hA : BytesAt w pa c l) (hi : i < l.length) (hm : sEnd (l.drop (i + 1)) = some m) :
    Calls Tryd.prog 26 #[.slice pa l.length c, .int .i64 i] w (SEndPost (i + 1 + m) w) := by
  have hl : l.length ≤ maxLen := Nat.le_trans hA.1 hA.2.1
  unfold maxLen at hl
  have HM : Hid (sEnd (l.drop (i + 1)) = some m) := hm
  clear hm
  go_enter Tryd.func26, Tryd.ntmps26
  go_wp2
  go_loop [5] (fun j => ∃ k m' : Nat, k ≤ l.length ∧ j = .int .i64 k ∧ Hid (sEnd (l.drop k) = some m' ∧ k + m' = i + 1 + m)) (fun j => l.length - (intOf j).toNat)
  case atStart => exact ⟨i + 1, m, by omega, by go_num, HM.out, rfl⟩
  case round =>
    obtain ⟨k, m', hk, rfl, HK⟩ := hrel
    obtain ⟨x, t, hd⟩ : ∃ x t, l.drop k = x :: t := by
      cases h : l.drop k with
      | nil => have := HK.out.1; rw [h] at this; cases this
      | cons x t => exact ⟨x, t, rfl⟩
    obtain ⟨hlt, b, o, rfl, e1⟩ := hA.head hd
    obtain ⟨_, _, hd'⟩ := drop_at hd
    have hlt' : (k : Int) < l.length := by omega
    have hs := HK.out.1
    have hsum := HK.out.2
    rw [hd, sEnd_cons] at hs
    clear HK
    by_cases h92 : x = 92
    · rw [if_pos h92] at hs
      have q1 : ((x.toNat : Int) == 92) = true := byte_is x 92 (by decide) h92
      cases t with
      | nil => cases hs
      | cons y t' =>
        obtain ⟨hlt2, _, hd2⟩ := drop_at hd'
        simp only [Option.map_eq_some_iff] at hs
        obtain ⟨m2, hm2, rfl⟩ := hs
        have HM2 : Hid (sEnd (l.drop (k + 2)) = some m2 ∧ k + 2 + m2 = i + 1 + m) := ⟨by rw [show k + 2 = k + 1 + 1 from rfl, hd2]; exact hm2, by omega⟩
        clear hm2 hsum hd hd' hd2 h92
        go_wp2
        go_round
        case rel => exact ⟨k + 2, m2, by omega, by go_num, HM2⟩
        case measure => simp [intOf]; omega
    · rw [if_neg h92] at hs
      have q1 : ((x.toNat : Int) == 92) = false := byte_ne x 92 (by decide) h92
      by_cases h34 : x = 34
      · rw [if_pos h34] at hs
        have q2 : ((x.toNat : Int) == 34) = true := byte_is x 34 (by decide) h34
        cases hs
        clear h92 h34
        go_wp2
        go_ret
        exact ⟨by congr 1; go_num, rfl⟩
      · rw [if_neg h34] at hs
        have q2 : ((x.toNat : Int) == 34) = false := byte_ne x 34 (by decide) h34
        simp only [Option.map_eq_some_iff] at hs
        obtain ⟨m2, hm2, rfl⟩ := hs
        have HM2 : Hid (sEnd (l.drop (k + 1)) = some m2 ∧ k + 1 + m2 = i + 1 + m) := ⟨by rw [hd']; exact hm2, by omega⟩
        clear hm2 hsum hd hd' h92 h34
        go_wp2
        go_round
        case rel => exact ⟨k + 1, m2, by omega, by go_num, HM2⟩
        case measure => simp [intOf]; omega

def PStrPost (n : Nat) (w : World) (e : Ending) (w' : World) : Prop := ∃ v, e = .returned (.tuple #[v, .int .i64 (n : Int)]) ∧ w' = w

set_option maxHeartbeats 400000 in
theorem plainString_any (w : World) (pa : Option Addr) (c i : Nat) (l u r : List UInt8) (hA : BytesAt w pa c l) (hd : l.drop i = 34 :: (u ++ 34 :: r)) (hu : u.all isPlain = true) :
    Calls Tryd.prog 28 #[.slice pa l.length c, .int .i64 i] w (PStrPost (i + u.length + 2) w) := by
  have hl : l.length ≤ maxLen := Nat.le_trans hA.1 hA.2.1
  unfold maxLen at hl
  have hcl := hA.1
  obtain ⟨hlt, b, o, rfl, e1⟩ := hA.head hd
  obtain ⟨_, _, hd1⟩ := drop_at hd
  have hlt' : ((i : Int) == l.length) = false := by rw [beq_eq_false_iff_ne]; omega
  have HD : Hid (l.drop (i + 1) = u ++ 34 :: r ∧ u.all isPlain = true) := ⟨hd1, hu⟩
  have e1' : w.cell? ⟨b, o + i, none⟩ = some (.int .u8 34) := e1
  clear hd1 hu hd e1
  go_enter Tryd.func28, Tryd.ntmps28
  go_wp2
  go_loop [6] (fun j => ∃ (k : Nat) (u' : List UInt8), k ≤ l.length ∧ i + 1 ≤ k ∧ j = .int .i64 k ∧ Hid (l.drop k = u' ++ 34 :: r ∧ u'.all isPlain = true ∧ k + u'.length = i + 1 + u.length)) (fun j => l.length - (intOf j).toNat)
  case atStart => exact ⟨i + 1, u, by omega, Nat.le_refl _, by go_num, HD.out.1, HD.out.2, rfl⟩
  case round =>
    obtain ⟨k, u', hk, hik, rfl, HK⟩ := hrel
    have hik' : (i : Int) + 1 ≤ k := by omega
    cases u' with
    | nil =>
      obtain ⟨hlt, b, o, hbo, e2⟩ := hA.head (k := k) (a := 34) (t := r) HK.out.1
      cases hbo
      have hlt' : (k : Int) < l.length := by omega
      have e2' : w.cell? ⟨b, o + k, none⟩ = some (.int .u8 34) := e2
      have hsum := HK.out.2.2
      clear HK HD e2
      have hkc : (k : Int) ≤ c := by omega
      go_wp2
      go_ret2
      simp at hsum
      have hk2 : ((i + u.length + 2 : Nat) : Int) = (k : Int) + 1 := by omega
      exact ⟨.slice (some ⟨b, o + (i + 1), none⟩) (k - (i + 1)) (c - (i + 1)), by rw [hk2]; rfl, rfl⟩
    | cons x u' =>
      obtain ⟨hlt, b, o, hbo, e2⟩ := hA.head (k := k) (a := x) (t := u' ++ 34 :: r) HK.out.1
      cases hbo
      obtain ⟨_, _, hd2⟩ := drop_at HK.out.1
      have hp := HK.out.2.1
      have hsum := HK.out.2.2
      rw [List.all_cons, Bool.and_eq_true] at hp
      have HN : Hid (l.drop (k + 1) = u' ++ 34 :: r ∧ u'.all isPlain = true ∧ k + 1 + u'.length = i + 1 + u.length) := ⟨hd2, hp.2, by simp at hsum; omega⟩
      have hpx := hp.1
      unfold isPlain at hpx
      simp only [Bool.and_eq_true, decide_eq_true_eq, bne_iff_ne, ne_eq] at hpx
      obtain ⟨⟨⟨p1, p2⟩, p3⟩, p4⟩ := hpx
      have hlt' : (k : Int) < l.length := by omega
      have p1' : ¬ (x.toNat : Int) < 32 := by omega
      have p2' : ¬ (126 : Int) < (x.toNat : Int) := by omega
      have p3' : ((x.toNat : Int) == 34) = false := by rw [beq_eq_false_iff_ne]; omega
      have p4' : ((x.toNat : Int) == 92) = false := by rw [beq_eq_false_iff_ne]; omega
      clear HK HD hp hsum hd2
      go_wp2
      go_round
      case rel => exact ⟨k + 1, u', by omega, by omega, by go_num, HN⟩
      case measure => simp [intOf]; omega
end Go.Proofs.Qxb6000022aDoor
