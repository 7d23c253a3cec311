import Derived.Test.Qxb6000022aDoorRead
import Derived.Laws.IdiomStrings
set_option linter.unusedSimpArgs false
set_option linter.unusedVariables false
namespace Go.Proofs.Qxb6000022aDoor
open Go.RowKit

def PvalPost (v : List UInt8) (i : Nat) (w : World) (e : Ending) (w' : World) : Prop :=
  ∃ pr cr, e = .returned (.tuple #[.slice pr v.length cr, .int .i64 ((i + v.length : Nat) : Int)]) ∧ BytesAt w' pr cr v ∧ Below w.heap.size w w'

theorem BytesAt.part {w : World} {b o c i : Nat} {l v r : List UInt8} (hA : BytesAt w (some ⟨b, o, none⟩) c l) (hd : l.drop i = v ++ r) (hi : i ≤ l.length) : BytesAt w (some ⟨b, o + i, none⟩) (c - i) v := by
  have hL : (l.drop i).length = v.length + r.length := by rw [hd, List.length_append]
  rw [List.length_drop] at hL
  have := hA.sub (i := i) (j := i + v.length) (pa := some ⟨b, o + i, none⟩) (by omega) (by omega) (fun _ => rfl)
  rw [hd, show i + v.length - i = v.length by omega, List.take_left] at this
  exact this

theorem ret_pair {p : Option Addr} {n n' c : Nat} {z z' : Int} (hn : n' = n) (hz : z' = z) : Ending.returned (.tuple #[.slice p n' c, .int .i64 z']) = .returned (.tuple #[.slice p n c, .int .i64 z]) := by rw [hn, hz]

set_option maxHeartbeats 400000 in
theorem plainValue_quoted (w : World) (pa : Option Addr) (c i : Nat) (l u r : List UInt8) (hA : BytesAt w pa c l) (hd : l.drop i = 34 :: (u ++ 34 :: r)) (hu : u.all isPlain = true) :
    Calls Tryd.prog 22 #[.slice pa l.length c, .int .i64 i] w (PvalPost (34 :: (u ++ [34])) i w) := by
  have hl : l.length ≤ maxLen := Nat.le_trans hA.1 hA.2.1
  unfold maxLen at hl
  have hcl := hA.1
  obtain ⟨hlt, b, o, rfl, e1⟩ := hA.head hd
  have hlt' : ((i : Int) == l.length) = false := by rw [beq_eq_false_iff_ne]; omega
  have hlt2 : (i : Int) < l.length := by omega
  have e1' : w.cell? ⟨b, o + i, none⟩ = some (.int .u8 34) := e1
  have hcall := plainString_any w (some ⟨b, o, none⟩) c i l u r hA hd hu
  have hL : (l.drop i).length = u.length + r.length + 2 := by rw [hd]; simp; omega
  rw [List.length_drop] at hL
  have hpart : Hid (BytesAt w (some ⟨b, o + i, none⟩) (c - i) (34 :: (u ++ [34]))) := hA.part (r := r) (by rw [hd]; simp) (by omega)
  clear e1 hd hu hA
  go_enter Tryd.func22, Tryd.ntmps22
  go_wp2_with fail
  refine hcall.mono ?_
  rintro e w' ⟨v, rfl, rfl⟩
  have h1 : (i : Int) ≤ ((i + u.length + 2 : Nat) : Int) := by omega
  have h2 : ((i + u.length + 2 : Nat) : Int) ≤ c := by omega
  go_wp2
  go_ret2
  refine ⟨some ⟨b, o + i, none⟩, c - i, ?_, hpart.out, Below.refl _ _⟩
  exact ret_pair (n' := i + u.length + 2 - i) (z' := (i : Int) + u.length + 2) (by simp; omega) (by simp; omega)

set_option maxHeartbeats 400000 in
theorem plainValue_zero (w : World) (pa : Option Addr) (c i : Nat) (l r : List UInt8) (hA : BytesAt w pa c l) (hd : l.drop i = 48 :: r) :
    Calls Tryd.prog 22 #[.slice pa l.length c, .int .i64 i] w (PvalPost [48] i w) := by
  have hl : l.length ≤ maxLen := Nat.le_trans hA.1 hA.2.1
  unfold maxLen at hl
  have hcl := hA.1
  obtain ⟨hlt, b, o, rfl, e1⟩ := hA.head hd
  have hlt' : ((i : Int) == l.length) = false := by rw [beq_eq_false_iff_ne]; omega
  have hlt2 : (i : Int) < l.length := by omega
  have e1' : w.cell? ⟨b, o + i, none⟩ = some (.int .u8 48) := e1
  have hpart : Hid (BytesAt w (some ⟨b, o + i, none⟩) (c - i) [48]) := hA.part (r := r) (by rw [hd]; simp) (by omega)
  clear e1 hd hA
  have h1 : (i : Int) ≤ (i : Int) + 1 := by omega
  have h2 : (i : Int) + 1 ≤ c := by omega
  go_enter Tryd.func22, Tryd.ntmps22
  go_wp2
  go_ret2
  exact ⟨some ⟨b, o + i, none⟩, c - i, rfl, hpart.out, Below.refl _ _⟩

set_option maxHeartbeats 400000 in
theorem plainValue_digits (w : World) (pa : Option Addr) (c i : Nat) (l t r : List UInt8) (x d : UInt8) (hA : BytesAt w pa c l) (hd : l.drop i = x :: (t ++ d :: r)) (hx : 49 ≤ x.toNat ∧ x.toNat ≤ 57) (ht : t.all isDig = true) (hdd : isDig d = false) :
    Calls Tryd.prog 22 #[.slice pa l.length c, .int .i64 i] w (PvalPost (x :: t) i w) := by
  have hl : l.length ≤ maxLen := Nat.le_trans hA.1 hA.2.1
  unfold maxLen at hl
  have hcl := hA.1
  obtain ⟨hlt, b, o, rfl, e1⟩ := hA.head hd
  have hlt' : ((i : Int) == l.length) = false := by rw [beq_eq_false_iff_ne]; omega
  have hlt2 : (i : Int) < l.length := by omega
  have hL : (l.drop i).length = t.length + r.length + 2 := by rw [hd]; simp; omega
  rw [List.length_drop] at hL
  have hpart : Hid (BytesAt w (some ⟨b, o + i, none⟩) (c - i) (x :: t)) := hA.part (r := d :: r) (by rw [hd]; simp) (by omega)
  obtain ⟨_, _, hd1⟩ := drop_at hd
  have x1 : ((x.toNat : Int) == 34) = false := by rw [beq_eq_false_iff_ne]; omega
  have x2 : ((x.toNat : Int) == 48) = false := by rw [beq_eq_false_iff_ne]; omega
  have x3 : (49 : Int) ≤ x.toNat := by omega
  have x4 : (x.toNat : Int) ≤ 57 := by omega
  have HD : Hid (l.drop (i + 1) = t ++ d :: r ∧ t.all isDig = true ∧ isDig d = false) := ⟨hd1, ht, hdd⟩
  clear hd hd1 ht hdd hx
  go_enter Tryd.func22, Tryd.ntmps22
  go_wp2
  go_loop [5] (fun j => ∃ (k : Nat) (t' : List UInt8), k ≤ l.length ∧ i + 1 ≤ k ∧ j = .int .i64 k ∧ Hid (l.drop k = t' ++ d :: r ∧ t'.all isDig = true ∧ k + t'.length = i + 1 + t.length)) (fun j => l.length - (intOf j).toNat)
  case atStart => exact ⟨i + 1, t, by omega, Nat.le_refl _, by go_num, HD.out.1, HD.out.2.1, rfl⟩
  case round =>
    obtain ⟨k, t', hk, hik, rfl, HK⟩ := hrel
    cases t' with
    | nil =>
      obtain ⟨hlt, b, o, hbo, e2⟩ := hA.head (k := k) (a := d) (t := r) HK.out.1
      cases hbo
      have hlt' : (k : Int) < l.length := by omega
      have hsum := HK.out.2.2
      simp only [List.length_nil] at hsum
      have hdd := HD.out.2.2
      clear HK HD
      have hkc : (k : Int) ≤ c := by omega
      have hik' : (i : Int) ≤ k := by omega
      unfold isDig at hdd
      have hdd' : ¬ (48 : Int) ≤ (d.toNat : Int) ∨ ¬ (d.toNat : Int) ≤ 57 := by
        simp at hdd
        omega
      clear hdd
      rcases hdd' with h | h
      · go_wp2
        go_ret2
        exact ⟨some ⟨b, o + i, none⟩, c - i, ret_pair (n' := k - i) (z' := (k : Int)) (by simp; omega) (by simp; omega), hpart.out, Below.refl _ _⟩
      · have h48 : (48 : Int) ≤ (d.toNat : Int) := by omega
        go_wp2
        go_ret2
        exact ⟨some ⟨b, o + i, none⟩, c - i, ret_pair (n' := k - i) (z' := (k : Int)) (by simp; omega) (by simp; omega), hpart.out, Below.refl _ _⟩
    | cons y t' =>
      obtain ⟨hlt, b, o, hbo, e2⟩ := hA.head (k := k) (a := y) (t := t' ++ d :: r) HK.out.1
      cases hbo
      obtain ⟨_, _, hd2⟩ := drop_at HK.out.1
      have hp := HK.out.2.1
      have hsum := HK.out.2.2
      rw [List.all_cons, Bool.and_eq_true] at hp
      have HN : Hid (l.drop (k + 1) = t' ++ d :: r ∧ t'.all isDig = true ∧ k + 1 + t'.length = i + 1 + t.length) := ⟨hd2, hp.2, by simp at hsum; omega⟩
      have hpx := hp.1
      unfold isDig at hpx
      simp only [Bool.and_eq_true, decide_eq_true_eq] at hpx
      obtain ⟨p1, p2⟩ := hpx
      have hlt' : (k : Int) < l.length := by omega
      have p1' : (48 : Int) ≤ (y.toNat : Int) := by omega
      have p2' : (y.toNat : Int) ≤ 57 := by omega
      clear HK HD hp hsum hd2
      go_wp2
      go_round
      case rel => exact ⟨k + 1, t', by omega, by omega, by go_num, HN⟩
      case measure => simp [intOf]; omega

theorem addr_add (b o j : Nat) : (⟨b, o, none⟩ : Addr).add j = ⟨b, o + j, none⟩ := by
  unfold Addr.add
  split
  · rename_i h; rw [h]; rfl
  · rfl
theorem toList_is (s : ByteArray) : s.toList = s.data.toList := by
  obtain ⟨⟨l⟩⟩ := s
  exact ByteArray.toList_mk l

def litOf : Nat → List UInt8
  | 0 => wTrue
  | 1 => wFalse
  | _ => wNull

def LitRel (w : World) (pa : Option Addr) (c hs : Nat) (l : List UInt8) (wr : World) : Prop :=
  BytesAt wr pa c l ∧ Below w.heap.size w wr ∧ ∀ n, n < 3 → ∃ s : ByteArray, wr.cell? ⟨hs, n, none⟩ = some (.string s) ∧ s.data.toList = litOf n ∧ 4 ≤ s.size ∧ s.size ≤ 5

theorem lit_len (n : Nat) (hn : n < 3) : 4 ≤ (litOf n).length ∧ (litOf n).length ≤ 5 := by
  match n, hn with
  | 0, _ => decide
  | 1, _ => decide
  | 2, _ => decide
theorem lit_apart (n q : Nat) (hn : n < q) (hq : q < 3) (r : List UInt8) : (litOf q ++ r).take (litOf n).length ≠ litOf n := by
  rcases (by omega : (n = 0 ∧ q = 1) ∨ (n = 0 ∧ q = 2) ∨ (n = 1 ∧ q = 2)) with ⟨rfl, rfl⟩ | ⟨rfl, rfl⟩ | ⟨rfl, rfl⟩
  · simp [litOf, wTrue, wFalse]
  · simp [litOf, wTrue, wNull]
  · simp [litOf, wFalse, wNull]

set_option maxHeartbeats 400000 in
theorem plainValue_lit (w : World) (pa : Option Addr) (c i q : Nat) (l r : List UInt8) (hq : q < 3) (hA : BytesAt w pa c l) (hd : l.drop i = litOf q ++ r) :
    Calls Tryd.prog 22 #[.slice pa l.length c, .int .i64 i] w (PvalPost (litOf q) i w) := by
  have hl : l.length ≤ maxLen := Nat.le_trans hA.1 hA.2.1
  unfold maxLen at hl
  have hcl := hA.1
  obtain ⟨x, t, hxt, hx⟩ : ∃ x t, litOf q = x :: t ∧ 58 ≤ x.toNat := by
    match q, hq with
    | 0, _ => exact ⟨_, _, rfl, by decide⟩
    | 1, _ => exact ⟨_, _, rfl, by decide⟩
    | 2, _ => exact ⟨_, _, rfl, by decide⟩
  have HD : Hid (l.drop i = litOf q ++ r) := hd
  rw [hxt] at hd
  obtain ⟨hlt, b, o, rfl, e1⟩ := hA.head hd
  have hlt' : ((i : Int) == l.length) = false := by rw [beq_eq_false_iff_ne]; omega
  have hlt2 : (i : Int) < l.length := by omega
  have x1 : ((x.toNat : Int) == 34) = false := by rw [beq_eq_false_iff_ne]; omega
  have x2 : ((x.toNat : Int) == 48) = false := by rw [beq_eq_false_iff_ne]; omega
  have x3 : (49 : Int) ≤ x.toNat := by omega
  have x4 : ¬ (x.toNat : Int) ≤ 57 := by omega
  have hW : LitRel w (some ⟨b, o, none⟩) c w.heap.size l (w.alloc (.cells #[.string ⟨#[116, 114, 117, 101]⟩, .string ⟨#[102, 97, 108, 115, 101]⟩, .string ⟨#[110, 117, 108, 108]⟩] 9)) := by
    have hb := (Below.refl w.heap.size w).alloc (Nat.le_refl _) (.cells #[.string ⟨#[116, 114, 117, 101]⟩, .string ⟨#[102, 97, 108, 115, 101]⟩, .string ⟨#[110, 117, 108, 108]⟩] 9)
    refine ⟨hA.below hb, hb, fun n hn => ?_⟩
    match n, hn with
    | 0, _ => exact ⟨⟨#[116, 114, 117, 101]⟩, by go_simp, rfl, by decide, by decide⟩
    | 1, _ => exact ⟨⟨#[102, 97, 108, 115, 101]⟩, by go_simp, rfl, by decide, by decide⟩
    | 2, _ => exact ⟨⟨#[110, 117, 108, 108]⟩, by go_simp, rfl, by decide, by decide⟩
  have HW : Hid (LitRel w (some ⟨b, o, none⟩) c w.heap.size l (w.alloc (.cells #[.string ⟨#[116, 114, 117, 101]⟩, .string ⟨#[102, 97, 108, 115, 101]⟩, .string ⟨#[110, 117, 108, 108]⟩] 9))) := hW
  clear hd hxt hW hA
  go_enter Tryd.func22, Tryd.ntmps22
  go_wp2
  go_loopw [19] (fun j wr => ∃ n : Nat, n ≤ q ∧ j = .int .i64 n ∧ Hid (LitRel w (some ⟨b, o, none⟩) c w.heap.size l wr)) (fun j _ => 3 - (intOf j).toNat)
  case atStart => exact ⟨0, Nat.zero_le _, rfl, HW⟩
  case round =>
    clear HW
    obtain ⟨n, hn, rfl, HR⟩ := hrel
    obtain ⟨s, hs, hsl, hs1, hs2⟩ := HR.out.2.2 n (by omega)
    have hn3 : (n : Int) < 3 := by omega
    have HS : Hid (s.data.toList = litOf n) := hsl
    clear hsl
    by_cases hge : (s.size : Int) ≤ (l.length : Int) - i
    · have hL : ((l.drop i).take s.size).length = s.size := by rw [List.length_take, List.length_drop]; omega
      have hsub := HR.out.1.sub (i := i) (j := i + s.size) (pa := some ⟨b, o + i, none⟩) (by omega) (by omega) (fun _ => rfl)
      rw [show i + s.size - i = s.size by omega] at hsub
      have hconv := run_convert_bytes_back (P := Tryd.prog) wr 22 9 5 ⟨b, o + i, none⟩ (c - i) ((l.drop i).take s.size) Tryd.underlying22 Tryd.underlying5 Tryd.underlying9 (fun j hj => by
        obtain ⟨b', o', hbo, hc⟩ := hsub.at hj
        cases hbo
        rw [addr_add]
        exact hc)
      rw [hL] at hconv
      have HB : Hid (((l.drop i).take s.size).length = s.size) := hL
      clear hL hsub
      generalize htk : (l.drop i).take s.size = tk at hconv
      have HT : Hid ((l.drop i).take s.size = tk) := htk
      clear htk
      have g1 : (i : Int) ≤ (i : Int) + s.size := by omega
      have g2 : (i : Int) + s.size ≤ c := by omega
      by_cases hnq : n = q
      · subst hnq
        have heq : (tk == s.toList) = true := by
          rw [beq_iff_eq, toList_is, HS.out, ← HT.out, HD.out, show s.size = (litOf n).length by rw [← HS.out]; rfl, List.take_left]
        have HV : Hid (s.size = (litOf n).length) := by rw [← HS.out]; rfl
        clear HT HB
        go_wp2
        go_ret2
        have hsz := HV.out
        exact ⟨some ⟨b, o + i, none⟩, c - i, ret_pair (n' := i + s.size - i) (z' := (i : Int) + s.size) (by omega) (by omega), HR.out.1.part HD.out (by omega), HR.out.2.1⟩
      · have heq : (tk == s.toList) = false := by
          rw [beq_eq_false_iff_ne, toList_is, HS.out, ← HT.out, HD.out, show s.size = (litOf n).length by rw [← HS.out]; rfl]
          exact lit_apart n q (by omega) hq r
        clear HT HB
        go_wp2
        go_roundw
        case rel => exact ⟨n + 1, by omega, by go_num, HR⟩
        case measure => simp [intOf]; omega
    · have hnq : n ≠ q := by
        rintro rfl
        have h1 : (l.drop i).length = (litOf n).length + r.length := by rw [HD.out, List.length_append]
        have h2 : s.size = (litOf n).length := by rw [← HS.out]; rfl
        rw [List.length_drop] at h1
        omega
      go_wp2
      go_roundw
      case rel => exact ⟨n + 1, by omega, by go_num, HR⟩
      case measure => simp [intOf]; omega

theorem delim_not_dig {d : UInt8} (h : isDelim d = true) : isDig d = false := by
  unfold isDelim at h
  unfold isDig
  rw [Bool.eq_false_iff]
  simp only [Bool.or_eq_true, beq_iff_eq] at h
  simp only [ne_eq, Bool.and_eq_true, decide_eq_true_eq]
  omega

/-- A plain value before a delimiter. -/
theorem plainValue_any (w : World) (pa : Option Addr) (c i : Nat) (l v r : List UInt8) (d : UInt8) (hA : BytesAt w pa c l) (hd : l.drop i = v ++ d :: r) (hv : PV v) (hdd : isDelim d = true) :
    Calls Tryd.prog 22 #[.slice pa l.length c, .int .i64 i] w (PvalPost v i w) := by
  rcases hv with ⟨u, rfl, hu⟩ | rfl | ⟨x, t, rfl, hx, ht⟩ | rfl | rfl | rfl
  · exact plainValue_quoted w pa c i l u (d :: r) hA (by rw [hd]; simp) hu
  · exact plainValue_zero w pa c i l (d :: r) hA hd
  · exact plainValue_digits w pa c i l t r x d hA hd hx ht (delim_not_dig hdd)
  · exact plainValue_lit w pa c i 0 l (d :: r) (by decide) hA hd
  · exact plainValue_lit w pa c i 1 l (d :: r) (by decide) hA hd
  · exact plainValue_lit w pa c i 2 l (d :: r) (by decide) hA hd

set_option maxHeartbeats 400000 in
theorem zzPlainValue_any (w : World) (pa : Option Addr) (c i : Nat) (l v r : List UInt8) (d : UInt8) (hA : BytesAt w pa c l) (hd : l.drop i = v ++ d :: r) (hv : PV v) (hdd : isDelim d = true) :
    Calls Tryd.prog 13 #[.slice pa l.length c, .int .i64 i] w (PvalPost v i w) := by
  have hcall := plainValue_any w pa c i l v r d hA hd hv hdd
  clear hA hd hv hdd
  go_enter Tryd.func13, Tryd.ntmps13
  go_wp2_with fail
  refine hcall.mono ?_
  rintro e w' ⟨pr, cr, rfl, h1, h2⟩
  have H1 : Hid (BytesAt w' pr cr v) := h1
  clear h1
  go_wp2
  go_ret2
  exact ⟨pr, cr, ret_pair rfl (by simp), H1.out, h2⟩
end Go.Proofs.Qxb6000022aDoor
