import Derived.Test.Qxb6000022aDoorAny
set_option linter.unusedSimpArgs false
set_option linter.unusedVariables false
namespace Go.Proofs.Qxb6000022aDoor
open Go.RowKit

/-- anyValue's scan over brackets: fuel, depth, the bytes; how many bytes to depth 0. -/
def dScan : Nat → Nat → List UInt8 → Option Nat
  | 0, _, _ => none
  | _ + 1, 0, _ => some 0
  | _ + 1, _ + 1, [] => none
  | f + 1, d + 1, c :: r =>
    if c = 34 then (sEnd r).bind (fun m => (dScan f (d + 1) (r.drop m)).map (· + (m + 1)))
    else if c = 123 ∨ c = 91 then (dScan f (d + 2) r).map (· + 1)
    else if c = 125 ∨ c = 93 then (dScan f d r).map (· + 1)
    else (dScan f (d + 1) r).map (· + 1)

theorem sEnd_le : ∀ (n : Nat) (l : List UInt8) (m : Nat), l.length ≤ n → sEnd l = some m → m ≤ l.length ∧ 1 ≤ m := by
  intro n
  induction n with
  | zero =>
    intro l m hl h
    cases l with
    | nil => cases h
    | cons a l => simp at hl
  | succ n ih =>
    intro l m hl h
    cases l with
    | nil => cases h
    | cons a l =>
      rw [sEnd_cons] at h
      split at h
      · cases l with
        | nil => cases h
        | cons b l =>
          simp only [Option.map_eq_some_iff] at h
          obtain ⟨m', h', rfl⟩ := h
          have := ih l m' (by simp at hl; omega) h'
          simp; omega
      · split at h
        · cases h; simp
        · simp only [Option.map_eq_some_iff] at h
          obtain ⟨m', h', rfl⟩ := h
          have := ih l m' (by simp at hl; omega) h'
          simp; omega

/-- What anyValue reads at the head of t: m bytes. -/
def AV (t : List UInt8) (m : Nat) : Prop :=
  (∃ r m', t = 34 :: r ∧ sEnd r = some m' ∧ m = m' + 1) ∨ (∃ x r f m', t = x :: r ∧ (x = 123 ∨ x = 91) ∧ dScan f 1 r = some m' ∧ m = m' + 1) ∨
    (∃ x p d r, t = (x :: p) ++ d :: r ∧ (x :: p).all inWord = true ∧ isDelim d = true ∧ (x ≠ 34 ∧ x ≠ 123 ∧ x ≠ 91) ∧ m = p.length + 1)

theorem dScan_zero {f : Nat} {t : List UInt8} {m : Nat} (h : dScan f 0 t = some m) : m = 0 := by
  cases f with
  | zero => cases h
  | succ f => simp only [dScan] at h; cases h; rfl

set_option maxHeartbeats 1000000 in
theorem anyValue_string (w : World) (pa : Option Addr) (c i m : Nat) (l r : List UInt8) (hA : BytesAt w pa c l) (hd : l.drop i = 34 :: r) (hm : sEnd r = some m) :
    Calls Tryd.prog 20 #[.slice pa l.length c, .int .i64 i] w (PvalPost ((l.drop i).take (m + 1)) i w) := by
  have hl : l.length ≤ maxLen := Nat.le_trans hA.1 hA.2.1
  unfold maxLen at hl
  have hcl := hA.1
  obtain ⟨hlt, b, o, rfl, e1⟩ := hA.head hd
  obtain ⟨_, _, hd1⟩ := drop_at hd
  have hbd := sEnd_le _ r m (Nat.le_refl _) hm
  have hL : (l.drop i).length = r.length + 1 := by rw [hd]; rfl
  rw [List.length_drop] at hL
  have hcall := stringEnd_any w (some ⟨b, o, none⟩) c i m l hA hlt (by rw [hd1]; exact hm)
  have hpart : Hid (BytesAt w (some ⟨b, o + i, none⟩) (c - i) ((l.drop i).take (m + 1)) ∧ ((l.drop i).take (m + 1)).length = m + 1) := ⟨hA.part (r := (l.drop i).drop (m + 1)) (by rw [List.take_append_drop]) (by omega), by rw [List.length_take, List.length_drop]; omega⟩
  have e1' : w.cell? ⟨b, o + i, none⟩ = some (.int .u8 34) := e1
  have hlt2 : (i : Int) < l.length := by omega
  clear e1 hd hm hd1 hA
  generalize (l.drop i).take (m + 1) = v at *
  go_enter Tryd.func20, Tryd.ntmps20
  go_wp2_with fail
  refine hcall.mono ?_
  rintro e w' ⟨rfl, rfl⟩
  have h1 : (i : Int) ≤ ((i + 1 + m : Nat) : Int) := by omega
  have h2 : ((i + 1 + m : Nat) : Int) ≤ c := by omega
  go_wp2
  go_ret2
  have hvl := hpart.out.2
  exact ⟨some ⟨b, o + i, none⟩, c - i, ret_pair (n' := i + 1 + m - i) (z' := (i : Int) + 1 + m) (by omega) (by omega), hpart.out.1, Below.refl _ _⟩

set_option maxHeartbeats 1000000 in
theorem anyValue_word (w : World) (pa : Option Addr) (c i : Nat) (l p r : List UInt8) (x d : UInt8) (hA : BytesAt w pa c l) (hd : l.drop i = (x :: p) ++ d :: r) (hp : (x :: p).all inWord = true) (hdd : isDelim d = true) (h34 : x ≠ 34) (h123 : x ≠ 123) (h91 : x ≠ 91) :
    Calls Tryd.prog 20 #[.slice pa l.length c, .int .i64 i] w (PvalPost (x :: p) i w) := by
  have hl : l.length ≤ maxLen := Nat.le_trans hA.1 hA.2.1
  unfold maxLen at hl
  have hcl := hA.1
  obtain ⟨hlt, b, o, rfl, e1⟩ := hA.head hd
  have hL : (l.drop i).length = p.length + r.length + 2 := by rw [hd]; simp; omega
  have hsub := hA.part (i := i) (v := l.drop i) (r := []) (by simp) (by omega)
  have hcall := indexAny_any w (some ⟨b, o + i, none⟩) (c - i) (l.drop i) (x :: p) r d hsub hd (by simp) hp hdd
  have hLd : (l.drop i).length = l.length - i := List.length_drop
  rw [hLd] at hcall hL
  have hpart : Hid (BytesAt w (some ⟨b, o + i, none⟩) (c - i) (x :: p)) := hA.part hd (by omega)
  have hlt2 : (i : Int) < l.length := by omega
  have q1 : ((x.toNat : Int) == 34) = false := byte_ne x 34 (by decide) h34
  have q2 : ((x.toNat : Int) == 123) = false := byte_ne x 123 (by decide) h123
  have q3 : ((x.toNat : Int) == 91) = false := byte_ne x 91 (by decide) h91
  have hlt3 : (i : Int) ≤ l.length := by omega
  have HC : Hid (Calls Tryd.prog 27 #[.slice (some ⟨b, o + i, none⟩) (l.length - i) (c - i), .string ⟨#[44, 125, 32, 9, 13, 10]⟩] w (AnyIdxPost (x :: p).length w)) := hcall
  have HL : Hid (l.length - i = p.length + r.length + 2) := hL
  clear hd hp hA hcall hLd hsub h34 h123 h91 hL
  go_enter Tryd.func20, Tryd.ntmps20
  go_wp2_with fail
  refine HC.out.mono ?_
  rintro e w' ⟨rfl, hb⟩
  clear HC
  rw [List.length_cons]
  have hL := HL.out
  clear HL
  generalize hn : p.length + 1 = n at *
  have HN : Hid (p.length + 1 = n) := hn
  have h1 : (i : Int) ≤ (i : Int) + (n : Int) := by omega
  have h2 : (i : Int) + (n : Int) ≤ c := by omega
  have h3 : (i : Int) + (n : Int) ≤ l.length := by omega
  clear hL hn
  go_wp2
  go_ret2
  exact ⟨some ⟨b, o + i, none⟩, c - i, ret_pair (n' := i + n - i) (z' := (i : Int) + n) (by have := HN.out; simp; omega) (by have := HN.out; simp; omega), hpart.out.below hb, hb⟩

set_option maxHeartbeats 2000000 in
theorem anyValue_bracket (w : World) (pa : Option Addr) (c i m f : Nat) (l r : List UInt8) (x : UInt8) (hA : BytesAt w pa c l) (hd : l.drop i = x :: r) (hx : x = 123 ∨ x = 91) (hm : dScan f 1 r = some m) :
    Calls Tryd.prog 20 #[.slice pa l.length c, .int .i64 i] w (PvalPost ((l.drop i).take (m + 1)) i w) := by
  have hl : l.length ≤ maxLen := Nat.le_trans hA.1 hA.2.1
  unfold maxLen at hl
  have hcl := hA.1
  obtain ⟨hlt, b, o, rfl, e1⟩ := hA.head hd
  obtain ⟨_, _, hd1⟩ := drop_at hd
  have hlt2 : (i : Int) < l.length := by omega
  have HD : Hid (dScan f 1 (l.drop (i + 1)) = some m) := by rw [hd1]; exact hm
  have q1 : ((x.toNat : Int) == 34) = false := by rcases hx with rfl | rfl <;> rfl
  clear hd hd1 hm
  have main : ∀ q : Bool, ((x.toNat : Int) == 123) = q → (q = false → ((x.toNat : Int) == 91) = true) → Calls Tryd.prog 20 #[.slice (some ⟨b, o, none⟩) l.length c, .int .i64 i] w (PvalPost ((l.drop i).take (m + 1)) i w) := by
    intro q hq1 hq2
    have HQ2 : Hid (q = false → ((x.toNat : Int) == 91) = true) := hq2
    clear hq2 hx
    cases q
    all_goals
      have hq3 := HQ2.out
      go_enter Tryd.func20, Tryd.ntmps20
      go_wp2
      clear hq3 HQ2
      go_loop [6, 7] (fun e dp => ∃ k dep f' m' : Nat, k ≤ l.length ∧ i + 1 ≤ k ∧ dep ≤ k ∧ e = .int .i64 k ∧ dp = .int .i64 dep ∧ Hid (dScan f' dep (l.drop k) = some m' ∧ k + m' = i + 1 + m)) (fun e dp => l.length - (intOf e).toNat)
      case atStart => exact ⟨i + 1, 1, f, m, by omega, Nat.le_refl _, by omega, by go_num, rfl, HD.out, rfl⟩
      case round =>
        obtain ⟨k, dep, f', m', hk, hik, hdk, rfl, rfl, HK⟩ := hrel
        cases dep with
        | zero =>
          have hm0 := dScan_zero HK.out.1
          have hsum := HK.out.2
          have h1 : (i : Int) ≤ (k : Int) := by omega
          have h2 : (k : Int) ≤ c := by omega
          have HF : Hid (k = i + 1 + m) := by show k = i + 1 + m; omega
          clear HK hsum hm0 HD
          go_wp2
          go_ret2
          have hf := HF.out
          have hLv : ((l.drop i).take (m + 1)).length = m + 1 := by rw [List.length_take, List.length_drop]; omega
          exact ⟨some ⟨b, o + i, none⟩, c - i, ret_pair (n' := k - i) (z' := (k : Int)) (by omega) (by omega), hA.part (r := (l.drop i).drop (m + 1)) (by rw [List.take_append_drop]) (by omega), Below.refl _ _⟩
        | succ dep =>
          obtain ⟨f2, y, t, hf2, hdr⟩ : ∃ f2 y t, f' = f2 + 1 ∧ l.drop k = y :: t := by
            have := HK.out.1
            cases f' with
            | zero => cases this
            | succ f2 =>
              cases h : l.drop k with
              | nil => rw [h] at this; cases this
              | cons y t => exact ⟨f2, y, t, rfl, rfl⟩
          subst hf2
          obtain ⟨hlt, b, o, hbo, e2⟩ := hA.head hdr
          cases hbo
          obtain ⟨_, _, hd2⟩ := drop_at hdr
          have hs := HK.out.1
          have hsum := HK.out.2
          rw [hdr, dScan] at hs
          have hlt' : (k : Int) < l.length := by omega
          clear HK HD
          by_cases y34 : y = 34
          · rw [if_pos y34] at hs
            simp only [Option.bind_eq_some_iff, Option.map_eq_some_iff] at hs
            obtain ⟨n, hn, m2, hm2, rfl⟩ := hs
            have hle := sEnd_le _ t n (Nat.le_refl _) hn
            have hLt : (l.drop k).length = t.length + 1 := by rw [hdr]; rfl
            rw [List.length_drop] at hLt
            have hcall := stringEnd_any w (some ⟨b, o, none⟩) c k n l hA hlt (by rw [hd2]; exact hn)
            have HK' : Hid (dScan f2 (dep + 1) (l.drop (k + 1 + n)) = some m2 ∧ (k + 1 + n) + m2 = i + 1 + m) := ⟨by rw [← List.drop_drop, hd2]; exact hm2, by omega⟩
            have t1 : ((y.toNat : Int) == 34) = true := byte_is y 34 (by decide) y34
            have hb1 : k + 1 + n ≤ l.length := by omega
            clear hm2 hn hdr hd2 hsum y34 hle hLt
            have hdp : (0 : Int) < ((dep + 1 : Nat) : Int) := by omega
            go_wp2_with fail
            refine hcall.mono ?_
            rintro e w' ⟨rfl, rfl⟩
            clear hcall
            generalize hN : k + 1 + n = N at *
            have hN1 : 1 ≤ N := by omega
            have HNN : Hid (k + 1 + n = N) := hN
            clear hN
            have hN2 : (1 : Int) ≤ N := by omega
            go_wp2
            go_round
            case rel => exact ⟨N, dep + 1, f2, m2, by omega, by have := HNN.out; omega, by have := HNN.out; omega, by go_num, by simp, HK'⟩
            case measure => have := HNN.out; simp [intOf]; omega
          · rw [if_neg y34] at hs
            have t1 : ((y.toNat : Int) == 34) = false := byte_ne y 34 (by decide) y34
            have hdp : (0 : Int) < ((dep + 1 : Nat) : Int) := by omega
            by_cases yo : y = 123 ∨ y = 91
            · rw [if_pos yo] at hs
              simp only [Option.map_eq_some_iff] at hs
              obtain ⟨m2, hm2, rfl⟩ := hs
              have HK' : Hid (dScan f2 (dep + 2) (l.drop (k + 1)) = some m2 ∧ (k + 1) + m2 = i + 1 + m) := ⟨by rw [hd2]; exact hm2, by omega⟩
              clear hm2 hdr hd2 hsum y34
              rcases yo with rfl | rfl
              all_goals
                clear t1
                go_wp2
                go_round
                case rel => exact ⟨k + 1, dep + 2, f2, m2, by omega, by omega, by omega, by go_num, by simp; omega, HK'⟩
                case measure => simp [intOf]; omega
            · rw [if_neg yo] at hs
              have t2 : ((y.toNat : Int) == 123) = false := byte_ne y 123 (by decide) (fun h => yo (Or.inl h))
              have t3 : ((y.toNat : Int) == 91) = false := byte_ne y 91 (by decide) (fun h => yo (Or.inr h))
              by_cases yc : y = 125 ∨ y = 93
              · rw [if_pos yc] at hs
                simp only [Option.map_eq_some_iff] at hs
                obtain ⟨m2, hm2, rfl⟩ := hs
                have HK' : Hid (dScan f2 dep (l.drop (k + 1)) = some m2 ∧ (k + 1) + m2 = i + 1 + m) := ⟨by rw [hd2]; exact hm2, by omega⟩
                clear hm2 hdr hd2 hsum y34 yo
                rcases yc with rfl | rfl
                all_goals
                  clear t1 t2 t3
                  go_wp2
                  go_round
                  case rel => exact ⟨k + 1, dep, f2, m2, by omega, by omega, by omega, by go_num, by simp, HK'⟩
                  case measure => simp [intOf]; omega
              · rw [if_neg yc] at hs
                have t4 : ((y.toNat : Int) == 125) = false := byte_ne y 125 (by decide) (fun h => yc (Or.inl h))
                have t5 : ((y.toNat : Int) == 93) = false := byte_ne y 93 (by decide) (fun h => yc (Or.inr h))
                simp only [Option.map_eq_some_iff] at hs
                obtain ⟨m2, hm2, rfl⟩ := hs
                have HK' : Hid (dScan f2 (dep + 1) (l.drop (k + 1)) = some m2 ∧ (k + 1) + m2 = i + 1 + m) := ⟨by rw [hd2]; exact hm2, by omega⟩
                clear hm2 hdr hd2 hsum y34 yo yc
                go_wp2
                go_round
                case rel => exact ⟨k + 1, dep + 1, f2, m2, by omega, by omega, by omega, by go_num, by simp, HK'⟩
                case measure => simp [intOf]; omega
  rcases hx with rfl | rfl
  · exact main true rfl (fun h => by cases h)
  · exact main false rfl (fun _ => rfl)

theorem anyValue_any (w : World) (pa : Option Addr) (c i m : Nat) (l : List UInt8) (hA : BytesAt w pa c l) (hd : AV (l.drop i) m) :
    Calls Tryd.prog 20 #[.slice pa l.length c, .int .i64 i] w (PvalPost ((l.drop i).take m) i w) := by
  rcases hd with ⟨r, m', h1, h2, rfl⟩ | ⟨x, r, f, m', h1, h2, h3, rfl⟩ | ⟨x, p, d, r, h1, h2, h3, ⟨h4, h5, h6⟩, rfl⟩
  · exact anyValue_string w pa c i m' l r hA h1 h2
  · exact anyValue_bracket w pa c i m' f l r x hA h1 h2 h3
  · have := anyValue_word w pa c i l p r x d hA h1 h2 h3 h4 h5 h6
    have e : (l.drop i).take (p.length + 1) = x :: p := by
      rw [h1, show p.length + 1 = (x :: p).length from rfl, List.take_left]
    rw [e]
    exact this

set_option maxHeartbeats 400000 in
theorem zzAnyValue_any (w : World) (pa : Option Addr) (c i m : Nat) (l : List UInt8) (hA : BytesAt w pa c l) (hd : AV (l.drop i) m) :
    Calls Tryd.prog 9 #[.slice pa l.length c, .int .i64 i] w (PvalPost ((l.drop i).take m) i w) := by
  have hcall := anyValue_any w pa c i m l hA hd
  clear hA hd
  generalize (l.drop i).take m = v at *
  go_enter Tryd.func9, Tryd.ntmps9
  go_wp2_with fail
  refine hcall.mono ?_
  rintro e w' ⟨pr, cr, rfl, h1, h2⟩
  have H1 : Hid (BytesAt w' pr cr v) := h1
  clear h1
  go_wp2
  go_ret2
  exact ⟨pr, cr, ret_pair rfl (by simp), H1.out, h2⟩

/-- A plain value before a delimiter is what anyValue reads. -/
theorem av_of_pv {v r : List UInt8} {d : UInt8} (hv : PV v) (hd : isDelim d = true) : AV (v ++ d :: r) v.length := by
  have dig : ∀ {t : List UInt8}, t.all isDig = true → t.all inWord = true := by
    intro t ht
    rw [List.all_eq_true] at ht ⊢
    intro x hx
    have h1 := ht x hx
    unfold isDig at h1
    unfold inWord isDelim
    simp only [Bool.and_eq_true, decide_eq_true_eq] at h1
    simp
    omega
  rcases hv with ⟨u, rfl, hu⟩ | rfl | ⟨x, t, rfl, hx, ht⟩ | rfl | rfl | rfl
  · left
    exact ⟨u ++ 34 :: (d :: r), u.length + 1, by simp, sEnd_plain u (d :: r) hu, by simp⟩
  · right; right
    exact ⟨48, [], d, r, rfl, by decide, hd, by decide, rfl⟩
  · right; right
    refine ⟨x, t, d, r, rfl, ?_, hd, ⟨?_, ?_, ?_⟩, rfl⟩
    · refine dig ?_
      rw [List.all_cons, ht, Bool.and_true]
      unfold isDig
      simp; omega
    all_goals (rintro rfl; revert hx; decide)
  · right; right
    exact ⟨116, [114, 117, 101], d, r, rfl, by decide, hd, by decide, rfl⟩
  · right; right
    exact ⟨102, [97, 108, 115, 101], d, r, rfl, by decide, hd, by decide, rfl⟩
  · right; right
    exact ⟨110, [117, 108, 108], d, r, rfl, by decide, hd, by decide, rfl⟩
end Go.Proofs.Qxb6000022aDoor
