import Derived.Test.Qxb6604528aDoorPlain2
import Derived.Test.Qxb6604528aDoorSizes
set_option linter.unusedSimpArgs false
set_option linter.unusedVariables false
namespace Go.Proofs.Qxb6604528aDoor
open Go.RowKit

theorem all_upto (p : UInt8 → Bool) (s : ByteArray) (k : Nat) (h : ¬ k < s.size) (ha : (s.data.toList.take k).all p = true) : s.data.toList.all p = true := by
  rw [List.take_of_length_le (by simp; have : s.data.size = s.size := rfl; omega)] at ha
  exact ha
theorem all_not (p : UInt8 → Bool) (s : ByteArray) (k : Nat) (h : k < s.size) (hp : p s[k] = false) : s.data.toList.all p = false := by
  rw [Bool.eq_false_iff]
  intro ha
  have := List.all_eq_true.1 ha s[k] (Array.getElem_mem_toList _)
  rw [hp] at this
  cases this

set_option maxHeartbeats 400000 in
theorem allDigits_any (s : ByteArray) (w : World) (hs : s.size ≤ maxLen) :
    Calls Tryd.prog 19 #[.string s] w fun e w' => e = .returned (.bool (Pl.allDig s.data.toList)) ∧ w' = w := by
  unfold maxLen at hs
  generalize hr : Pl.allDig s.data.toList = res
  have HR : Hid (Pl.allDig s.data.toList = res) := hr
  clear hr
  go_enter Tryd.func19, Tryd.ntmps19
  go_wp2
  go_loop [3] (fun i => ∃ k : Nat, k ≤ s.size ∧ i = .int .i64 k ∧ (s.data.toList.take k).all Pl.isDig = true) (fun i => s.size - (intOf i).toNat)
  case atStart => exact ⟨0, Nat.zero_le _, rfl, rfl⟩
  case round =>
    obtain ⟨k, hk, rfl, hall⟩ := hrel
    have HA : Hid ((s.data.toList.take k).all Pl.isDig = true) := hall
    clear hall
    by_cases hlt : k < s.size
    · by_cases hd : 48 ≤ (s[k].toNat : Int) ∧ (s[k].toNat : Int) ≤ 57
      · obtain ⟨hd1, hd2⟩ := hd
        go_wp2
        go_round
        case rel => exact ⟨k + 1, by omega, by go_num, by rw [take_snoc s k hlt, List.all_append, HA]; simp [(isDig_iff s[k]).2 ⟨hd1, hd2⟩]⟩
        case measure => simp [intOf]; omega
      · have hf := all_not Pl.isDig s k hlt (isDig_no s[k] (by omega))
        have HF : Hid (res = false) := by rw [← HR.out]; exact hf
        have hd' : (s[k].toNat : Int) < 48 ∨ 57 < (s[k].toNat : Int) := by omega
        clear hf hd
        go_wp2
        all_goals first | (exfalso; omega) | (go_ret; exact ⟨by rw [HF.out]; rfl, rfl⟩)
    · have hf := all_upto Pl.isDig s k hlt HA
      have HF : Hid (res = true) := by rw [← HR.out]; exact hf
      clear hf
      go_wp2
      go_ret
      exact ⟨by rw [HF.out]; rfl, rfl⟩

set_option maxHeartbeats 400000 in
theorem digitsDots_any (s : ByteArray) (w : World) (hs : s.size ≤ maxLen) :
    Calls Tryd.prog 9 #[.string s] w fun e w' => e = .returned (.bool (Pl.digDots s.data.toList)) ∧ w' = w := by
  unfold maxLen at hs
  generalize hr : Pl.digDots s.data.toList = res
  have HR : Hid (Pl.digDots s.data.toList = res) := hr
  clear hr
  go_enter Tryd.func9, Tryd.ntmps9
  go_wp2
  go_loop [3] (fun i => ∃ k : Nat, k ≤ s.size ∧ i = .int .i64 k ∧ (s.data.toList.take k).all (fun c => c == 46 || Pl.isDig c) = true) (fun i => s.size - (intOf i).toNat)
  case atStart => exact ⟨0, Nat.zero_le _, rfl, rfl⟩
  case round =>
    obtain ⟨k, hk, rfl, hall⟩ := hrel
    have HA : Hid ((s.data.toList.take k).all (fun c => c == 46 || Pl.isDig c) = true) := hall
    clear hall
    by_cases hlt : k < s.size
    · have next : (s[k] == 46 || Pl.isDig s[k]) = true → (s.data.toList.take (k + 1)).all (fun c => c == 46 || Pl.isDig c) = true := by
        intro h
        rw [take_snoc s k hlt, List.all_append, HA.out]
        simpa using h
      have NEXT : Hid ((s[k] == 46 || Pl.isDig s[k]) = true → (s.data.toList.take (k + 1)).all (fun c => c == 46 || Pl.isDig c) = true) := next
      clear next
      by_cases h46 : s[k] = 46
      · have hb : ((s[k].toNat : Int) != 46) = false := by rw [h46]; rfl
        have H46 : Hid (s[k] = 46) := h46
        clear h46
        go_wp2
        go_round
        case rel => exact ⟨k + 1, by omega, by go_num, NEXT.out (by rw [H46.out]; rfl)⟩
        case measure => simp [intOf]; omega
      · have hb : ((s[k].toNat : Int) != 46) = true := by
          rw [bne_iff_ne]; intro h; exact h46 ((byte_eq _ 46 (by decide)).1 (by rw [beq_iff_eq]; exact h))
        have H46 : Hid (¬ s[k] = 46) := h46
        clear h46
        by_cases hd : 48 ≤ (s[k].toNat : Int) ∧ (s[k].toNat : Int) ≤ 57
        · obtain ⟨hd1, hd2⟩ := hd
          go_wp2
          go_round
          case rel => exact ⟨k + 1, by omega, by go_num, NEXT.out (by rw [(isDig_iff s[k]).2 ⟨hd1, hd2⟩, Bool.or_true])⟩
          case measure => simp [intOf]; omega
        · have hf := all_not (fun c => c == 46 || Pl.isDig c) s k hlt (by rw [isDig_no s[k] (by omega), Bool.or_false]; simpa using H46.out)
          have HF : Hid (res = false) := by rw [← HR.out]; exact hf
          have hd' : (s[k].toNat : Int) < 48 ∨ 57 < (s[k].toNat : Int) := by omega
          clear hf hd
          go_wp2
          all_goals first | (exfalso; omega) | (go_ret; exact ⟨by rw [HF.out]; rfl, rfl⟩)
    · have hf := all_upto _ s k hlt HA
      have HF : Hid (res = true) := by rw [← HR.out]; exact hf
      clear hf
      go_wp2
      go_ret
      exact ⟨by rw [HF.out]; rfl, rfl⟩

set_option maxHeartbeats 400000 in
theorem piece_any (s : ByteArray) (r : Bool) (w : World) (hs : s.size ≤ maxLen) :
    Calls Tryd.prog 25 #[.string s, .bool r] w fun e w' => e = .returned (.agg #[.string s, .bool (r || Pl.allDig s.data.toList)]) ∧ Below w.heap.size w w' := by
  generalize hd : Pl.allDig s.data.toList = d
  have h19 := allDigits_any s
  rw [hd] at h19
  clear hd
  cases r
  · go_enter Tryd.func25, Tryd.ntmps25
    go_wp2_with (go_at_call 19; refine (h19 _ hs).mono ?_; rintro e w' ⟨rfl, rfl⟩)
    exact bodyPost_ret (v := .agg #[.string s, .bool d]) (by simp [results, Tryd.results25, go_sem]) rfl ⟨rfl, (Below.refl _ _).alloc (Nat.le_refl _) _⟩
  · go_enter Tryd.func25, Tryd.ntmps25
    go_wp2
    exact bodyPost_ret (v := .agg #[.string s, .bool true]) (by simp [results, Tryd.results25, go_sem]) rfl ⟨rfl, (Below.refl _ _).alloc (Nat.le_refl _) _⟩
end Go.Proofs.Qxb6604528aDoor
