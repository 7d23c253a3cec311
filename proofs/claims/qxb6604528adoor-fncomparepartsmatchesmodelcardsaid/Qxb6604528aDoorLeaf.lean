import Derived.Test.Qxb6604528aDoorProg
import Derived.Test.Qxb6604528aDoorPlain
import Derived.WalkKit
import Derived.WalkSpells
import Derived.WalkLawsBesides
import Derived.Deep.QuietTactic
import Derived.BigQuiet
set_option linter.unusedSimpArgs false
set_option linter.unusedVariables false
namespace Go.Proofs.Qxb6604528aDoor
open Go.RowKit

theorem take_snoc (s : ByteArray) (k : Nat) (h : k < s.size) : s.data.toList.take (k + 1) = s.data.toList.take k ++ [s[k]] := by
  rw [List.take_succ_eq_append_getElem (by simpa using h)]; rfl
theorem byte_eq (a : UInt8) (n : Nat) (hn : n < 256) : (((a.toNat : Int) == (n : Int)) = true) ↔ a = n.toUInt8 := by
  rw [beq_iff_eq, ← UInt8.toNat_inj]
  simp
  omega

theorem cut_hit' (s : ByteArray) (k : Nat) (h : k < s.size) (ha : (s.data.toList.take k).all (· != 46) = true) (hc : s[k] = 46) :
    (s.extract 0 k).data.toList = Pl.cutB s.data.toList ∧ (s.extract (k + 1) s.size).data.toList = Pl.cutA s.data.toList := by
  have := Pl.cut_hit s.data.toList k (by simpa using h) ha hc
  rw [Lib.extract_to_end, Lib.extract_data]
  simpa using this

def CutPost (s : ByteArray) (w : World) (e : Ending) (w' : World) : Prop :=
  ∃ a b : ByteArray, ∃ f : Bool, e = .returned (.tuple #[.string a, .string b, .bool f]) ∧ a.data.toList = Pl.cutB s.data.toList ∧ b.data.toList = Pl.cutA s.data.toList ∧ ∃ n, w' = w.drewN n

set_option maxHeartbeats 400000 in
theorem cut_any (s : ByteArray) (w : World) (hs : s.size ≤ maxLen) :
    Calls Tryd.prog 43 #[.string s, .int .u8 46] w (CutPost s w) := by
  unfold maxLen at hs
  go_enter Tryd.func43, Tryd.ntmps43
  go_wp2
  go_loop [10] (fun i => ∃ k : Nat, k ≤ s.size ∧ i = .int .i64 k ∧ (s.data.toList.take k).all (· != 46) = true) (fun i => s.size - (intOf i).toNat)
  case atStart => exact ⟨0, Nat.zero_le _, rfl, rfl⟩
  case round =>
    obtain ⟨k, hk, rfl, hall⟩ := hrel
    have HA : Hid ((s.data.toList.take k).all (· != 46) = true) := hall
    clear hall
    by_cases hlt : k < s.size
    · by_cases hc : s[k] = 46
      · have hb : ((s[k].toNat : Int) == 46) = true := by rw [hc]; rfl
        have HC : Hid (s[k] = 46) := hc
        clear hc
        have h1 : (k : Int) + 1 ≤ s.size := by omega
        go_wp2
        go_quiet (fail)
        go_wp2
        go_ret3
        have := cut_hit' s k hlt HA HC
        exact ⟨_, _, _, rfl, this.1, this.2, _, rfl⟩
      · have hb : ((s[k].toNat : Int) == 46) = false := by
          rw [Bool.eq_false_iff]; exact fun h => hc ((byte_eq _ 46 (by decide)).1 h)
        have HC : Hid (s[k] ≠ 46) := hc
        clear hc
        go_wp2
        go_round
        case rel => exact ⟨k + 1, by omega, by go_num, by rw [take_snoc s k hlt, List.all_append, HA]; exact by simpa using (show ¬ s[k] = 46 from HC)⟩
        case measure => simp [intOf]; omega
    · go_wp2
      go_ret3
      have hk' : k = s.size := by omega
      have HA' : s.data.toList.all (· != 46) = true := by
        rw [← HA, List.take_of_length_le (by simp; omega)]
      have := Pl.cut_miss _ HA'
      exact ⟨_, _, _, rfl, this.1, this.2, 0, rfl⟩

theorem digitsEnd_full (s : ByteArray) (k : Nat) (hk : k ≤ s.size) (ha : (s.data.toList.take k).all Pl.isDig = true) (hstop : ∀ h : k < s.size, Pl.isDig s[k] = false) :
    ((k : Int) == (s.size : Int)) = Pl.allDig s.data.toList := by
  rw [Bool.eq_iff_iff]
  by_cases h : k < s.size
  · have h2 := hstop h
    constructor
    · intro h3; simp at h3; omega
    · intro h3
      have := List.all_eq_true.1 h3 s[k] (by exact Array.getElem_mem_toList _)
      rw [h2] at this; cases this
  · have hk' : k = s.size := by omega
    rw [List.take_of_length_le (by simp; omega)] at ha
    constructor
    · intro _; exact ha
    · intro _; simp; omega

theorem isDig_iff (c : UInt8) : Pl.isDig c = true ↔ 48 ≤ (c.toNat : Int) ∧ (c.toNat : Int) ≤ 57 := by
  unfold Pl.isDig
  simp [UInt8.le_iff_toNat_le]
  omega
theorem isDig_no (c : UInt8) (h : (c.toNat : Int) < 48 ∨ 57 < (c.toNat : Int)) : Pl.isDig c = false := by
  rw [Bool.eq_false_iff, Ne, isDig_iff]
  omega

set_option maxHeartbeats 400000 in
theorem digitsEnd_any (s : ByteArray) (w : World) (hs : s.size ≤ maxLen) :
    Calls Tryd.prog 44 #[.string s] w fun e w' => ∃ k : Int, e = .returned (.int .i64 k) ∧ (k == (s.size : Int)) = Pl.allDig s.data.toList ∧ w' = w := by
  unfold maxLen at hs
  go_enter Tryd.func44, Tryd.ntmps44
  go_wp2
  go_loop [3] (fun i => ∃ k : Nat, k ≤ s.size ∧ i = .int .i64 k ∧ (s.data.toList.take k).all Pl.isDig = true) (fun i => s.size - (intOf i).toNat)
  case atStart => exact ⟨0, Nat.zero_le _, rfl, rfl⟩
  case round =>
    obtain ⟨k, hk, rfl, hall⟩ := hrel
    have HA : Hid ((s.data.toList.take k).all Pl.isDig = true) := hall
    clear hall
    by_cases hlt : k < s.size
    · by_cases hd : 48 ≤ (s[k].toNat : Int) ∧ (s[k].toNat : Int) ≤ 57
      · obtain ⟨hd1, hd2⟩ := hd
        go_wp2
        go_round
        case rel => exact ⟨k + 1, by omega, by go_num, by rw [take_snoc s k hlt, List.all_append, HA]; simp [(isDig_iff s[k]).2 ⟨hd1, hd2⟩]⟩
        case measure => simp [intOf]; omega
      · have hf := digitsEnd_full s k hk HA (fun _ => isDig_no s[k] (by omega))
        have HF : Hid (((k : Int) == (s.size : Int)) = Pl.allDig s.data.toList) := hf
        have hd' : (s[k].toNat : Int) < 48 ∨ 57 < (s[k].toNat : Int) := by omega
        clear hf hd
        go_wp2
        all_goals first | (exfalso; omega) | (go_ret; exact ⟨_, rfl, HF, rfl⟩)
    · have hf := digitsEnd_full s k hk HA (fun h => absurd h hlt)
      have HF : Hid (((k : Int) == (s.size : Int)) = Pl.allDig s.data.toList) := hf
      clear hf
      go_wp2
      go_ret
      exact ⟨_, rfl, HF, rfl⟩
end Go.Proofs.Qxb6604528aDoor
