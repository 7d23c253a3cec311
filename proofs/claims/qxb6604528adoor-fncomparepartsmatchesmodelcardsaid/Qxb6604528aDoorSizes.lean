import Derived.Test.Qxb6604528aDoorTo
set_option linter.unusedSimpArgs false
set_option linter.unusedVariables false
namespace Go.Proofs.Qxb6604528aDoor
open Go.RowKit

def SomeInt (w : World) (e : Ending) (w' : World) : Prop := ∃ v : Int, e = .returned (.int .i64 v) ∧ w' = w
def SomeBool (w : World) (e : Ending) (w' : World) : Prop := ∃ v : Bool, e = .returned (.bool v) ∧ w' = w

/-- The k-th part of a list that came in. -/
theorem PartsAt.at {w : World} {pa : Option Addr} {c k : Nat} {L : List (ByteArray × Bool)} (h : PartsAt w pa c L) (hk : k < L.length) :
    ∃ b o x y, L[k]? = some (x, y) ∧ pa = some ⟨b, o, none⟩ ∧ w.cell? ⟨b, o + k * 2, none⟩ = some (.string x) ∧ w.cell? ⟨b, o + k * 2 + 1, none⟩ = some (.bool y) := by
  obtain ⟨_, _, h3⟩ := h
  obtain ⟨b, o, rfl, _, hc⟩ := h3 (by intro e; rw [e] at hk; cases hk)
  have := hc k L[k] (List.getElem?_eq_getElem hk)
  rw [Nat.mul_comm 2 k] at this
  exact ⟨b, o, L[k].1, L[k].2, List.getElem?_eq_getElem hk, rfl, this.1, this.2⟩

set_option maxHeartbeats 400000 in
theorem partsBytes_any (w : World) (pa : Option Addr) (c : Nat) (L : List (ByteArray × Bool)) (hP : PartsAt w pa c L) (hn : L.length ≤ 65536) :
    Calls Tryd.prog 7 #[.slice pa L.length c] w (SomeInt w) := by
  go_enter Tryd.func7, Tryd.ntmps7
  go_wp2
  go_loop [3, 4] (fun t i => ∃ (v : Int) (k : Nat), k ≤ L.length ∧ i = .int .i64 k ∧ t = .int .i64 v) (fun _ i => L.length - (intOf i).toNat)
  case atStart => exact ⟨0, 0, Nat.zero_le _, rfl, rfl⟩
  case round =>
    obtain ⟨v, k, hk, rfl, rfl⟩ := hrel
    by_cases hlt : k < L.length
    · obtain ⟨b, o, x, y, hx, rfl, e0, e1⟩ := hP.at hlt
      clear hx e1 hP
      go_wp2
      all_goals first
        | (go_ret; exact ⟨_, rfl, rfl⟩)
        | (go_round
           case rel => exact ⟨_, k + 1, by omega, by go_num, rfl⟩
           case measure => simp [intOf]; omega)
    · go_wp2
      go_ret
      exact ⟨_, rfl, rfl⟩

set_option maxHeartbeats 400000 in
theorem bytes14_any (w : World) (pa : Option Addr) (c : Nat) (L : List (ByteArray × Bool)) (t : ByteArray) (r : Bool) (hP : PartsAt w pa c L) (hL : L.length ≤ maxLen) :
    Calls Tryd.prog 14 #[.slice pa L.length c, .string t, .bool r] w (SomeBool w) := by
  unfold maxLen at hL
  by_cases hn : L.length ≤ 1048576
  · go_enter Tryd.func14, Tryd.ntmps14
    go_wp2
    go_loop [7, 8] (fun t i => ∃ (v : Int) (k : Nat), k ≤ L.length ∧ i = .int .i64 k ∧ t = .int .i64 v) (fun _ i => L.length - (intOf i).toNat)
    case atStart => exact ⟨_, 0, Nat.zero_le _, rfl, rfl⟩
    case round =>
      obtain ⟨v, k, hk, rfl, rfl⟩ := hrel
      by_cases hlt : k < L.length
      · obtain ⟨b, o, x, y, hx, rfl, e0, e1⟩ := hP.at hlt
        clear hx e1 hP
        go_wp2
        all_goals first
          | (go_ret; exact ⟨_, rfl, rfl⟩)
          | (go_round
             case rel => exact ⟨_, k + 1, by omega, by go_num, rfl⟩
             case measure => simp [intOf]; omega)
      · go_wp2
        all_goals (go_ret; exact ⟨_, rfl, rfl⟩)
  · go_enter Tryd.func14, Tryd.ntmps14
    go_wp2
    go_ret
    exact ⟨_, rfl, rfl⟩

end Go.Proofs.Qxb6604528aDoor
