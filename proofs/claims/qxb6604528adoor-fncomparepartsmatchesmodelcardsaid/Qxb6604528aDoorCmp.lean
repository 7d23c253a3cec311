import Derived.Test.Qxb6604528aDoorShelf
import Derived.Test.Qxb6604528aDoorLeaf
import Derived.Deep.RegionHeld3
set_option linter.unusedSimpArgs false
set_option linter.unusedVariables false
namespace Go.Proofs.Qxb6604528aDoor
open Go.RowKit

set_option maxHeartbeats 400000 in
theorem or_any (b : Nat) (x y : Int) (w : World) (h0 : w.cell? ⟨b, 0, none⟩ = some (.int .i64 x)) (h1 : w.cell? ⟨b, 1, none⟩ = some (.int .i64 y)) :
    Calls Tryd.prog 40 #[.slice (some ⟨b, 0, none⟩) 2 2] w fun e w' => e = .returned (.int .i64 (Pl.orInt x y)) ∧ w' = w := by
  unfold Pl.orInt
  by_cases hx : x = 0
  · subst hx
    by_cases hy : y = 0
    · subst hy
      go_enter Tryd.func40, Tryd.ntmps40
      go_wp2
      go_loop [8] (fun i => i = .int .i64 0 ∨ i = .int .i64 1 ∨ i = .int .i64 2) (fun i => 2 - (intOf i).toNat)
      case atStart => exact .inl rfl
      case round =>
        rcases hrel with rfl | rfl | rfl
        · go_wp2
          go_round
          case rel => exact .inr (.inl rfl)
          case measure => simp [intOf]
        · go_wp2
          go_round
          case rel => exact .inr (.inr rfl)
          case measure => simp [intOf]
        · go_wp2
          go_ret
          exact ⟨rfl, rfl⟩
    · have hy' : (y != 0) = true := by simpa using hy
      go_enter Tryd.func40, Tryd.ntmps40
      go_wp2
      go_loop [8] (fun i => i = .int .i64 0 ∨ i = .int .i64 1) (fun i => 2 - (intOf i).toNat)
      case atStart => exact .inl rfl
      case round =>
        rcases hrel with rfl | rfl
        · go_wp2
          go_round
          case rel => exact .inr rfl
          case measure => simp [intOf]
        · go_wp2
          go_ret
          exact ⟨rfl, rfl⟩
  · have hx' : (x != 0) = true := by simpa using hx
    go_enter Tryd.func40, Tryd.ntmps40
    go_wp2
    go_loop [8] (fun i => i = .int .i64 0) (fun i => 2 - (intOf i).toNat)
    case atStart => rfl
    case round =>
      subst hrel
      go_wp2
      go_ret
      exact ⟨by simp [hx], rfl⟩


theorem cmpInt_any (x y : Int) (w : World) : Calls Tryd.prog 41 #[.int .i64 x, .int .i64 y] w fun e w' => e = .returned (.int .i64 (Lib.compareInt x y)) ∧ w' = w := Any.cmp_Compare_int Tryd.lays122 x y w

theorem cmpPart_tt (a b : ByteArray) : Pl.cmpPart (a.data.toList, true) (b.data.toList, true) = Pl.orInt (Lib.compareInt a.size b.size) (Lib.compareBytes a.data.toList b.data.toList) := by
  simp only [Pl.cmpPart, Lib.size_eq]
  rfl

set_option maxHeartbeats 1000000 in
theorem comparePart_any (a b : ByteArray) (x y : Bool) (w : World) :
    Calls Tryd.prog 30 #[.agg #[.string a, .bool x], .agg #[.string b, .bool y]] w fun e w' => e = .returned (.int .i64 (Pl.cmpPart (a.data.toList, x) (b.data.toList, y))) ∧ Below w.heap.size w w' := by
  cases x <;> cases y
  · go_enter Tryd.func30, Tryd.ntmps30
    go_wp2_with (go_at_call 42; refine (Tryd.Compare_any _ _ _).mono ?_; rintro e w' ⟨rfl, rfl⟩)
    go_ret
    exact ⟨rfl, ((Below.refl _ _).alloc (Nat.le_refl _) _).alloc (by simp) _⟩
  · go_enter Tryd.func30, Tryd.ntmps30
    go_wp2
    go_ret
    exact ⟨rfl, ((Below.refl _ _).alloc (Nat.le_refl _) _).alloc (by simp) _⟩
  · go_enter Tryd.func30, Tryd.ntmps30
    go_wp2
    go_ret
    exact ⟨rfl, ((Below.refl _ _).alloc (Nat.le_refl _) _).alloc (by simp) _⟩
  · go_enter Tryd.func30, Tryd.ntmps30
    go_wp2
    go_region_held3 (fun w' => w'.cell? ⟨w.heap.size, 0, none⟩ = some (.string a) ∧ w'.cell? ⟨w.heap.size + 1, 0, none⟩ = some (.string b)) (go_keep) (first | (go_at_call 42; refine (Tryd.Compare_any _ _ _).mono ?_; rintro e w' ⟨rfl, rfl⟩) | (go_at_call 41; refine (cmpInt_any _ _ _).mono ?_; rintro e w' ⟨rfl, rfl⟩) | (go_at_call 40; refine (or_any _ (Lib.compareInt a.size b.size) (Lib.compareBytes a.data.toList b.data.toList) _ (by go_simp) (by go_simp)).mono ?_; rintro e w' ⟨rfl, rfl⟩))
    go_wp2
    go_ret
    refine ⟨?_, ((((Below.refl _ _).alloc (Nat.le_refl _) _).alloc (by simp) _).alloc (by simp; omega) _).drew⟩
    rw [cmpPart_tt]
    rfl

end Go.Proofs.Qxb6604528aDoor
