import Derived.Test.Qxb6000022aDoorBase
import Derived.Deep.OwnRows
set_option linter.unusedSimpArgs false
set_option linter.unusedVariables false
namespace Go.Proofs.Qxb6000022aDoor
open Go.RowKit

set_option maxHeartbeats 400000 in
theorem same_any (w : World) (pa pb : Option Addr) (ca cb : Nat) (l : List UInt8) (hA : BytesAt w pa ca l) (hB : BytesAt w pb cb l) :
    Calls Tryd.prog 10 #[.slice pa l.length ca, .slice pb l.length cb] w fun e w' => e = .returned (.bool true) ∧ Below w.heap.size w w' := by
  have hl : l.length ≤ maxLen := Nat.le_trans hA.1 hA.2.1
  unfold maxLen at hl
  go_enter Tryd.func10, Tryd.ntmps10
  go_wp2
  go_loopw [5] (fun i wr => ∃ k : Nat, k ≤ l.length ∧ i = .int .i64 k ∧ Below w.heap.size w wr) (fun i _ => l.length - (intOf i).toNat)
  case atStart => exact ⟨0, Nat.zero_le _, rfl, Below.refl _ _⟩
  case round =>
    obtain ⟨k, hk, rfl, hbel⟩ := hrel
    by_cases hlt : k < l.length
    · obtain ⟨b1, o1, rfl, e1⟩ := (hA.below hbel).at hlt
      obtain ⟨b2, o2, rfl, e2⟩ := (hB.below hbel).at hlt
      have hlt' : (k : Int) < l.length := by omega
      go_wp2
      go_quiet (fail)
      go_wp2
      go_roundw
      case rel => exact ⟨k + 1, by omega, by go_num, below_drewN hbel _⟩
      case measure => simp [intOf]; omega
    · go_wp2
      go_ret
      exact ⟨rfl, hbel⟩

/-- A value that holds a new slice with these bytes. -/
def ClonePost (w : World) (l : List UInt8) (e : Ending) (w' : World) : Prop :=
  ∃ pb cb, e = .returned (.slice pb l.length cb) ∧ BytesAt w' pb cb l ∧ (pb = none → l = [] ∧ cb = 0) ∧ Below w.heap.size w w'

theorem info5 : (Tryd.prog.info? 5).map (fun i => (i.zero, i.size, i.bytes)) = some (some (.int .u8 0), 1, 1) := by kernel_rfl

def CloneRel (w : World) (l : List UInt8) (k : Nat) (wr : World) : Prop :=
  Below w.heap.size w wr ∧ w.heap.size < wr.heap.size ∧ (∀ j, wr.frozen? ⟨w.heap.size, j, none⟩ = false) ∧ (∀ j, j < l.length → (wr.cell? ⟨w.heap.size, j, none⟩).isSome = true) ∧
    (∀ j x, l[j]? = some x → j < k → wr.cell? ⟨w.heap.size, j, none⟩ = some (.int .u8 (x.toNat : Int)))

theorem CloneRel.step {w wr : World} {l : List UInt8} {k : Nat} (h : CloneRel w l k wr) (hk : k < l.length) : CloneRel w l (k + 1) (wr.setCell ⟨w.heap.size, k, none⟩ (.int .u8 (l[k].toNat : Int))) := by
  obtain ⟨h1, h2, h3, h4, h5⟩ := h
  have ne : ∀ i j : Nat, i ≠ j → (⟨w.heap.size, i, none⟩ : Addr) ≠ ⟨w.heap.size, j, none⟩ := fun i j hij e => hij (by injection e)
  obtain ⟨z, hz⟩ := Option.isSome_iff_exists.1 (h4 k hk)
  refine ⟨h1.setCell (Nat.le_refl _) _, by simpa [World.setCell] using h2, fun j => by rw [World.frozen?_setCell]; exact h3 j, fun j hj => ?_, fun j x hx hj => ?_⟩
  · by_cases e : k = j
    · subst e
      rw [World.cell?_setCell_same _ _ _ hz]; rfl
    · rw [World.cell?_setCell_other _ _ _ _ (ne _ _ e)]; exact h4 j hj
  · by_cases e : k = j
    · subst e
      rw [World.cell?_setCell_same _ _ _ hz]
      rw [List.getElem?_eq_getElem hk] at hx
      rw [Option.some.inj hx]
    · rw [World.cell?_setCell_other _ _ _ _ (ne _ _ e)]; exact h5 j x hx (by omega)

set_option maxHeartbeats 400000 in
theorem clone_any (w : World) (pa : Option Addr) (c : Nat) (l : List UInt8) (hA : BytesAt w pa c l) (hpa : pa = none → l = [] ∧ c = 0) (hn : l.length ≤ 1048576) :
    Calls Tryd.prog 8 #[.slice pa l.length c] w (ClonePost w l) := by
  have heql : ∀ w, (binOp .eql 22 (.slice pa l.length c) (.slice none 0 0)).run Tryd.prog w = .ok (.bool pa.isNone) w := fun w => Lib.run_eql_slice_nil w 22 5 _ _ _ _ _ Tryd.underlying22
  have hmk := run_make_row' (P := Tryd.prog) 22 5 (.int .u8 0) 1 Tryd.underlying22 info5 rfl .i64 .i64 l.length (by omega) (by omega)
  cases pa with
  | none =>
    obtain ⟨rfl, rfl⟩ := hpa rfl
    clear hmk
    simp only [Option.isNone_none, List.length_nil] at heql
    go_enter Tryd.func8, Tryd.ntmps8
    go_wp2
    go_ret
    exact ⟨none, 0, rfl, ⟨Nat.le_refl _, Nat.zero_le _, fun h => absurd rfl h⟩, fun _ => ⟨rfl, rfl⟩, Below.refl _ _⟩
  | some a =>
    simp only [Option.isNone_some] at heql
    have hst : CloneRel w l 0 (w.alloc (.cells (madeCells #[.int .u8 0] l.length) 5)) := by
      refine ⟨(Below.refl _ _).alloc (Nat.le_refl _) _, by simp, fun j => by go_simp, fun j hj => ?_, fun j x _ h => absurd h (Nat.not_lt_zero _)⟩
      have : j < (madeCells #[.int .u8 0] l.length).size := by rw [size_madeCells]; exact hj
      go_simp
    have HST : Hid (CloneRel w l 0 (w.alloc (.cells (madeCells #[.int .u8 0] l.length) 5))) := hst
    have HA : Hid (BytesAt w (some a) c l) := hA
    clear hst hA hpa
    go_enter Tryd.func8, Tryd.ntmps8
    go_wp2
    clear heql hmk
    go_loopw [4] (fun i wr => ∃ k : Nat, k ≤ l.length ∧ i = .int .i64 k ∧ Hid (CloneRel w l k wr)) (fun i _ => l.length - (intOf i).toNat)
    case atStart => exact ⟨0, Nat.zero_le _, rfl, HST⟩
    case round =>
      clear HST
      obtain ⟨k, hk, rfl, hrel⟩ := hrel
      by_cases hlt : k < l.length
      · obtain ⟨b, o, hb, e0⟩ := (HA.out.below hrel.out.1).at hlt
        cases hb
        obtain ⟨z, hz⟩ := Option.isSome_iff_exists.1 (hrel.out.2.2.2.1 k hlt)
        have f0 := hrel.out.2.2.1 k
        go_wp2
        go_roundw
        case rel => exact ⟨k + 1, by omega, by go_num, hrel.out.step hlt⟩
        case measure => simp [intOf]; omega
      · go_wp2
        go_ret
        obtain ⟨h1, h2, h3, h4, h5⟩ := hrel.out
        exact ⟨some ⟨w.heap.size, 0, none⟩, l.length, rfl, ⟨Nat.le_refl _, by unfold maxLen; omega, fun _ => ⟨_, _, rfl, h2, fun i x hx => by
          have hi : i < l.length := (List.getElem?_eq_some_iff.1 hx).1
          simpa using h5 i x hx (by omega)⟩⟩, fun h => (by cases h), h1⟩
end Go.Proofs.Qxb6000022aDoor
