import Derived.Test.Qxb6000022aDoorRows
import Derived.Test.Qxb6000022aDoorPval
import Derived.ProofKit
import Derived.LaidMore
import Derived.OpenShut
set_option linter.unusedSimpArgs false
set_option linter.unusedVariables false
namespace Go.Proofs.Qxb6000022aDoor
open Go.ChangeShapes Go.WideShapes Go.ChangeAt Go.WideMaps Go.WideElems Go.RowKit

theorem Tryd.own : ownKnob Tryd.prog.godebug = none := by kernel_rfl
theorem Tryd.laidOut : laidOutB Tryd.prog = true := by kernel_rfl

theorem byte_of {z : Int} (h : (Lit.int .u8 z).wf = true) : ∃ d : UInt8, z = (d.toNat : Int) := by
  have hz : 0 ≤ z ∧ z < 256 := by
    have h' : (decide ((0 : Int) ≤ z) && decide (z ≤ 255)) = true := h
    simp only [Bool.and_eq_true, decide_eq_true_eq] at h'
    omega
  refine ⟨z.toNat.toUInt8, ?_⟩
  simp
  omega

theorem open_bytes {H : Type} {enc : TypeId × Value → H} {W : World} {pa : Option Addr} {len cap : Nat} {d : DataW H} {ps : List MemPlace}
    (h : DataW.Trod enc Tryd.prog W 0 (fun _ => true) true 22 (.slice pa len cap) d ps) : ∃ l : List UInt8, l.length = len ∧ BytesAt W pa cap l ∧ (pa = none → l = [] ∧ cap = 0) := by
  obtain ⟨fuel, hf⟩ := h
  rcases open_ints Tryd.underlying22 Tryd.underlying5 (by kernel_rfl) hf with ⟨hcs, _⟩ | ⟨x, l, c, zs, hcs, _, hl, hm, hz, _, hcell, hwz⟩
  · simp [Value.cells] at hcs
    obtain ⟨rfl, rfl, rfl⟩ := hcs
    exact ⟨[], rfl, ⟨Nat.le_refl _, Nat.zero_le _, fun h => absurd rfl h⟩, fun _ => ⟨rfl, rfl⟩⟩
  · simp [Value.cells] at hcs
    obtain ⟨rfl, rfl, rfl⟩ := hcs
    have hz' : zs.length = cap := by simpa using hz
    refine ⟨(zs.take len).map (fun z => z.toNat.toUInt8), by simp; omega, ⟨by simp; omega, hm, fun hL => ?_⟩, fun h => by cases h⟩
    have hpos : 0 < len := by
      rcases Nat.eq_zero_or_pos len with h0 | h0
      · subst h0; exact absurd rfl hL
      · exact h0
    obtain ⟨b, off, spot⟩ := x
    have hc := hcell 0 (by omega)
    have hspot : spot = none := by simpa [Addr.add] using World.cell?_spot hc
    subst hspot
    refine ⟨b, off, rfl, ?_, fun i x hx => ?_⟩
    · have := World.block_lt_of_cell? _ _ hc
      rw [addr_add] at this
      exact this
    · have hi : i < len := by
        have := (List.getElem?_eq_some_iff.1 hx).1
        simp at this
        omega
      have hcc := hcell i (by omega)
      rw [addr_add] at hcc
      rw [hcc]
      rw [List.getElem?_map, List.getElem?_take, if_pos hi, List.getElem?_eq_getElem (by omega)] at hx
      have hx' := Option.some.inj hx
      have hmem : zs[i] ∈ zs := List.getElem_mem _
      obtain ⟨e, he⟩ := byte_of (hwz _ hmem)
      rw [List.getD_eq_getElem?_getD, List.getElem?_eq_getElem (by omega), Option.getD_some, ← hx', he]
      simp
end Go.Proofs.Qxb6000022aDoor
