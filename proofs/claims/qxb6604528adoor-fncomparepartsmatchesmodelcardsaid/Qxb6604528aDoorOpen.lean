import Derived.Test.Qxb6604528aDoorRows
import Derived.Test.Qxb6604528aDoorNext
import Derived.ProofKit
import Derived.LaidMore
import Derived.Deep.SlicePairs
set_option linter.unusedSimpArgs false
set_option linter.unusedVariables false
namespace Go.Proofs.Qxb6604528aDoor
open Go.ChangeShapes Go.WideShapes Go.ChangeAt Go.WideMaps Go.WideElems Go.RowKit

theorem Tryd.own : ownKnob Tryd.prog.godebug = none := by kernel_rfl
theorem Tryd.laidOut : laidOutB Tryd.prog = true := by kernel_rfl
theorem Tryd.cells47 : Tryd.prog.cellsOf 47 = 2 := by kernel_rfl
theorem Tryd.cells9 : Tryd.prog.cellsOf 9 = 1 := by kernel_rfl
theorem Tryd.cells4 : Tryd.prog.cellsOf 4 = 1 := by kernel_rfl

theorem open_parts {H : Type} {enc : TypeId × Value → H} {W : World} {pa : Option Addr} {len cap : Nat} {d : DataW H} {ps : List MemPlace}
    (h : DataW.Trod enc Tryd.prog W 0 (fun _ => true) true 22 (.slice pa len cap) d ps) : ∃ L : List (ByteArray × Bool), L.length = len ∧ PartsAt W pa cap L ∧ (pa = none → L = [] ∧ cap = 0) ∧ L.length ≤ maxLen := by
  obtain ⟨fuel, hf⟩ := h
  rcases Go.Deep.open_slice_pairs Tryd.underlying22 Tryd.underlying47 Tryd.cells47 rfl rfl Tryd.cells9 Tryd.cells4 hf with ⟨hcs, _⟩ | ⟨a, l, c, m, n, V0, V1, D0, D1, P0, P1, hcs, _, hl, hm, hmm, _, hcell⟩
  · simp [Value.cells] at hcs
    obtain ⟨rfl, rfl, rfl⟩ := hcs
    exact ⟨[], rfl, ⟨Nat.le_refl _, Nat.zero_le _, fun h => absurd rfl h⟩, fun _ => ⟨rfl, rfl⟩, Nat.zero_le _⟩
  · simp [Value.cells] at hcs
    obtain ⟨rfl, rfl, rfl⟩ := hcs
    simp only [if_true] at hmm
    subst hmm
    have each : ∀ i, i < len → ∃ x : ByteArray × Bool, W.cell? (a.add (i * 2)) = some (.string x.1) ∧ W.cell? (a.add (i * 2 + 1)) = some (.bool x.2) ∧ x.1.size ≤ maxLen := by
      intro i hi
      obtain ⟨c0, c1, t0, t1⟩ := hcell i (by omega)
      obtain ⟨s, es, _, hs⟩ := DataW.trod_string Tryd.underlying9 t0
      obtain ⟨b, eb, _⟩ := DataW.trod_bool Tryd.underlying4 t1
      rw [(List.cons.inj es).1] at c0
      rw [(List.cons.inj eb).1] at c1
      exact ⟨(s, b), c0, c1, hs⟩
    obtain ⟨f, hfx⟩ := Go.Deep.choose_lt (α := ByteArray × Bool) each
    refine ⟨(List.range len).map f, by simp, ⟨by simpa using hl, hm, fun hL => ?_⟩, (fun h => by cases h), (by simp; omega)⟩
    have hpos : 0 < len := by
      rcases Nat.eq_zero_or_pos len with h0 | h0
      · subst h0; exact absurd rfl hL
      · exact h0
    obtain ⟨b, off, spot⟩ := a
    have hspot : spot = none := by simpa [Addr.add] using World.cell?_spot (hfx 0 hpos).1
    subst hspot
    have hadd : ∀ j, (⟨b, off, none⟩ : Addr).add j = ⟨b, off + j, none⟩ := fun j => by rw [add_plain]
    refine ⟨b, off, rfl, ?_, fun i x hx => ?_⟩
    · have := World.block_lt_of_cell? _ _ (hfx 0 hpos).1
      rw [hadd] at this
      exact this
    · have hi : i < len := by
        have := (List.getElem?_eq_some_iff.1 hx).1
        simpa using this
      have hxe : x = f i := by
        rw [List.getElem?_map, List.getElem?_range hi] at hx
        exact (Option.some.inj hx).symm
      obtain ⟨c0, c1, _⟩ := hfx i hi
      rw [hadd] at c0 c1
      rw [hxe, Nat.mul_comm 2 i]
      exact ⟨c0, by rw [Nat.add_assoc]; exact c1⟩
end Go.Proofs.Qxb6604528aDoor
