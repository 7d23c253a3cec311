import Derived.Test.Qxb6000022aDoorPval
import Derived.Lib.Walk
import Derived.Lib.IndexBytes
import Derived.Lib.AsciiSet
import Derived.Laws.Strings3
import Derived.Laws.ResultCell
import Derived.Deep.WholeRow
set_option linter.unusedSimpArgs false
set_option linter.unusedVariables false
namespace Go.Proofs.Qxb6000022aDoor
open Go.RowKit Go.Lib

theorem info39 : (Tryd.prog.info? 39).map (·.size) = some 256 := by kernel_rfl
set_option maxRecDepth 100000 in
theorem zero39 (w : World) : (zeroValue 39).run Tryd.prog w = .ok (.agg (Array.replicate 256 (.bool false))) w := by
  kernel_rfl

attribute [-simp] Tryd.isAgg39 Tryd.sizeOf39 Tryd.typeInfo39 Tryd.runUnderlying39

set_option maxHeartbeats 4000000 in
set_option maxRecDepth 1000000 in
theorem makeSet_any (chars : ByteArray) (w : World) (hs : chars.size ≤ 100)
    (hascii : ∀ (j : Nat) b, chars.data.toList[j]? = some b → b.toNat < 128) :
    Calls Tryd.prog 32 #[.string chars] w fun e w' => e = .returned (.tuple #[.agg (Lib.setCells chars.data.toList), .bool true]) ∧ w' = w.alloc (.cells (Lib.setCells chars.data.toList) 39) := by
  have HA : Hid (∀ (j : Nat) b, chars.data.toList[j]? = some b → b.toNat < 128) := hascii
  clear hascii
  have hz := zero39
  go_enter Tryd.func32, Tryd.ntmps32
  go_wp2
  clear hz
  rw [← Lib.setCells_nil]
  go_loopg [4] chars.size (fun g s4 wx => ∃ i : Nat, i + g = chars.size ∧ s4 = .int .i64 i ∧ wx = w.alloc (.cells (Lib.setCells (chars.data.toList.take i)) 39))
  case atStart => exact ⟨0, by omega, rfl, rfl⟩
  case round =>
    obtain ⟨i, hig, rfl, rfl⟩ := hrel
    cases gk with
    | zero =>
      obtain rfl : i = chars.size := by omega
      have hiz : ¬ ((chars.size : Int) < (chars.size : Int)) := by omega
      rw [show chars.data.toList.take chars.size = chars.data.toList from List.take_of_length_le (by rw [← Lib.size_eq]; exact Nat.le_refl _)]
      have hld := run_loadVar_new (P := Tryd.prog) w 39 (Lib.setCells chars.data.toList) 256 4 Tryd.underlying39 (by rw [Lib.setCells_size]; exact info39)
      have hsz := Lib.setCells_size chars.data.toList
      have hlc := run_loadCellsFrom_new (P := Tryd.prog) w 39 (Lib.setCells chars.data.toList) 256 hsz
      have hsc := run_storeCells_new (P := Tryd.prog) w 39 (Lib.setCells chars.data.toList) (Lib.setCells chars.data.toList) (by rw [hsz]; exact info39) rfl (Lib.setCells_one _)
      go_wp2
      simp only [Tryd.isAgg39, Tryd.sizeOf39, Result.andThen, ↓reduceIte, hlc]
      rw [Oper.upon_value]
      go_wp2
      simp only [Tryd.sizeOf39, Result.andThen, ↓reduceIte, hsc]
      rw [Oper.upon_skip]
      go_wp2
      (try simp only [Exit.inBlock, Exit.then])
      refine bodyPost_ret (v := .tuple #[.agg (Lib.setCells chars.data.toList), .bool true]) ?_ rfl ⟨rfl, rfl⟩
      rw [results_cell_tmp rfl]
      simp [asAddr, Result.andThen, hld]
    | succ g =>
      have hi : i < chars.size := by omega
      have hiz : (i : Int) < (chars.size : Int) := by omega
      obtain ⟨x, hx⟩ : ∃ x : UInt8, chars[i]'hi = x := ⟨_, rfl⟩
      have hxl : chars.data.toList[i]? = some x := by rw [← hx]; exact Lib.data_getElem? chars i hi
      have hx128 : ¬ ((128 : Int) ≤ (x.toNat : Int)) := by have := HA.out i x hxl; omega
      have hx256 : (x.toNat : Int) < 256 := by have := HA.out i x hxl; omega
      have hcell := Lib.setCells_at (chars.data.toList.take i) x
      have Hx : Hid (chars.data.toList[i]? = some x) := hxl
      clear hxl
      go_wp2
      go_roundg g
      case measure => omega
      case rel => exact ⟨i + 1, by omega, by first | rfl | simp, by rw [List.take_add_one, Hx.out]; simp only [Option.toList]; rw [Lib.setCells_snoc]⟩

set_option maxHeartbeats 2000000 in
set_option maxRecDepth 1000000 in
theorem contains_any (b : Nat) (x : UInt8) (v : Bool) (w : World) (hc : w.cell? ⟨b, x.toNat, none⟩ = some (.bool v)) :
    Calls Tryd.prog 33 #[.pointer (some ⟨b, 0, none⟩), .int .u8 x.toNat] w fun e w' => e = .returned (.bool v) ∧ w' = w := by
  have hx256 : (x.toNat : Int) < 256 := by have := UInt8.toNat_lt x; omega
  go_enter Tryd.func33, Tryd.ntmps33
  go_wp2
  go_ret
  exact ⟨rfl, rfl⟩

theorem useSet_any (n : Nat) (hn : n ≤ maxLen) (w : World) :
    Calls Tryd.prog 31 #[.int .i64 n] w fun e w' => e = .returned (.bool (decide (8 < n))) ∧ w' = w := by
  unfold maxLen at hn
  go_enter Tryd.func31, Tryd.ntmps31
  go_wp2
  go_ret
  refine ⟨ret_bool ?_, rfl⟩
  rw [Bool.eq_iff_iff]
  simp only [decide_eq_true_eq]
  omega
end Go.Proofs.Qxb6000022aDoor
