import Derived.Test.Qxb6604528aDoorRows
import Derived.Test.Qxb6604528aDoorTie
import Derived.Test.Qxb6604528aDoorCards
import Derived.Test.Qxb6604528aDoorDec
import Derived.ProofKit
import Derived.LaidMore
import Derived.SevenTiedAt
import Derived.Lay
import Derived.MakeChecks
import Derived.OpenShut
import Derived.Stop.LaidErr
set_option linter.unusedSimpArgs false
set_option linter.unusedVariables false
namespace Go.Proofs.Qxb6604528aDoor
open Go.ChangeShapes Go.WideShapes Go.ChangeAt Go.WideMaps Go.WideElems Go.RowKit

theorem Tryd.own5 : ownKnob Tryd.prog.godebug = none := by kernel_rfl
theorem tab_g : Tryd.prog.globalNamed tabNm = some 1 := by kernel_rfl
theorem tab_t : (Tryd.prog.globals[1]?).map (·.type) = some 96 := by kernel_rfl
theorem tab_cells96 : Tryd.prog.cellsOf 96 = 20 := by kernel_rfl
theorem tab_cells36 : Tryd.prog.cellsOf 36 = 1 := by kernel_rfl
theorem laid5_shape : ∃ a b c d e, Rows.fnIntegerValueTextIsDecimalRow.laid = a :: b :: c :: (tabNm, Lib.tabData .u64 Lib.pow10Tab) :: d :: e :: [] := by
  have hd : (Rows.laid_internal_strconv_uint64pow10 : DataW Unit) = Lib.tabData .u64 Lib.pow10Tab := by kernel_rfl
  rw [← hd]
  exact ⟨_, _, _, _, _, rfl⟩

theorem tab_of {W : World} (h : laidMetH Tryd.prog Rows.fnIntegerValueTextIsDecimalRow.laid W) : ∀ w', Below W.heap.size W w' → TabOk w' := by
  rw [MakeChecks.laidMetH_plain _ _ _ (by kernel_rfl)] at h
  obtain ⟨a, b, c, d, e, hl⟩ := laid5_shape
  rw [hl] at h
  have ht : Lib.TabIs Tryd.prog W tabNm .u64 Lib.pow10Tab := Lib.tabIs_of_head tab_g tab_t Tryd.underlying96 Tryd.underlying36 tab_cells36 tab_cells96 h.tail.tail.tail
  have hsz : 1 < W.heap.size := World.block_lt_of_cell? _ _ (ht.cell tab_g 0 (by decide))
  intro w' hb
  exact var?_below hb tab_g hsz ht

set_option maxRecDepth 100000 in
theorem dec_lifted (os : Os) (started : os.Started) (H : Type) (enc : TypeId × Value → H) :
    ReturnsInHanded {} Tryd.checked os 5 .any (fun w args => (Rows.fnIntegerValueTextIsDecimalSpec.pre enc Tryd.prog Tryd.f5 [] false w args ∧ laidMetH Tryd.prog Rows.fnIntegerValueTextIsDecimalRow.laid w) ∧ sizedMet enc Tryd.prog Tryd.f5 (OpenSpec.ofChange Rows.fnIntegerValueTextIsDecimalSpec) false w args)
      (Rows.fnIntegerValueTextIsDecimalSpec.post enc Tryd.prog Tryd.f5 false true false false) := by
  refine returnsInHanded_of_change_and (C := Tryd.checked) (X := fun w _ => laidMetH Tryd.prog Rows.fnIntegerValueTextIsDecimalRow.laid w) (fun _ _ _ hh h => h.of_heap hh) Tryd.own5 started (by kernel_rfl) Tryd.func5
    (ChangeSpec.witness_shaped (enc := enc) (C := Tryd.checked) (os := os) (X := fun w _ => laidMetH Tryd.prog Rows.fnIntegerValueTextIsDecimalRow.laid w) false
      (World.laidAll Tryd.prog os Rows.fnIntegerValueTextIsDecimalRow.laid) #[.int .i64 0] 8 (World.laidAll_os _ _ _)
      (World.shaped_of_ZipB (by kernel_rfl) (by kernel_rfl)) (by kernel_rfl) (by kernel_rfl) (by kernel_rfl)
      (by rw [MakeChecks.laidMetH_plain _ _ _ (by kernel_rfl)]; exact laidMet_laidAll _ (by kernel_rfl) (by kernel_rfl))) ?_
  intro W base args ds gs before hval0 hW _ _ hL _
  have hval : ∀ (j : Nat) t v, Tryd.f5.params[j]? = some t → args[j]? = some v → Value.okWide Tryd.prog W .any base t v := hval0
  have hW' := hW
  obtain ⟨p, q, hA0, hV, rfl, hfz, hnd⟩ := hW
  have hA : DataW.TrodAll enc Tryd.prog W 0 (fun _ => true) true Tryd.f5.params.toList args.toList ds p := hA0
  rw [Tryd.params5] at hA hval
  obtain ⟨v0, d0, rfl, rfl, h0⟩ := trodAll_one hA
  obtain ⟨rfl, rfl⟩ := trodVars_none hV
  obtain ⟨i, rfl, rfl, rfl, wi⟩ := open_int Tryd.underlying2 (hval 0 2 v0 rfl rfl) h0
  clear hA0 hval0
  simp only [List.append_nil] at hW'
  have hb := bounds_i64 wi
  refine (dec_walk i (by omega) (by omega) W (tab_of hL)).mono fun e W' ⟨he, bel⟩ => ?_
  subst he
  exact ⟨_, rfl, _, _, _, [], _, [], hW', trodAll_mk1 (shut_bool Tryd.underlying4 _), trodAll_mk1 (shut_int Tryd.underlying2 wi), rfl, bel.frame _, fun h => by cases h⟩

theorem dec_holds : Rows.FnIntegerValueTextIsDecimalSaid :=
  OpenClaim.holds_of_wide 5 Tryd.f5 rfl rfl rfl rfl rfl rfl rfl ⟨rfl, rfl, rfl, rfl, rfl⟩ rfl rfl rfl rfl rfl (by kernel_rfl) Tryd.func5 (by kernel_rfl)
    (of_decide_eq_true (by kernel_rfl)) (by unfold Func.isWrapper; first | (rw [if_pos (by decide +kernel)]; kernel_rfl) | (rw [if_neg (by decide +kernel)]; exact ⟨rfl, rfl⟩))
    (fun os started H enc _ => dec_lifted os started H enc)

theorem dec_card : Rows.FnIntegerValueTextIsDecimalCardSaid :=
  Claim7.holds_tied_plain_at .later [] [.data, .data, .data, .data, .pinned, .pinned] true Rows.fnIntegerValueTextIsDecimalCard.stood.harness false
    dec_holds (fun _ h => by cases h) (by kernel_rfl) (fun _ h => by cases h) fnIntegerValueTextIsDecimal_row_tie rfl ⟨rfl, rfl⟩ (by kernel_rfl) rfl
    (fun f fn hf hfn => by
      obtain rfl : f = 5 := Option.some.inj ((show Tryd.prog.funcNamed Rows.fnIntegerValueTextIsDecimalRow.func = some 5 by kernel_rfl).symm.trans hf) |>.symm
      obtain rfl : fn = Tryd.f5 := (Option.some.inj (Tryd.func5.symm.trans hfn)).symm
      exact ⟨by kernel_rfl, fun j t ht => by
        rw [Tryd.params5] at ht
        have hm : t ∈ [2] := by simpa using Array.mem_of_getElem? ht
        have hall : ([2].all fun u => !Tryd.prog.wantsStandIn u) = true := by kernel_rfl
        exact (show Tryd.prog.wantsStandIn t = false by simpa using List.all_eq_true.1 hall t hm)⟩)
    (by kernel_rfl)
end Go.Proofs.Qxb6604528aDoor
