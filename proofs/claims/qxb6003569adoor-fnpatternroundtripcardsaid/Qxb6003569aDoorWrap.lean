import Derived.Test.Qxb6003569aDoorRows
import Derived.Test.Qxb6003569aDoorShelf
import Derived.HandedShaped
import Derived.ProofKit
import Derived.LaidMore
import Derived.OpenShut
set_option linter.unusedSimpArgs false
set_option linter.unusedVariables false
namespace Go.Proofs.Qxb6003569aDoor
open Go.ChangeShapes Go.WideShapes Go.ChangeAt Go.WideMaps Go.WideElems Go.RowKit

theorem Tryd.own : ownKnob Tryd.prog.godebug = none := by kernel_rfl
theorem Tryd.laidOut : laidOutB Tryd.prog = true := by kernel_rfl

/-- The row's step where the row lists variables and the walk wants the world's shape too (internal/bytealg.MaxLen's cell holds some integer). -/
theorem wrap_laid_shaped {H : Type} {enc : TypeId × Value → H} {os : Os} {f : FuncId} {fn : Func} {s : ChangeSpec} {X : World → Array Value → Prop}
    (hX : ∀ (w w' : World) (args : Array Value), w.heap = w'.heap → X w args → X w' args)
    (started : os.Started) (noInit : Tryd.prog.inits.idxOf? f = none) (hfn : Tryd.prog.funcs[f]? = some fn)
    (witness : ∃ (w : World) (tape : Tape) (i : Input), w.os = os ∧ (w.forCall tape i).Shaped Tryd.checked.prog ∧ i.vars = [] ∧ Input.okWide Tryd.checked.prog (w.forCall tape i) .any w.heap.size f i ∧
      ((s.pre enc Tryd.checked.prog fn [] false (w.forCall tape i).memory i.args ∧ X (w.forCall tape i).memory i.args) ∧ sizedMet enc Tryd.checked.prog fn (OpenSpec.ofChange s) false (w.forCall tape i).memory i.args) ∧ (({} : Assume)).holds Tryd.checked.prog (lone (Frame.enter Tryd.checked.prog f i.args .normal) [] (w.forCall tape i)))
    (contract : ∀ (W : World) (base : Nat) (args : Array Value) (ds gs : List (DataW H)) (before : List MemPlace),
      (∀ (j : Nat) t v, fn.params[j]? = some t → args[j]? = some v → Value.okWide Tryd.prog W .any base t v) →
      DataW.Whole enc Tryd.prog fn.params.toList s.vars false W args.toList ds gs before → X W args → W.ShapedOpen Tryd.prog →
      Calls Tryd.prog f args W fun e W' => ∃ v, e = .returned v ∧ s.post enc Tryd.prog fn false true false false W args v W') :
    ReturnsInHanded {} Tryd.checked os f .any (fun w args => (s.pre enc Tryd.checked.prog fn [] false w args ∧ X w args) ∧ sizedMet enc Tryd.checked.prog fn (OpenSpec.ofChange s) false w args) (s.post enc Tryd.checked.prog fn false true false false) := by
  refine returnsInHanded_of_calls (C := Tryd.checked) Tryd.own started noInit witness ?_
  intro w tape i _ hsh _ hok hpre _
  obtain ⟨_, _, _, fn', hfn', _, _, _, _, hval⟩ := hok
  obtain rfl : fn' = fn := Option.some.inj (hfn'.symm.trans hfn)
  obtain ⟨⟨⟨ds, gs, before, hw, _⟩, hx⟩, _⟩ := hpre
  have hw' := DataW.Whole.of_heap (w' := w.forCall tape i) (by rfl) hw
  refine (contract (w.forCall tape i) w.heap.size i.args ds gs before hval hw' (hX _ _ _ (by rfl) hx) hsh).mono fun e W' ⟨v, he, hp⟩ => ?_
  subst he
  exact ChangeSpec.post_blind hp

/-- internal/bytealg.MaxLen holds some integer. -/
theorem maxLen_cell {W : World} (h : W.ShapedOpen Tryd.prog) : 0 < W.heap.size ∧ ∃ m, W.cell? ⟨0, 0, none⟩ = some (.int .i64 m) := by
  obtain ⟨m, hm⟩ := Tryd.laysM146.s1_3 W h
  have hm' : W.cell? ⟨0, 0, none⟩ = some (.int .i64 m) := hm
  exact ⟨World.block_lt_of_cell? _ _ hm', m, hm'⟩
end Go.Proofs.Qxb6003569aDoor
