import Derived.Test.Qxb6604528aDoorRows
import Derived.Test.Qxb6604528aDoorTie
import Derived.Test.Qxb6604528aDoorCards
import Derived.Test.Qxb6604528aDoorOpen
import Derived.Test.Qxb6604528aDoorMatch
import Derived.SevenTiedAt
import Derived.Lay
import Derived.MakeChecks
import Derived.OpenShut
set_option linter.unusedSimpArgs false
set_option linter.unusedVariables false
namespace Go.Proofs.Qxb6604528aDoor
open Go.ChangeShapes Go.WideShapes Go.ChangeAt Go.WideMaps Go.WideElems Go.RowKit
open Go.ChangeMaps (open_string shut_string)

theorem open_parts2 {H : Type} {enc : TypeId × Value → H} {W : World} {pa : Option Addr} {len cap : Nat} {d : DataW H} {ps : List MemPlace}
    (h : DataW.Trod enc Tryd.prog W 0 (fun _ => true) true 22 (.slice pa len cap) d ps) : ∃ L : List (ByteArray × Bool), L.length = len ∧ PartsAt W pa cap L ∧ (pa = none → L = [] ∧ cap = 0) ∧ SzL L := by
  obtain ⟨fuel, hf⟩ := h
  rcases Go.Deep.open_slice_pairs Tryd.underlying22 Tryd.underlying47 Tryd.cells47 rfl rfl Tryd.cells9 Tryd.cells4 hf with ⟨hcs, _⟩ | ⟨a, l, c, m, n, V0, V1, D0, D1, P0, P1, hcs, _, hl, hm, hmm, _, hcell⟩
  · simp [Value.cells] at hcs
    obtain ⟨rfl, rfl, rfl⟩ := hcs
    exact ⟨[], rfl, ⟨Nat.le_refl _, Nat.zero_le _, fun h => absurd rfl h⟩, fun _ => ⟨rfl, rfl⟩, fun _ h => by cases h⟩
  · simp [Value.cells] at hcs
    obtain ⟨rfl, rfl, rfl⟩ := hcs
    simp only [if_true] at hmm
    subst hmm
    have each : ∀ i, i < len → ∃ x : ByteArray × Bool, W.cell? (a.add (i * 2)) = some (.string x.1) ∧ W.cell? (a.add (i * 2 + 1)) = some (.bool x.2) ∧ x.1.size ≤ maxLen := by
      intro i hi
      obtain ⟨c0, c1, t0, t1⟩ := hcell i (by omega)
      obtain ⟨s, es, _, hs⟩ := DataW.trod_string Tryd.underlying9 t0
      obtain ⟨b, eb, _⟩ := DataW.trod_bool Tryd.underlying4 t1
      rw [(List.cons.inj es).1] at c0
      rw [(List.cons.inj eb).1] at c1
      exact ⟨(s, b), c0, c1, hs⟩
    obtain ⟨f, hfx⟩ := Go.Deep.choose_lt (α := ByteArray × Bool) each
    refine ⟨(List.range len).map f, by simp, ⟨by simpa using hl, hm, fun hL => ?_⟩, (fun h => by cases h), ?_⟩
    rotate_left
    · intro x hx
      obtain ⟨i, hi, rfl⟩ := List.mem_map.1 hx
      exact (hfx i (by simpa using hi)).2.2
    have hpos : 0 < len := by
      rcases Nat.eq_zero_or_pos len with h0 | h0
      · subst h0; exact absurd rfl hL
      · exact h0
    obtain ⟨b, off, spot⟩ := a
    have hspot : spot = none := by simpa [Addr.add] using World.cell?_spot (hfx 0 hpos).1
    subst hspot
    have hadd : ∀ j, (⟨b, off, none⟩ : Addr).add j = ⟨b, off + j, none⟩ := fun j => by rw [add_plain]
    refine ⟨b, off, rfl, ?_, fun i x hx => ?_⟩
    · have := World.block_lt_of_cell? _ _ (hfx 0 hpos).1
      rw [hadd] at this
      exact this
    · have hi : i < len := by
        have := (List.getElem?_eq_some_iff.1 hx).1
        simpa using this
      have hxe : x = f i := by
        rw [List.getElem?_map, List.getElem?_range hi] at hx
        exact (Option.some.inj hx).symm
      obtain ⟨c0, c1, _⟩ := hfx i hi
      rw [hadd] at c0 c1
      rw [hxe, Nat.mul_comm 2 i]
      exact ⟨c0, by rw [Nat.add_assoc]; exact c1⟩

set_option maxRecDepth 100000 in
theorem match_lifted (os : Os) (started : os.Started) (H : Type) (enc : TypeId × Value → H) :
    ReturnsInHanded {} Tryd.checked os 3 .any (fun w args => (Rows.fnComparePartsMatchesModelSpec.pre enc Tryd.prog Tryd.f3 [] false w args ∧ laidMetH Tryd.prog Rows.fnComparePartsMatchesModelRow.laid w) ∧ sizedMet enc Tryd.prog Tryd.f3 (OpenSpec.ofChange Rows.fnComparePartsMatchesModelSpec) false w args)
      (Rows.fnComparePartsMatchesModelSpec.post enc Tryd.prog Tryd.f3 false true false false) := by
  refine returnsInHanded_of_change_and (C := Tryd.checked) (X := fun w _ => laidMetH Tryd.prog Rows.fnComparePartsMatchesModelRow.laid w) (fun _ _ _ hh h => h.of_heap hh) Tryd.own started (by kernel_rfl) Tryd.func3
    (ChangeSpec.witness_shaped (enc := enc) (C := Tryd.checked) (os := os) (X := fun w _ => laidMetH Tryd.prog Rows.fnComparePartsMatchesModelRow.laid w) false
      (World.laidAll Tryd.prog os Rows.fnComparePartsMatchesModelRow.laid) #[.slice none 0 0, .string ⟨#[]⟩, .slice none 0 0, .string ⟨#[]⟩, .bool false] 8 (World.laidAll_os _ _ _)
      (World.shaped_of_ZipB (by kernel_rfl) (by kernel_rfl)) (by kernel_rfl) (by kernel_rfl) (by kernel_rfl)
      (by rw [MakeChecks.laidMetH_plain _ _ _ (by kernel_rfl)]; exact laidMet_laidAll _ (by kernel_rfl) (by kernel_rfl))) ?_
  intro W base args ds gs before hval0 hW _ _ hL _
  have hval : ∀ (j : Nat) t v, Tryd.f3.params[j]? = some t → args[j]? = some v → Value.okWide Tryd.prog W .any base t v := hval0
  have hW' := hW
  obtain ⟨p, q, hA0, hV, rfl, hfz, hnd⟩ := hW
  have hA : DataW.TrodAll enc Tryd.prog W 0 (fun _ => true) true Tryd.f3.params.toList args.toList ds p := hA0
  rw [Tryd.params3] at hA hval
  obtain ⟨v0, vs0, d0, ds0, p0, q0, hargs, rfl, rfl, h0, r0⟩ := trodAll_cons hA
  obtain ⟨v1, vs1, d1, ds1, p1, q1, rfl, rfl, rfl, h1, r1⟩ := trodAll_cons r0
  obtain ⟨v2, vs2, d2, ds2, p2, q2, rfl, rfl, rfl, h2, r2⟩ := trodAll_cons r1
  obtain ⟨v3, vs3, d3, ds3, p3, q3, rfl, rfl, rfl, h3, r3⟩ := trodAll_cons r2
  obtain ⟨v4, vs4, d4, ds4, p4, q4, rfl, rfl, rfl, h4, r4⟩ := trodAll_cons r3
  obtain ⟨rfl, rfl, rfl⟩ := trodAll_nil r4
  obtain rfl : args = #[v0, v1, v2, v3, v4] := by cases args; simp_all
  obtain ⟨rfl, rfl⟩ := trodVars_none hV
  obtain ⟨a0, len0, cap0, rfl⟩ := okWide_slice Tryd.underlying22 (hval 0 22 v0 rfl rfl)
  obtain ⟨a2, len2, cap2, rfl⟩ := okWide_slice Tryd.underlying22 (hval 2 22 v2 rfl rfl)
  have k0 := h0
  have k2 := h2
  have lt0 : ∀ x ∈ p0, x.block < W.heap.size := by obtain ⟨m, hm⟩ := k0; exact DataW.trod_lt m _ _ _ hm
  have lt2 : ∀ x ∈ p2, x.block < W.heap.size := by obtain ⟨m, hm⟩ := k2; exact DataW.trod_lt m _ _ _ hm
  obtain ⟨LA, rfl, hPA, hpa, hza⟩ := open_parts2 h0
  obtain ⟨LB, rfl, hPB, hpb, hzb⟩ := open_parts2 h2
  obtain ⟨s, rfl, rfl, rfl, hs⟩ := open_string Tryd.underlying9 (hval 1 9 v1 rfl rfl) h1
  obtain ⟨t, rfl, rfl, rfl, ht⟩ := open_string Tryd.underlying9 (hval 3 9 v3 rfl rfl) h3
  obtain ⟨r, rfl, rfl, rfl⟩ := open_bool Tryd.underlying4 (hval 4 4 v4 rfl rfl) h4
  clear hA0 hval0 hL
  refine (match_walk W a0 a2 cap0 cap2 LA LB s t r hPA hPB hpa hpb hza hzb hs ht).mono fun e W' ⟨he, bel⟩ => ?_
  subst he
  exact ⟨_, rfl, _, _, _, [], _, [], hW', trodAll_mk1 (shut_bool Tryd.underlying4 _), (trodAll_cons_mk (Below.trod Tryd.laidOut (by kernel_rfl) (of_decide_eq_true (by kernel_rfl)) k0 bel lt0) (trodAll_cons_mk (shut_string Tryd.underlying9 hs) (trodAll_cons_mk (Below.trod Tryd.laidOut (by kernel_rfl) (of_decide_eq_true (by kernel_rfl)) k2 bel lt2) (trodAll_cons_mk (shut_string Tryd.underlying9 ht) (trodAll_cons_mk (shut_bool Tryd.underlying4 _) trodAll_mk0))))), rfl, bel.frame _, fun h => by cases h⟩

theorem match_holds : Rows.FnComparePartsMatchesModelSaid :=
  OpenClaim.holds_of_wide 3 Tryd.f3 rfl rfl rfl rfl rfl rfl rfl ⟨rfl, rfl, rfl, rfl, rfl⟩ rfl rfl rfl rfl rfl (by kernel_rfl) Tryd.func3 (by kernel_rfl)
    (of_decide_eq_true (by kernel_rfl)) (by unfold Func.isWrapper; first | (rw [if_pos (by decide +kernel)]; kernel_rfl) | (rw [if_neg (by decide +kernel)]; exact ⟨rfl, rfl⟩))
    (fun os started H enc _ => match_lifted os started H enc)

theorem match_card : Rows.FnComparePartsMatchesModelCardSaid :=
  Claim7.holds_tied_plain_at .later [] [.data, .pinned] true Rows.fnComparePartsMatchesModelCard.stood.harness false
    match_holds (fun _ h => by cases h) (by kernel_rfl) (fun _ h => by cases h) fnComparePartsMatchesModel_row_tie rfl ⟨rfl, rfl⟩ (by kernel_rfl) rfl
    (fun f fn hf hfn => by
      obtain rfl : f = 3 := Option.some.inj ((show Tryd.prog.funcNamed Rows.fnComparePartsMatchesModelRow.func = some 3 by kernel_rfl).symm.trans hf) |>.symm
      obtain rfl : fn = Tryd.f3 := (Option.some.inj (Tryd.func3.symm.trans hfn)).symm
      exact ⟨by kernel_rfl, fun j t ht => by
        rw [Tryd.params3] at ht
        have hm : t ∈ [22, 9, 22, 9, 4] := by simpa using Array.mem_of_getElem? ht
        have hall : ([22, 9, 22, 9, 4].all fun u => !Tryd.prog.wantsStandIn u) = true := by kernel_rfl
        exact (show Tryd.prog.wantsStandIn t = false by simpa using List.all_eq_true.1 hall t hm)⟩)
    (by kernel_rfl)
end Go.Proofs.Qxb6604528aDoor
