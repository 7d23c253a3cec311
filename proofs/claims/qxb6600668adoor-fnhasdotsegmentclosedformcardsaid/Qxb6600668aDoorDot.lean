import Derived.Test.Qxb6600668aDoorIter
set_option linter.unusedSimpArgs false
set_option linter.unusedVariables false
namespace Go.Proofs.Qxb6600668aDoor
open Go.RowKit Go.Shelf
attribute [local go_sem] Oper.semAt_some

def DotPost (s : ByteArray) (w : World) (e : Ending) (w' : World) : Prop := e = .returned (.bool ((Pl.segs s.data.toList).any Pl.isDot)) ∧ Below w.heap.size w w'

theorem boxed_facts (s : ByteArray) (w : World) : Boxes (w.heap.size + 1) s (boxed (w.alloc (.cells #[.bool false] 4)) s) ∧ (boxed (w.alloc (.cells #[.bool false] 4)) s).cell? ⟨w.heap.size, 0, none⟩ = some (.bool false) ∧ (boxed (w.alloc (.cells #[.bool false] 4)) s).frozen? ⟨w.heap.size, 0, none⟩ = false ∧ Below w.heap.size w (boxed (w.alloc (.cells #[.bool false] 4)) s) ∧ (boxed (w.alloc (.cells #[.bool false] 4)) s).heap.size = w.heap.size + 4 := by
  unfold boxed
  refine ⟨⟨?_, ?_, ?_, ?_, ?_⟩, ?_, ?_, ?_, ?_⟩
  · go_simp
  · go_simp
  · go_simp
  · go_simp
  · simp
  · go_simp
  · go_simp
  · exact ((((Below.refl w.heap.size w).alloc (Nat.le_refl _) _).alloc (by simp) _).alloc (by simp; omega) _).alloc (by simp; omega) _
  · simp

/-- What stands between two rounds. -/
def Jd (w : World) (D : Nat) (rec : LoopState → Option Code → Loop) (pre : List ByteArray) (W : World) : Prop :=
  (∃ v, W.cell? ⟨w.heap.size, 0, none⟩ = some (.bool v)) ∧ W.frozen? ⟨w.heap.size, 0, none⟩ = false ∧ Below w.heap.size w W ∧ W.heap[D + 1]? = some (.loop (rec .ready none)) ∧ W.heap[D]? = some (.deferred (some [])) ∧ (∀ x ∈ pre, Pl.isDot x.data.toList = false)
def Jxd (w : World) (D : Nat) (rec : LoopState → Option Code → Loop) (pre : List ByteArray) (W : World) : Prop :=
  W.cell? ⟨w.heap.size, 0, none⟩ = some (.bool true) ∧ Below w.heap.size w W ∧ W.heap[D + 1]? = some (.loop (rec .done (some .ret))) ∧ W.heap[D]? = some (.deferred (some [])) ∧ (∃ x ∈ pre, Pl.isDot x.data.toList = true)

theorem setCell_heap {W : World} {b : Nat} {v : Value} {k : Nat} (h : k ≠ b) : (W.setCell ⟨b, 0, none⟩ v).heap[k]? = W.heap[k]? := by
  rcases Nat.lt_or_ge k W.heap.size with hk | hk
  · exact (grownBy_setCell' W b v).block k hk (fun e => h (Option.some.inj e))
  · rw [Array.getElem?_eq_none hk, Array.getElem?_eq_none (by simpa [World.setCell] using hk)]

theorem put_cell {W : World} {k b : Nat} (o : Obj) (h : b ≠ k) : (W.putObj k o).cell? ⟨b, 0, none⟩ = W.cell? ⟨b, 0, none⟩ := World.cell?_of_block (World.putObj_heap_other h)
theorem put_frozen {W : World} {k b : Nat} (o : Obj) (h : b ≠ k) : (W.putObj k o).frozen? ⟨b, 0, none⟩ = W.frozen? ⟨b, 0, none⟩ := World.frozen?_of_block (World.putObj_heap_other h)

set_option maxHeartbeats 1000000 in
theorem dot_range (a : Act) (g : Operand) (assign body : Code) (Q : Exit → Act → World → Prop) (w W0 : World) (s : ByteArray) (hs : s.size ≤ 16777216)
    (hg : a.eval g = .func (.func 12) #[] #[.pointer (some ⟨w.heap.size + 1 + 1, 0, none⟩), .pointer (some ⟨w.heap.size + 1, 0, none⟩), .pointer (some ⟨w.heap.size + 1 + 2, 0, none⟩)])
    (hB : Boxes (w.heap.size + 1) s W0) (hc : W0.cell? ⟨w.heap.size, 0, none⟩ = some (.bool false)) (hf : W0.frozen? ⟨w.heap.size, 0, none⟩ = false) (hb : Below w.heap.size w W0) (hsz : W0.heap.size = w.heap.size + 4)
    (a1 : ByteArray → Act)
    (hassign : ∀ (l : Nat) (x : ByteArray) (W : World) (K : Act → World → Prop), K (a1 x) W → assign.wpIn (Fence.wide.inRound l) 1 Tryd.prog (Exit.then K (fun _ _ _ => False)) { tmps := (#[6].zip #[Value.string x]).foldl (fun t (p, v) => t.setIfInBounds p v) a.tmps, defers := [] } W)
    (hbody : ∀ (l : Nat) (x : ByteArray) (W : World) (v : Bool) (R : Exit → Act → World → Prop), W.cell? ⟨w.heap.size, 0, none⟩ = some (.bool v) → W.frozen? ⟨w.heap.size, 0, none⟩ = false →
      (Pl.isDot x.data.toList = false → ∀ a', R .normal a' W) → (Pl.isDot x.data.toList = true → ∀ a', R .ret a' (W.setCell ⟨w.heap.size, 0, none⟩ (.bool true))) → body.wpIn (Fence.wide.inRound l) 1 Tryd.prog R (a1 x) W)
    (hdone : ∀ (W : World) (v : Bool), (Pl.segs s.data.toList).any Pl.isDot = false → W.cell? ⟨w.heap.size, 0, none⟩ = some (.bool v) → W.frozen? ⟨w.heap.size, 0, none⟩ = false → Below w.heap.size w W → W.heap[W0.heap.size]? = some (.deferred (some [])) →
      Q .normal { a with defers := { target := .collected W0.heap.size, args := #[] } :: a.defers } W)
    (hstop : ∀ (W : World), (Pl.segs s.data.toList).any Pl.isDot = true → W.cell? ⟨w.heap.size, 0, none⟩ = some (.bool true) → Below w.heap.size w W → W.heap[W0.heap.size]? = some (.deferred (some [])) →
      Code.ret.wpIn Fence.wide 3 Tryd.prog Q { a with defers := { target := .collected W0.heap.size, args := #[] } :: a.defers } W) :
    (Code.rangeFunc g #[6] assign body).wpIn Fence.wide 3 Tryd.prog Q a W0 := by
  refine wpIn_rangeFunc ?_
  intro fn hfn
  obtain ⟨rec, hrec⟩ : ∃ rec : LoopState → Option Code → Loop, rec = fun st pe => { state := st, pending := pe, fn, tmps := a.tmps, params := #[6], assign, body, defers := W0.heap.size } := ⟨_, rfl⟩
  obtain ⟨W1, hW1⟩ : ∃ W1, (W0.alloc (.deferred (some []))).alloc (.loop (rec .ready none)) = W1 := ⟨_, rfl⟩
  have e12 : ∀ args w, (callFunc 12 args).run Tryd.prog w = .ok (.enter 12 args) w := enters_of Tryd.func12 (by kernel_rfl) rfl
  refine ⟨W0.heap.size + 1, [{ target := .collected W0.heap.size, args := #[] }], W1, { target := .fn (.func 12) #[.pointer (some ⟨w.heap.size + 1 + 1, 0, none⟩), .pointer (some ⟨w.heap.size + 1, 0, none⟩), .pointer (some ⟨w.heap.size + 1 + 2, 0, none⟩)], args := #[.func (.yield (W0.heap.size + 1)) #[] #[]] }, W1, 12,
    #[.func (.yield (W0.heap.size + 1)) #[] #[], .pointer (some ⟨w.heap.size + 1 + 1, 0, none⟩), .pointer (some ⟨w.heap.size + 1, 0, none⟩), .pointer (some ⟨w.heap.size + 1 + 2, 0, none⟩)], W1, ?_, ?_, ?_, ?_, fun _ => by decide, ?_⟩
  · rw [← hW1, hrec]; exact run_enterLoop_outer _ _ _ _ _
  · simp only [resolve, hg]
    simp [go_sem]
  · intro f' hf'; trivial
  · simp [invoke, go_sem, e12]
  · have hW1b : Below W0.heap.size W0 W1 := by
      rw [← hW1]; exact ((Below.refl _ W0).alloc (Nat.le_refl _) _).alloc (by simp) _
    have hL1 : W1.heap[W0.heap.size + 1]? = some (.loop (rec .ready none)) := by
      rw [← hW1]; have := World.alloc_heap_new (W0.alloc (.deferred (some []))) (.loop (rec .ready none)); rwa [World.size_alloc] at this
    have hK1 : W1.heap[W0.heap.size]? = some (.deferred (some [])) := by
      rw [← hW1]; exact (Below.heap_alloc _ _ _ (by simp)).trans (World.alloc_heap_new W0 _)
    have hR : w.heap.size < W0.heap.size := by omega
    refine (iter_in 2 (by decide) (W0.heap.size + 1) (w.heap.size + 1) s hs (Jd w W0.heap.size rec) (Jxd w W0.heap.size rec) ?hJc ?hY W1 (hB.below (hW1b.mono (by omega)))
      ⟨⟨false, (hW1b.cell (p := ⟨w.heap.size, 0, none⟩) hR).trans hc⟩, (hW1b.frozen (p := ⟨w.heap.size, 0, none⟩) hR).trans hf, hb.trans (hW1b.mono (by omega)), hL1, hK1, fun x hx => by cases hx⟩).mono ?_
    case hJc =>
      rintro pre W u v ⟨⟨q, h1⟩, h2, h3, h4, h5, h6⟩ _
      have ne : (⟨w.heap.size + 1, 0, none⟩ : Addr) ≠ ⟨w.heap.size, 0, none⟩ := fun e => by injection e with e1; omega
      exact ⟨⟨q, by rw [World.cell?_setCell_other _ _ _ _ ne]; exact h1⟩, by rw [World.frozen?_setCell]; exact h2, h3.setCell (p := ⟨w.heap.size + 1, 0, none⟩) (Nat.le_succ _) _, by rw [setCell_heap (by omega)]; exact h4, by rw [setCell_heap (by omega)]; exact h5, h6⟩
    case hY =>
      rintro pre x W ⟨⟨q, h1⟩, h2, h3, h4, h5, h6⟩
      have hlt : W0.heap.size + 1 < W.heap.size := (Array.getElem?_eq_some_iff.1 h4).1
      have hy := run_yield (P := Tryd.prog) (args := #[.string x]) h4 (by rw [hrec]; rfl)
      rw [hrec] at hy
      refine ⟨fn, _, assign, body, hy, roundIn_of_wpIn hfn (hassign _ x W _ ⟨_, run_beginRound h4 (by rw [hrec]), ?_⟩)⟩
      have hl2 := World.putObj_heap_same (o := .loop { rec .ready none with state := .busy }) hlt
      have hk2 : (W.putObj (W0.heap.size + 1) (.loop { rec .ready none with state := .busy })).heap[W0.heap.size]? = some (.deferred (some [])) := (World.putObj_heap_other (by omega)).trans h5
      have hc2 := (put_cell (W := W) (k := W0.heap.size + 1) (b := w.heap.size) (.loop { rec .ready none with state := .busy }) (by omega)).trans h1
      have hf2 := (put_frozen (W := W) (k := W0.heap.size + 1) (b := w.heap.size) (.loop { rec .ready none with state := .busy }) (by omega)).trans h2
      have hb2 : Below (w.heap.size + 1 + 3) W (W.putObj (W0.heap.size + 1) (.loop { rec .ready none with state := .busy })) := belowK_b (w := W0) (by omega) W _ _ _ (by omega) h4 rfl rfl
      generalize W.putObj (W0.heap.size + 1) (.loop { rec .ready none with state := .busy }) = Wb at *
      refine hbody _ x Wb q _ hc2 hf2 (fun hd a' => ?_) (fun hd a' => ?_)
      · have hr := run_endRound (P := Tryd.prog) none hl2
        have hlb : W0.heap.size + 1 < Wb.heap.size := (Array.getElem?_eq_some_iff.1 hl2).1
        have hb3 : Below (w.heap.size + 1 + 3) Wb (Wb.putObj (W0.heap.size + 1) (.loop (rec .ready none))) := belowK_b (w := W0) (by omega) Wb _ _ _ (by omega) hl2 rfl rfl
        refine ⟨_, Wb.putObj (W0.heap.size + 1) (.loop (rec .ready none)), by rw [hrec] at hr ⊢; exact hr, .inl ⟨rfl, ⟨⟨q, (put_cell _ (by omega)).trans hc2⟩, (put_frozen _ (by omega)).trans hf2, ?_, World.putObj_heap_same hlb, (World.putObj_heap_other (by omega)).trans hk2, ?_⟩, hb2.trans hb3⟩⟩
        · exact h3.trans ((hb2.trans hb3).mono (by omega))
        · intro y hy
          rcases List.mem_append.1 hy with h | h
          · exact h6 y h
          · rw [List.mem_singleton.1 h]; exact hd
      · have hl3 : (Wb.setCell ⟨w.heap.size, 0, none⟩ (.bool true)).heap[W0.heap.size + 1]? = some (.loop { rec .ready none with state := .busy }) := by rw [setCell_heap (by omega)]; exact hl2
        have hk3 : (Wb.setCell ⟨w.heap.size, 0, none⟩ (.bool true)).heap[W0.heap.size]? = some (.deferred (some [])) := by rw [setCell_heap (by omega)]; exact hk2
        have hc3 := World.cell?_setCell_same Wb ⟨w.heap.size, 0, none⟩ (.bool true) hc2
        have hw3 : Below w.heap.size w (Wb.setCell ⟨w.heap.size, 0, none⟩ (.bool true)) := (h3.trans (hb2.mono (by omega))).setCell (p := ⟨w.heap.size, 0, none⟩) (Nat.le_refl _) _
        generalize Wb.setCell ⟨w.heap.size, 0, none⟩ (.bool true) = Wc at *
        have hr := run_endRound (P := Tryd.prog) (some .ret) hl3
        have hlb : W0.heap.size + 1 < Wc.heap.size := (Array.getElem?_eq_some_iff.1 hl3).1
        have hb3 : Below w.heap.size Wc (Wc.putObj (W0.heap.size + 1) (.loop (rec .done (some .ret)))) := belowK_b (w := W0) (by omega) Wc _ _ _ (by omega) hl3 rfl rfl
        exact ⟨_, Wc.putObj (W0.heap.size + 1) (.loop (rec .done (some .ret))), by rw [hrec] at hr ⊢; exact hr, .inr ⟨rfl, (put_cell _ (by omega)).trans hc3, hw3.trans hb3, World.putObj_heap_same hlb, (World.putObj_heap_other (by omega)).trans hk3, x, by simp, hd⟩⟩
    · rintro e W2 ⟨⟨v, rfl⟩, (⟨xs, hS, ⟨q, h1⟩, h2, h3, h4, h5, h6⟩ | ⟨pre, rest, hS, h1, h3, h4, h5, x, hx, hd⟩)⟩
      · have hr := run_endLoop (P := Tryd.prog) h4 (by rw [hrec]; simp)
        have hb3 : Below w.heap.size W2 (W2.putObj (W0.heap.size + 1) (.loop { rec .ready none with state := .exhausted })) := belowK_b (w := W0) (by omega) W2 _ _ _ (by omega) h4 rfl rfl
        refine ⟨none, W2.putObj (W0.heap.size + 1) (.loop { rec .ready none with state := .exhausted }), hr.trans (by subst hrec; rfl), hdone _ q ?_ ((put_cell _ (by omega)).trans h1) ((put_frozen _ (by omega)).trans h2) (h3.trans hb3) ((World.putObj_heap_other (by omega)).trans h5)⟩
        rw [← hS, List.any_map, List.any_eq_false]
        intro y hy
        simpa using h6 y hy
      · have hr := run_endLoop (P := Tryd.prog) h4 (by rw [hrec]; simp)
        have hb3 : Below w.heap.size W2 (W2.putObj (W0.heap.size + 1) (.loop { rec .done (some .ret) with state := .exhausted })) := belowK_b (w := W0) (by omega) W2 _ _ _ (by omega) h4 rfl rfl
        refine ⟨some .ret, W2.putObj (W0.heap.size + 1) (.loop { rec .done (some .ret) with state := .exhausted }), hr.trans (by subst hrec; rfl), hstop _ ?_ ((put_cell _ (by omega)).trans h1) (h3.trans hb3) ((World.putObj_heap_other (by omega)).trans h5)⟩
        rw [← hS, List.any_append, List.any_map, Bool.or_eq_true]
        exact .inl (List.any_eq_true.2 ⟨x, hx, hd⟩)

theorem isDot_of (x : ByteArray) : (x.toList == [46]) = true ∨ (x.toList == [46, 46]) = true ↔ Pl.isDot x.data.toList = true := by
  unfold Pl.isDot
  rw [Lib.toList_data, Bool.or_eq_true]

set_option maxHeartbeats 1000000 in
theorem dot_any (s : ByteArray) (w : World) (hs : s.size ≤ 1048576) : Calls Tryd.prog 9 #[.string s] w (DotPost s w) := by
  refine (callsIn_wide (n := 3)).1 ?_
  refine callsIn_of_wp_marks Tryd.func9 rfl trivial ?_ rfl
  simp only [Tryd.ntmps9, List.size_toArray, List.length_cons, List.length_nil, Nat.reduceAdd, Nat.reduceSub, Array.replicate_succ, Array.replicate_zero, List.push_toArray, List.append_toArray, List.nil_append, List.cons_append]
  gi_wp2_with (refine ⟨trivial, ?_⟩; gi_at_call 10; refine (callsIn_wide.2 (splitSeq'_any s _)).mono ?_; rintro e w' ⟨rfl, rfl⟩)
  obtain ⟨hB, hc, hf, hb, hsz⟩ := boxed_facts s w
  generalize boxed (w.alloc (.cells #[.bool false] 4)) s = W0 at *
  refine dot_range _ _ _ _ _ w W0 s (by omega) rfl hB hc hf hb hsz (fun x => { tmps := #[.string s, undef, .pointer (some ⟨w.heap.size, 0, none⟩), .string x, .string s, .func (.func 12) #[] #[.pointer (some ⟨w.heap.size + 1 + 1, 0, none⟩), .pointer (some ⟨w.heap.size + 1, 0, none⟩), .pointer (some ⟨w.heap.size + 1 + 2, 0, none⟩)], .string x, undef, undef, undef, undef, undef, undef], defers := [] }) ?assign ?body ?done ?stop
  case assign =>
    intro l x W K hK
    gi_wp2
    exact hK
  case body =>
    intro l x W v R h1 h2 hno hyes
    cases q1 : (x.toList == [46])
    · cases q2 : (x.toList == [46, 46])
      · have hd : Pl.isDot x.data.toList = false := by
          rw [Bool.eq_false_iff]
          intro hh
          rcases (isDot_of x).2 hh with h | h
          · rw [q1] at h; cases h
          · rw [q2] at h; cases h
        have hno' := hno hd
        clear hno hyes hd
        gi_wp2
        exact hno' _
      · have hd : Pl.isDot x.data.toList = true := (isDot_of x).1 (.inr q2)
        have hyes' := hyes hd
        clear hno hyes hd
        gi_wp2
        exact hyes' _
    · have hd : Pl.isDot x.data.toList = true := (isDot_of x).1 (.inl q1)
      have hyes' := hyes hd
      clear hno hyes hd
      gi_wp2
      exact hyes' _
  case done =>
    intro W v hany h1 h2 h3 hK
    gi_wp2
    have hK' : (W.setCell ⟨w.heap.size, 0, none⟩ (.bool false)).heap[W0.heap.size]? = some (.deferred (some [])) := by rw [setCell_heap (by omega)]; exact hK
    have hc' := World.cell?_setCell_same W ⟨w.heap.size, 0, none⟩ (.bool false) h1
    have hb' : Below w.heap.size w (W.setCell ⟨w.heap.size, 0, none⟩ (.bool false)) := h3.setCell (p := ⟨w.heap.size, 0, none⟩) (Nat.le_refl _) _
    generalize W.setCell ⟨w.heap.size, 0, none⟩ (.bool false) = Wc at *
    have hcz := (put_cell (W := Wc) (k := W0.heap.size) (b := w.heap.size) (.deferred none) (by omega)).trans hc'
    have hbz : Below w.heap.size w (Wc.putObj W0.heap.size (.deferred none)) := hb'.trans (belowK_b (w := W0) (by omega) Wc _ _ _ (Nat.le_refl _) hK' rfl rfl)
    refine ⟨by simp, .inl ⟨_, _, rfl, run_takeDeferred hK', ?_⟩⟩
    exact ⟨.bool false, by simp [results, Tryd.results9, go_sem, hcz], by rw [hany], hbz⟩
  case stop =>
    intro W hany h1 h3 hK
    gi_wp2
    have hcz := (put_cell (W := W) (k := W0.heap.size) (b := w.heap.size) (.deferred none) (by omega)).trans h1
    have hbz : Below w.heap.size w (W.putObj W0.heap.size (.deferred none)) := h3.trans (belowK_b (w := W0) (by omega) W _ _ _ (Nat.le_refl _) hK rfl rfl)
    refine ⟨by simp, .inl ⟨_, _, rfl, run_takeDeferred hK, ?_⟩⟩
    exact ⟨.bool true, by simp [results, Tryd.results9, go_sem, hcz], by rw [hany], hbz⟩
end Go.Proofs.Qxb6600668aDoor
