import Derived.Test.Qxb6604528aDoorPlain
set_option linter.unusedSimpArgs false
set_option linter.unusedVariables false
namespace Go.Proofs.Qxb6604528aDoor
namespace Pl

/-! The model of the law FnComparePartsMatchesModel, on lists of bytes. -/
def strip (p : List UInt8) : List UInt8 := p.dropWhile (· == 48)
def padL (n : Nat) (x : List UInt8) : List UInt8 := List.replicate (n - x.length) 48 ++ x
def cmpDig (x y : List UInt8) : Int := Lib.compareBytes (padL (max x.length y.length) x) (padL (max x.length y.length) y)
def mpart (x y : Part) : Int :=
  if x.2 && y.2 then cmpDig x.1 y.1 else if x.2 then -1 else if y.2 then 1 else Lib.compareBytes x.1 y.1
def anyNZ (xs : List Part) : Bool := xs.any fun x => x.1.any fun c => !(c == 48)
def mcmp (r : Bool) : List Part → List Part → Int
  | x :: xs, y :: ys => if mpart x y ≠ 0 then mpart x y else mcmp r xs ys
  | [], ys => if r then (if anyNZ [] then 1 else if anyNZ ys then -1 else 0) else (if !([] : List Part).isEmpty then 1 else if !ys.isEmpty then -1 else 0)
  | x :: xs, [] => if r then (if anyNZ (x :: xs) then 1 else if anyNZ [] then -1 else 0) else (if !(x :: xs).isEmpty then 1 else if !([] : List Part).isEmpty then -1 else 0)
theorem mcmp_end (r : Bool) (S T : List Part) (h : S = [] ∨ T = []) : mcmp r S T = if r then (if anyNZ S then 1 else if anyNZ T then -1 else 0) else (if !S.isEmpty then 1 else if !T.isEmpty then -1 else 0) := by
  cases S with
  | nil => simp [mcmp]
  | cons x S =>
    cases T with
    | nil => simp [mcmp]
    | cons y T => rcases h with h | h <;> cases h

theorem rep_add (a b : Nat) : List.replicate (a + b) (48 : UInt8) = List.replicate a 48 ++ List.replicate b 48 := by
  rw [List.replicate_append_replicate]
theorem compareBytes_prefix (p u v : List UInt8) : Lib.compareBytes (p ++ u) (p ++ v) = Lib.compareBytes u v := by
  induction p with
  | nil => rfl
  | cons a p ih => simp [Lib.compareBytes, ih]

theorem strip_len (x : List UInt8) : (strip x).length ≤ x.length := by
  have := congrArg List.length (List.takeWhile_append_dropWhile (p := (· == 48)) (l := x))
  simp only [List.length_append] at this
  unfold strip
  omega
theorem strip_pad : ∀ x : List UInt8, x = List.replicate (x.length - (strip x).length) 48 ++ strip x
  | [] => rfl
  | a :: x => by
    by_cases h : a = 48
    · subst h
      have e : strip (48 :: x) = strip x := by simp [strip]
      rw [e]
      have := strip_len x
      have ih := strip_pad x
      rw [show (48 :: x).length - (strip x).length = (x.length - (strip x).length) + 1 by simp; omega, List.replicate_succ, List.cons_append, ← ih]
    · have e : strip (a :: x) = a :: x := by simp [strip, h]
      rw [e]
      simp
theorem padL_strip (n : Nat) (x : List UInt8) (h : x.length ≤ n) : padL n x = List.replicate (n - (strip x).length) 48 ++ strip x := by
  have hs := strip_len x
  unfold padL
  have e := strip_pad x
  have : List.replicate (n - x.length) 48 ++ x = List.replicate (n - x.length) 48 ++ (List.replicate (x.length - (strip x).length) 48 ++ strip x) := by rw [← e]
  rw [this, ← List.append_assoc, ← rep_add, show n - x.length + (x.length - (strip x).length) = n - (strip x).length by omega]
theorem strip_head (x : List UInt8) (h : strip x ≠ []) (hd : allDig x = true) : ∃ c r, strip x = c :: r ∧ (48 : UInt8) < c := by
  cases hs : strip x with
  | nil => exact absurd hs h
  | cons c r =>
    refine ⟨c, r, rfl, ?_⟩
    have h1 : ¬ (c == 48) = true := by
      have := List.head?_dropWhile_not (p := (· == 48)) x
      unfold strip at hs
      rw [hs] at this
      simpa using this
    have hm : c ∈ x := by
      have : c ∈ strip x := by rw [hs]; exact List.mem_cons_self
      exact (List.dropWhile_suffix (· == 48)).subset this
    have h2 := List.all_eq_true.1 hd c hm
    simp only [isDig, Bool.and_eq_true, decide_eq_true_eq] at h2
    have h3 : c ≠ 48 := by simpa using h1
    rw [UInt8.lt_iff_toNat_lt]
    have h4 := UInt8.le_iff_toNat_le.1 h2.1
    have h5 : c.toNat ≠ (48 : UInt8).toNat := fun e => h3 (UInt8.toNat_inj.1 e)
    omega
theorem cmp_longer (k : Nat) (u v : List UInt8) (c : UInt8) (hc : (48 : UInt8) < c) : Lib.compareBytes (List.replicate (k + 1) 48 ++ u) (c :: v) = -1 := by
  simp [List.replicate_succ, Lib.compareBytes, hc]
theorem cmp_shorter (k : Nat) (u v : List UInt8) (c : UInt8) (hc : (48 : UInt8) < c) : Lib.compareBytes (c :: v) (List.replicate (k + 1) 48 ++ u) = 1 := by
  have h : ¬ c < 48 := by
    rw [UInt8.lt_iff_toNat_lt] at hc ⊢
    omega
  simp [List.replicate_succ, Lib.compareBytes, hc, h]
theorem cmpDig_eq (x y : List UInt8) (hx : allDig x = true) (hy : allDig y = true) : cmpDig x y = orInt (Lib.compareInt (strip x).length (strip y).length) (Lib.compareBytes (strip x) (strip y)) := by
  unfold cmpDig
  rw [padL_strip _ x (by omega), padL_strip _ y (by omega)]
  have sx := strip_len x
  have sy := strip_len y
  generalize hn : max x.length y.length = n
  have h1 : (strip x).length ≤ n := by omega
  have h2 : (strip y).length ≤ n := by omega
  rcases Nat.lt_trichotomy (strip x).length (strip y).length with h | h | h
  · obtain ⟨c, r, e, hc⟩ := strip_head y (by intro e; rw [e] at h; cases h) hy
    have e1 : n - (strip x).length = (n - (strip y).length) + (((strip y).length - (strip x).length - 1) + 1) := by omega
    rw [e1, rep_add, List.append_assoc, compareBytes_prefix]
    have e2 : Lib.compareInt ((strip x).length : Int) ((strip y).length : Int) = -1 := by unfold Lib.compareInt; rw [if_pos (by omega)]
    rw [e2]
    conv => lhs; rw [e]
    rw [cmp_longer _ _ _ _ hc]
    rfl
  · rw [h, compareBytes_prefix]
    have e2 : Lib.compareInt ((strip y).length : Int) ((strip y).length : Int) = 0 := by unfold Lib.compareInt; simp
    rw [e2]
    simp [orInt]
  · obtain ⟨c, r, e, hc⟩ := strip_head x (by intro e; rw [e] at h; cases h) hx
    have e1 : n - (strip y).length = (n - (strip x).length) + (((strip x).length - (strip y).length - 1) + 1) := by omega
    rw [e1, rep_add, List.append_assoc, compareBytes_prefix]
    have e2 : Lib.compareInt ((strip x).length : Int) ((strip y).length : Int) = 1 := by unfold Lib.compareInt; rw [if_neg (by omega), if_pos (by omega)]
    rw [e2]
    conv => lhs; rw [e]
    rw [cmp_shorter _ _ _ _ hc]
    rfl

/-- A part as the model has it, turned into a part as it orders. -/
def nrm (x : Part) : Part := if x.2 then (strip x.1, true) else x
def numOk (x : Part) : Prop := x.2 = true → allDig x.1 = true
theorem cmpPart_nrm (x y : Part) (hx : numOk x) (hy : numOk y) : cmpPart (nrm x) (nrm y) = mpart x y := by
  obtain ⟨x, a⟩ := x
  obtain ⟨y, b⟩ := y
  unfold numOk at hx hy
  cases a <;> cases b
  · simp [nrm, cmpPart, mpart]
  · simp [nrm, cmpPart, mpart]
  · simp [nrm, cmpPart, mpart]
  · simp only [nrm, cmpPart, mpart, Bool.and_true, if_true]
    rw [cmpDig_eq x y (hx rfl) (hy rfl)]

def tailOk (n : Nat) (M : List Part) : Prop := 0 < n → ∃ p, M[n - 1]? = some p ∧ (p.1.any fun c => !(c == 48)) = true
theorem tailOk_next {n : Nat} {x : Part} {M : List Part} (h : tailOk n (x :: M)) : tailOk (n - 1) M := by
  intro hn
  obtain ⟨p, hp, hq⟩ := h (by omega)
  refine ⟨p, ?_, hq⟩
  rw [show n - 1 = (n - 1 - 1) + 1 by omega, List.getElem?_cons_succ] at hp
  exact hp

theorem more_true (M : List Part) (n : Nat) (hr : ∀ x ∈ M, x.2 = true) (ht : tailOk n M) : moreS true (M.map nrm) n = anyNZ M := by
  unfold moreS
  by_cases hn : n = 0
  · subst hn
    simp only [Bool.true_and, beq_self_eq_true, if_true, List.any_map, anyNZ]
    rw [Bool.eq_iff_iff, List.any_eq_true, List.any_eq_true]
    constructor
    · rintro ⟨x, hx, h⟩
      refine ⟨x, hx, ?_⟩
      simp only [Function.comp_def, nrm, hr x hx, if_true, strip] at h
      rw [← drop0_empty]; exact h
    · rintro ⟨x, hx, h⟩
      refine ⟨x, hx, ?_⟩
      simp only [Function.comp_def, nrm, hr x hx, if_true, strip]
      rw [drop0_empty]; exact h
  · have hn' : (n == 0) = false := by simpa using hn
    rw [hn']
    obtain ⟨p, hp, hq⟩ := ht (by omega)
    have hm : p ∈ M := List.mem_of_getElem? hp
    have e1 : anyNZ M = true := List.any_eq_true.2 ⟨p, hm, hq⟩
    rw [e1]
    cases M with
    | nil => cases hm
    | cons => simp

theorem cmpS_mcmp (r : Bool) : ∀ (M N : List Part) (n m : Nat), (∀ x ∈ M, numOk x) → (∀ x ∈ N, numOk x) → (r = true → (∀ x ∈ M, x.2 = true) ∧ (∀ x ∈ N, x.2 = true) ∧ tailOk n M ∧ tailOk m N) →
    cmpS r (M.map nrm) n (N.map nrm) m = mcmp r M N
  | x :: M, y :: N, n, m, h1, h2, h3 => by
    simp only [List.map_cons, cmpS, mcmp]
    rw [cmpPart_nrm x y (h1 x List.mem_cons_self) (h2 y List.mem_cons_self)]
    rw [cmpS_mcmp r M N (n - 1) (m - 1) (fun z hz => h1 z (List.mem_cons_of_mem _ hz)) (fun z hz => h2 z (List.mem_cons_of_mem _ hz))
      (fun hr => ⟨fun z hz => (h3 hr).1 z (List.mem_cons_of_mem _ hz), fun z hz => (h3 hr).2.1 z (List.mem_cons_of_mem _ hz), tailOk_next (h3 hr).2.2.1, tailOk_next (h3 hr).2.2.2⟩)]
  | [], N, n, m, h1, h2, h3 => by
    rw [mcmp_end r _ _ (.inl rfl), List.map_nil, cmpS_end r _ _ _ _ (.inl rfl)]
    cases r
    · simp [moreS]
    · have e0 := more_true [] n (h3 rfl).1 (h3 rfl).2.2.1
      rw [List.map_nil] at e0
      rw [e0, more_true N m (h3 rfl).2.1 (h3 rfl).2.2.2]
      rfl
  | x :: M, [], n, m, h1, h2, h3 => by
    rw [mcmp_end r _ _ (.inr rfl), List.map_nil, cmpS_end r _ _ _ _ (.inr rfl)]
    cases r
    · simp [moreS]
    · have e0 := more_true [] m (h3 rfl).2.1 (h3 rfl).2.2.2
      rw [List.map_nil] at e0
      rw [more_true (x :: M) n (h3 rfl).1 (h3 rfl).2.2.1, e0]
      rfl

/-! The model's sequence, and when a list fits. -/
def seqM (r : Bool) (L : List Part) (t : List UInt8) : List Part := L ++ (pieces t).map fun p => (p, r || allDig p)
def fitP (r : Bool) (p : Part) : Bool := !(r && !p.2) && (!p.2 || (allDig p.1 && !(p.1.head? == some 48)))
def fitL (r : Bool) (L : List Part) : Bool := L.all (fitP r) && !(r && (match L.getLast? with | some p => p.1.isEmpty | none => false))
def digDots (t : List UInt8) : Bool := t.all fun c => c == 46 || isDig c

theorem pieces_dig : ∀ t : List UInt8, digDots t = true → ∀ p ∈ pieces t, allDig p = true
  | [], _, p, hp => by cases hp
  | c :: r, h, p, hp => by
    simp only [digDots, List.all_cons, Bool.and_eq_true] at h
    have ih := pieces_dig r h.2
    by_cases hc : c = 46
    · simp only [pieces, hc, if_true, List.mem_cons] at hp
      rcases hp with rfl | hp
      · rfl
      · exact ih p hp
    · have hd : isDig c = true := by
        have := h.1
        simpa [hc] using this
      simp only [pieces, hc, if_false] at hp
      cases hq : pieces r with
      | nil =>
        rw [hq] at hp
        simp at hp
        subst hp
        simp [allDig, hd]
      | cons q qs =>
        rw [hq] at hp
        have ih' := ih
        rw [hq] at ih'
        simp only [List.mem_cons] at hp
        rcases hp with rfl | hp
        · have := ih' q List.mem_cons_self
          simp [allDig] at this ⊢
          exact ⟨hd, this⟩
        · exact ih' p (List.mem_cons_of_mem _ hp)

theorem strip_same (x : List UInt8) (h : (x.head? == some 48) = false) : strip x = x := by
  cases x with
  | nil => rfl
  | cons a x =>
    have : ¬ a = 48 := by simpa using h
    simp [strip, this]
theorem seqS_seqM (r : Bool) (L : List Part) (t : List UInt8) (h : fitL r L = true) : seqS r L t = (seqM r L t).map nrm := by
  unfold seqS seqM
  rw [List.map_append, List.map_map]
  congr 1
  · simp only [fitL, Bool.and_eq_true] at h
    have h1 := List.all_eq_true.1 h.1
    conv => lhs; rw [← List.map_id L]
    refine List.map_congr_left fun x hx => ?_
    have := h1 x hx
    obtain ⟨x, b⟩ := x
    cases b
    · simp [nrm]
    · simp [fitP] at this
      simp [nrm]
      exact (strip_same x (by simpa using this.2)).symm
  · refine List.map_congr_left fun p _ => ?_
    simp only [Function.comp_def, norm, nrm, strip]
    cases (r || allDig p) <;> rfl

/-- THE PLAIN LAW. -/
theorem matches_model (r : Bool) (A B : List Part) (s t : List UInt8) (ha : fitL r A = true) (hb : fitL r B = true) (hd : r = true → digDots s = true ∧ digDots t = true) :
    cmpS r (seqS r A s) A.length (seqS r B t) B.length = mcmp r (seqM r A s) (seqM r B t) := by
  rw [seqS_seqM r A s ha, seqS_seqM r B t hb]
  have num : ∀ (L : List Part) (u : List UInt8), fitL r L = true → (r = true → digDots u = true) → ∀ x ∈ seqM r L u, numOk x := by
    intro L u hf hu x hx hn
    simp only [fitL, Bool.and_eq_true] at hf
    rcases List.mem_append.1 hx with hx | hx
    · have := List.all_eq_true.1 hf.1 x hx
      simp [fitP, hn] at this
      exact this.1
    · obtain ⟨p, hp, rfl⟩ := List.mem_map.1 hx
      cases r
      · simpa using hn
      · exact pieces_dig u (hu rfl) p hp
  have all : r = true → ∀ (L : List Part) (u : List UInt8), fitL r L = true → ∀ x ∈ seqM r L u, x.2 = true := by
    intro hr L u hf x hx
    subst hr
    simp only [fitL, Bool.and_eq_true] at hf
    rcases List.mem_append.1 hx with hx | hx
    · have := List.all_eq_true.1 hf.1 x hx
      simp [fitP] at this
      exact this.1
    · obtain ⟨p, hp, rfl⟩ := List.mem_map.1 hx
      rfl
  have tail : r = true → ∀ (L : List Part) (u : List UInt8), fitL r L = true → tailOk L.length (seqM r L u) := by
    intro hr L u hf hn
    subst hr
    simp only [fitL, Bool.and_eq_true] at hf
    have hlt : L.length - 1 < L.length := by omega
    refine ⟨L[L.length - 1], ?_, ?_⟩
    · unfold seqM
      rw [List.getElem?_append_left hlt, List.getElem?_eq_getElem hlt]
    · have hl : L.getLast? = some L[L.length - 1] := by rw [List.getLast?_eq_getElem?, List.getElem?_eq_getElem hlt]
      have h2 := hf.2
      rw [hl] at h2
      have h1 := List.all_eq_true.1 hf.1 L[L.length - 1] (List.getElem_mem _)
      generalize L[L.length - 1] = x at h1 h2
      obtain ⟨x, b⟩ := x
      simp [fitP] at h1 h2
      obtain ⟨rfl, h3⟩ := h1
      simp at h3
      cases x with
      | nil => exact absurd rfl h2
      | cons a x =>
        simp at h3 ⊢
        exact .inl h3.2
  exact cmpS_mcmp r _ _ _ _ (num A s ha fun h => (hd h).1) (num B t hb fun h => (hd h).2) (fun hr => ⟨all hr A s ha, all hr B t hb, tail hr A s ha, tail hr B t hb⟩)
end Pl
end Go.Proofs.Qxb6604528aDoor
