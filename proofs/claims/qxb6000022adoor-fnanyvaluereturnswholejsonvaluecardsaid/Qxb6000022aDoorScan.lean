import Derived.Test.Qxb6000022aDoorAval
set_option linter.unusedSimpArgs false
set_option linter.unusedVariables false
namespace Go.Proofs.Qxb6000022aDoor

/-! More bytes behind change nothing. -/
theorem sEnd_ext : ∀ (n : Nat) (l s : List UInt8) (m : Nat), l.length ≤ n → sEnd l = some m → sEnd (l ++ s) = some m := by
  intro n
  induction n with
  | zero =>
    intro l s m hl h
    cases l with
    | nil => cases h
    | cons a l => simp at hl
  | succ n ih =>
    intro l s m hl h
    cases l with
    | nil => cases h
    | cons a l =>
      rw [List.cons_append]
      rw [sEnd_cons] at h ⊢
      split at h
      · rename_i h92
        rw [if_pos h92]
        cases l with
        | nil => cases h
        | cons b l =>
          simp only [Option.map_eq_some_iff] at h
          obtain ⟨m', h', rfl⟩ := h
          have := ih l s m' (by simp at hl; omega) h'
          simp only [List.cons_append, this]
          rfl
      · rename_i h92
        rw [if_neg h92]
        split at h
        · rename_i h34
          rw [if_pos h34]; exact h
        · rename_i h34
          rw [if_neg h34]
          simp only [Option.map_eq_some_iff] at h
          obtain ⟨m', h', rfl⟩ := h
          rw [ih l s m' (by simp at hl; omega) h']
          rfl

theorem dScan_ext : ∀ (f d : Nat) (l s : List UInt8) (m : Nat), dScan f d l = some m → dScan f d (l ++ s) = some m := by
  intro f
  induction f with
  | zero => intro d l s m h; cases h
  | succ f ih =>
    intro d l s m h
    cases d with
    | zero => simp only [dScan] at h ⊢; exact h
    | succ d =>
      cases l with
      | nil => simp only [dScan] at h; cases h
      | cons c r =>
        rw [List.cons_append]
        rw [dScan] at h ⊢
        split at h
        · rename_i h1
          rw [if_pos h1]
          simp only [Option.bind_eq_some_iff, Option.map_eq_some_iff] at h
          obtain ⟨n, hn, m2, hm2, rfl⟩ := h
          have hle := sEnd_le _ r n (Nat.le_refl _) hn
          rw [sEnd_ext _ r s n (Nat.le_refl _) hn]
          simp only [Option.bind_some]
          rw [List.drop_append_of_le_length hle.1, ih _ _ s _ hm2]
          rfl
        · rename_i h1
          rw [if_neg h1]
          split at h
          · rename_i h2
            rw [if_pos h2]
            simp only [Option.map_eq_some_iff] at h
            obtain ⟨m2, hm2, rfl⟩ := h
            rw [ih _ _ s _ hm2]; rfl
          · rename_i h2
            rw [if_neg h2]
            split at h
            · rename_i h3
              rw [if_pos h3]
              simp only [Option.map_eq_some_iff] at h
              obtain ⟨m2, hm2, rfl⟩ := h
              rw [ih _ _ s _ hm2]; rfl
            · rename_i h3
              rw [if_neg h3]
              simp only [Option.map_eq_some_iff] at h
              obtain ⟨m2, hm2, rfl⟩ := h
              rw [ih _ _ s _ hm2]; rfl

/-- The scan goes from index i at depth d0 to index k at depth d1. -/
def Gs (l : List UInt8) (d0 i d1 k : Nat) : Prop := i ≤ k ∧ ∀ f m, dScan f d1 (l.drop k) = some m → ∃ g, dScan g d0 (l.drop i) = some (m + (k - i))

theorem Gs.refl (l : List UInt8) (d i : Nat) : Gs l d i d i := ⟨Nat.le_refl _, fun f m h => ⟨f, by rw [Nat.sub_self, Nat.add_zero]; exact h⟩⟩
theorem Gs.trans {l : List UInt8} {d0 i d1 k d2 n : Nat} (h1 : Gs l d0 i d1 k) (h2 : Gs l d1 k d2 n) : Gs l d0 i d2 n := by
  refine ⟨Nat.le_trans h1.1 h2.1, fun f m h => ?_⟩
  obtain ⟨g, hg⟩ := h2.2 f m h
  obtain ⟨g', hg'⟩ := h1.2 g _ hg
  refine ⟨g', ?_⟩
  rw [hg']
  have := h1.1
  have := h2.1
  congr 1
  omega
theorem drop_of_get {l : List UInt8} {i : Nat} {x : UInt8} (h : l[i]? = some x) : l.drop i = x :: l.drop (i + 1) := by
  obtain ⟨hi, rfl⟩ := List.getElem?_eq_some_iff.1 h
  exact List.drop_eq_getElem_cons hi

theorem Gs.byte {l : List UInt8} {d i : Nat} {x : UInt8} (h : l[i]? = some x) (h1 : x ≠ 34) (h2 : ¬ (x = 123 ∨ x = 91)) (h3 : ¬ (x = 125 ∨ x = 93)) : Gs l (d + 1) i (d + 1) (i + 1) := by
  refine ⟨Nat.le_succ _, fun f m hm => ⟨f + 1, ?_⟩⟩
  rw [drop_of_get h, dScan, if_neg h1, if_neg h2, if_neg h3, hm, show i + 1 - i = 1 by omega]
  rfl
theorem Gs.open {l : List UInt8} {d i : Nat} {x : UInt8} (h : l[i]? = some x) (h2 : x = 123 ∨ x = 91) : Gs l (d + 1) i (d + 2) (i + 1) := by
  have h1 : x ≠ 34 := by rcases h2 with rfl | rfl <;> decide
  refine ⟨Nat.le_succ _, fun f m hm => ⟨f + 1, ?_⟩⟩
  rw [drop_of_get h, dScan, if_neg h1, if_pos h2, hm, show i + 1 - i = 1 by omega]
  rfl
theorem Gs.close {l : List UInt8} {d i : Nat} {x : UInt8} (h : l[i]? = some x) (h3 : x = 125 ∨ x = 93) : Gs l (d + 1) i d (i + 1) := by
  have h1 : x ≠ 34 := by rcases h3 with rfl | rfl <;> decide
  have h2 : ¬ (x = 123 ∨ x = 91) := by rcases h3 with rfl | rfl <;> decide
  refine ⟨Nat.le_succ _, fun f m hm => ⟨f + 1, ?_⟩⟩
  rw [drop_of_get h, dScan, if_neg h1, if_neg h2, if_pos h3, hm, show i + 1 - i = 1 by omega]
  rfl
theorem Gs.str {l : List UInt8} {d i n : Nat} (h : l[i]? = some 34) (hn : sEnd (l.drop (i + 1)) = some n) : Gs l (d + 1) i (d + 1) (i + 1 + n) := by
  refine ⟨by omega, fun f m hm => ⟨f + 1, ?_⟩⟩
  rw [drop_of_get h, dScan, if_pos rfl, hn]
  simp only [Option.bind_some]
  rw [List.drop_drop, hm, show i + 1 + n - i = n + 1 by omega]
  rfl

/-- A byte that the scan only counts. -/
def calm (x : UInt8) : Bool := !(x == 34 || x == 123 || x == 91 || x == 125 || x == 93)
theorem calm_iff (x : UInt8) : calm x = true ↔ x ≠ 34 ∧ ¬ (x = 123 ∨ x = 91) ∧ ¬ (x = 125 ∨ x = 93) := by
  unfold calm
  simp
  constructor
  · rintro ⟨⟨⟨⟨h1, h2⟩, h3⟩, h4⟩, h5⟩
    exact ⟨h1, ⟨h2, h3⟩, h4, h5⟩
  · rintro ⟨h1, ⟨h2, h3⟩, h4, h5⟩
    exact ⟨⟨⟨⟨h1, h2⟩, h3⟩, h4⟩, h5⟩
/-- All bytes from i to k pass the test. -/
def Runs (t : UInt8 → Bool) (l : List UInt8) (i k : Nat) : Prop := i ≤ k ∧ k ≤ l.length ∧ ∀ j x, i ≤ j → j < k → l[j]? = some x → t x = true
theorem Runs.mono {t u : UInt8 → Bool} {l : List UInt8} {i k : Nat} (h : Runs t l i k) (hu : ∀ x, t x = true → u x = true) : Runs u l i k :=
  ⟨h.1, h.2.1, fun j x h1 h2 h3 => hu x (h.2.2 j x h1 h2 h3)⟩
theorem Runs.trans {t : UInt8 → Bool} {l : List UInt8} {i k n : Nat} (h : Runs t l i k) (h' : Runs t l k n) : Runs t l i n :=
  ⟨Nat.le_trans h.1 h'.1, h'.2.1, fun j x h1 h2 h3 => by
    rcases Nat.lt_or_ge j k with hj | hj
    · exact h.2.2 j x h1 hj h3
    · exact h'.2.2 j x hj h2 h3⟩
theorem Runs.refl (t : UInt8 → Bool) {l : List UInt8} {i : Nat} (h : i ≤ l.length) : Runs t l i i := ⟨Nat.le_refl _, h, fun j x h1 h2 => absurd h2 (by omega)⟩
theorem Runs.one {t : UInt8 → Bool} {l : List UInt8} {i : Nat} {x : UInt8} (h : l[i]? = some x) (ht : t x = true) : Runs t l i (i + 1) :=
  ⟨Nat.le_succ _, (List.getElem?_eq_some_iff.1 h).1, fun j y h1 h2 h3 => by
    have : j = i := by omega
    subst this
    rw [h] at h3
    rw [← Option.some.inj h3]; exact ht⟩
theorem Gs.calms {l : List UInt8} {d : Nat} : ∀ (n i k : Nat), k - i = n → Runs calm l i k → Gs l (d + 1) i (d + 1) k := by
  intro n
  induction n with
  | zero =>
    intro i k hk h
    have : i = k := by have := h.1; omega
    subst this
    exact Gs.refl _ _ _
  | succ n ih =>
    intro i k hk h
    have hi : i < l.length := by have := h.2.1; omega
    have hx : l[i]? = some l[i] := List.getElem?_eq_getElem hi
    have hc := (calm_iff _).1 (h.2.2 i l[i] (Nat.le_refl _) (by omega) hx)
    exact (Gs.byte hx hc.1 hc.2.1 hc.2.2).trans (ih (i + 1) k (by omega) ⟨by omega, h.2.1, fun j x h1 h2 h3 => h.2.2 j x (by omega) h2 h3⟩)

/-! Strings: the scan inside a string -/
/-- The string's scan goes from index s to index k. -/
def Sg (l : List UInt8) (s k : Nat) : Prop := s ≤ k ∧ ∀ m, sEnd (l.drop k) = some m → sEnd (l.drop s) = some (m + (k - s))
theorem Sg.refl (l : List UInt8) (s : Nat) : Sg l s s := ⟨Nat.le_refl _, fun m h => by rw [Nat.sub_self, Nat.add_zero]; exact h⟩
theorem Sg.step {l : List UInt8} {s k : Nat} {x : UInt8} (h : Sg l s k) (hx : l[k]? = some x) (h34 : x ≠ 34) (h92 : x ≠ 92) : Sg l s (k + 1) := by
  have hk := h.1
  refine ⟨by omega, fun m hm => ?_⟩
  have := h.2 (m + 1) (by rw [drop_of_get hx, sEnd_cons, if_neg h92, if_neg h34, hm]; rfl)
  rw [this]
  congr 1
  omega
theorem Sg.esc {l : List UInt8} {s k : Nat} {y : UInt8} (h : Sg l s k) (hx : l[k]? = some 92) (hy : l[k + 1]? = some y) : Sg l s (k + 2) := by
  have hk := h.1
  refine ⟨by omega, fun m hm => ?_⟩
  have := h.2 (m + 2) (by rw [drop_of_get hx, drop_of_get hy, sEnd_cons, if_pos rfl]; simp only [hm]; rfl)
  rw [this]
  congr 1
  omega
theorem Sg.stop {l : List UInt8} {s k : Nat} (h : Sg l s k) (hx : l[k]? = some 34) : sEnd (l.drop s) = some (k + 1 - s) := by
  have hk := h.1
  have := h.2 1 (by rw [drop_of_get hx, sEnd_cons, if_neg (by decide), if_pos rfl])
  rw [this]
  congr 1
  omega

/-! What zzParseValue says of a value at i that ends at k -/
def Top (l : List UInt8) (i k : Nat) : Prop :=
  (l[i]? = some 34 ∧ sEnd (l.drop (i + 1)) = some (k - (i + 1))) ∨ ((l[i]? = some 123 ∨ l[i]? = some 91) ∧ ∃ f, dScan f 1 (l.drop (i + 1)) = some (k - (i + 1))) ∨
    ((∃ x, l[i]? = some x ∧ x ≠ 34 ∧ x ≠ 123 ∧ x ≠ 91) ∧ Runs inWord l i k)
def VG (l : List UInt8) (i k : Nat) : Prop := i < k ∧ k ≤ l.length ∧ (∀ d, Gs l (d + 1) i (d + 1) k) ∧ Top l i k

/-- A byte of a number or a literal. -/
def wordB (x : UInt8) : Bool := isDig x || (97 ≤ x.toNat && x.toNat ≤ 122) || x.toNat == 45 || x.toNat == 43 || x.toNat == 46 || x.toNat == 69
theorem wordB_iff {x : UInt8} (h : wordB x = true) : (48 ≤ x.toNat ∧ x.toNat ≤ 57) ∨ (97 ≤ x.toNat ∧ x.toNat ≤ 122) ∨ x.toNat = 45 ∨ x.toNat = 43 ∨ x.toNat = 46 ∨ x.toNat = 69 := by
  unfold wordB isDig at h
  simp only [Bool.or_eq_true, Bool.and_eq_true, decide_eq_true_eq, beq_iff_eq] at h
  omega
theorem wordB_word {x : UInt8} (h : wordB x = true) : inWord x = true := by
  have := wordB_iff h
  unfold inWord isDelim
  simp
  omega
theorem wordB_calm {x : UInt8} (h : wordB x = true) : calm x = true := by
  have := wordB_iff h
  rw [calm_iff]
  simp only [← UInt8.toNat_inj, ne_eq]
  simp
  omega
theorem VG.word {l : List UInt8} {i k : Nat} (hik : i < k) (h : Runs wordB l i k) : VG l i k := by
  have hi : i < l.length := by have := h.2.1; omega
  have hx : l[i]? = some l[i] := List.getElem?_eq_getElem hi
  have hc := (calm_iff _).1 (wordB_calm (h.2.2 i l[i] (Nat.le_refl _) hik hx))
  exact ⟨hik, h.2.1, fun d => Gs.calms _ i k rfl (h.mono fun _ => wordB_calm), .inr (.inr ⟨⟨_, hx, hc.1, fun e => hc.2.1 (.inl e), fun e => hc.2.1 (.inr e)⟩, h.mono fun _ => wordB_word⟩)⟩
theorem VG.str {l : List UInt8} {i n : Nat} (h : l[i]? = some 34) (hn : sEnd (l.drop (i + 1)) = some n) : VG l i (i + 1 + n) := by
  have hi := (List.getElem?_eq_some_iff.1 h).1
  have hle := sEnd_le _ _ n (Nat.le_refl _) hn
  rw [List.length_drop] at hle
  exact ⟨by omega, by omega, fun d => Gs.str h hn, .inl ⟨h, by rw [show i + 1 + n - (i + 1) = n by omega]; exact hn⟩⟩
theorem VG.box {l : List UInt8} {i k : Nat} {x : UInt8} (h : l[i]? = some x) (hx : x = 123 ∨ x = 91) (hk : k ≤ l.length) (hg : ∀ d, Gs l (d + 1) (i + 1) d k) : VG l i k := by
  have h0 := (hg 0).1
  refine ⟨by omega, hk, fun d => (Gs.open h hx).trans (hg (d + 1)), .inr (.inl ⟨by rcases hx with rfl | rfl <;> simp [h], ?_⟩)⟩
  obtain ⟨g, hg'⟩ := (hg 0).2 1 0 rfl
  exact ⟨g, by rw [hg', Nat.zero_add]⟩

/-- What the law needs: the value, whole, before the suffix. -/
theorem av_of_top {v s : List UInt8} (hv : 0 < v.length) (h : Top v 0 v.length) (hs : (∃ x, v[0]? = some x ∧ x ≠ 34 ∧ x ≠ 123 ∧ x ≠ 91) → ∃ d r, s = d :: r ∧ isDelim d = true) : AV (v ++ s) v.length := by
  cases v with
  | nil => simp at hv
  | cons x p =>
    rcases h with ⟨h1, h2⟩ | ⟨h1, f, h2⟩ | ⟨h1, h2⟩
    · left
      simp at h1 h2
      subst h1
      exact ⟨p ++ s, p.length, rfl, sEnd_ext _ p s _ (Nat.le_refl _) h2, by simp⟩
    · right; left
      simp at h1 h2
      exact ⟨x, p ++ s, f, p.length, rfl, h1, dScan_ext _ _ p s _ h2, by simp⟩
    · right; right
      obtain ⟨d, r, rfl, hd⟩ := hs h1
      obtain ⟨y, hy, hy1⟩ := h1
      simp at hy
      subst hy
      refine ⟨x, p, d, r, rfl, ?_, hd, hy1, by simp⟩
      rw [List.all_eq_true]
      intro z hz
      obtain ⟨j, hj, rfl⟩ := List.getElem_of_mem hz
      exact h2.2.2 j _ (Nat.zero_le _) hj (List.getElem?_eq_getElem hj)
end Go.Proofs.Qxb6000022aDoor
