import Derived.Lib.SplitLaws
import Derived.Lib.Split
import Derived.Lib.CountLaws
import Derived.Lib.IndexBytes
import Derived.Lib.IndexLaws
import Derived.Lib.Join
import Derived.Lib.Strings
set_option linter.unusedSimpArgs false
set_option linter.unusedVariables false
namespace Go.Proofs.Qxb6003569aDoor
namespace Pl

def segs : List UInt8 → List (List UInt8)
  | [] => [[]]
  | c :: r => if c = 47 then [] :: segs r else (match segs r with | [] => [[c]] | h :: t => (c :: h) :: t)

theorem segs_no : ∀ {p : List UInt8}, 47 ∉ p → segs p = [p]
  | [], _ => rfl
  | c :: r, h => by
    simp only [List.mem_cons, not_or] at h
    rw [segs, if_neg (Ne.symm h.1), segs_no h.2]
theorem segs_hit : ∀ {p : List UInt8} (r : List UInt8), 47 ∉ p → segs (p ++ 47 :: r) = p :: segs r
  | [], r, _ => by rw [List.nil_append, segs, if_pos rfl]
  | c :: p, r, h => by
    simp only [List.mem_cons, not_or] at h
    rw [List.cons_append, segs, if_neg (Ne.symm h.1), segs_hit r h.2]

/-- The induction over a text's segments. -/
theorem segs_ind {P : List UInt8 → Prop} (h0 : ∀ p, 47 ∉ p → P p) (h1 : ∀ p r, 47 ∉ p → P r → P (p ++ 47 :: r)) : ∀ (n : Nat) (l : List UInt8), l.length ≤ n → P l := by
  intro n
  induction n with
  | zero =>
    intro l hl
    have : l = [] := List.length_eq_zero_iff.1 (by omega)
    subst this
    exact h0 [] (by simp)
  | succ n ih =>
    intro l hl
    by_cases hm : 47 ∈ l
    · obtain ⟨p, r, rfl, hp⟩ := List.eq_append_cons_of_mem hm
      exact h1 p r hp (ih r (by simp at hl; omega))
    · exact h0 l hm

theorem index_no {p : List UInt8} (h : 47 ∉ p) : Lib.index p [47] = -1 := by
  rw [Lib.index_one]
  induction p with
  | nil => rfl
  | cons c p ih =>
    simp only [List.mem_cons, not_or] at h
    rw [Lib.indexByte, if_neg (by simpa using (Ne.symm h.1)), ih h.2]
    rfl
theorem index_hit {p : List UInt8} (r : List UInt8) (h : 47 ∉ p) : Lib.index (p ++ 47 :: r) [47] = (p.length : Int) := by
  rw [Lib.index_one]
  induction p with
  | nil => rw [List.nil_append, Lib.indexByte]; rfl
  | cons c p ih =>
    simp only [List.mem_cons, not_or] at h
    rw [List.cons_append, Lib.indexByte, if_neg (by simpa using (Ne.symm h.1)), ih h.2, if_neg (by simp)]
    simp

theorem drop_hit (p r : List UInt8) : (p ++ 47 :: r).drop (p.length + ([47] : List UInt8).length) = r := by
  rw [show p ++ 47 :: r = (p ++ [47]) ++ r by simp, show p.length + ([47] : List UInt8).length = (p ++ [47]).length by simp, List.drop_left]
theorem split_segs (l : List UInt8) : Lib.split l [47] = segs l := by
  refine segs_ind (P := fun l => Lib.split l [47] = segs l) (fun p hp => ?_) (fun p r hp ih => ?_) _ l (Nat.le_refl _)
  · unfold Lib.split
    rw [Lib.count_miss (index_no hp), segs_no hp]
    rfl
  · unfold Lib.split at ih ⊢
    rw [Lib.count_hit (by simp) (index_hit r hp), Nat.add_comm 1, Lib.splitK, index_hit r hp, if_neg (by simp), segs_hit r hp]
    have hd := drop_hit p r
    rw [show ((p.length : Int)).toNat = p.length by simp, hd, Nat.add_zero, List.take_left, ih]
theorem segs_len (l : List UInt8) : (segs l).length = Lib.count l [47] + 1 := by
  refine segs_ind (P := fun l => (segs l).length = Lib.count l [47] + 1) (fun p hp => ?_) (fun p r hp ih => ?_) _ l (Nat.le_refl _)
  · rw [segs_no hp, Lib.count_miss (index_no hp)]; rfl
  · have hd := drop_hit p r
    rw [segs_hit r hp, List.length_cons, ih, Lib.count_hit (by simp) (index_hit r hp), hd]; omega

def jn (S : List (List UInt8)) : List UInt8 := Lib.join S [47]
theorem jn_one (p : List UInt8) : jn [p] = p := by simp [jn, Lib.join, List.intercalate]
theorem jn_cons (p : List UInt8) {S : List (List UInt8)} (h : S ≠ []) : jn (p :: S) = p ++ 47 :: jn S := by
  cases S with
  | nil => exact absurd rfl h
  | cons q S => simp [jn, Lib.join, List.intercalate]
theorem segs_ne (l : List UInt8) : segs l ≠ [] := by
  intro h
  have := segs_len l
  rw [h] at this
  simp at this
theorem jn_segs (l : List UInt8) : jn (segs l) = l := by
  refine segs_ind (P := fun l => jn (segs l) = l) (fun p hp => ?_) (fun p r hp ih => ?_) _ l (Nat.le_refl _)
  · rw [segs_no hp, jn_one]
  · rw [segs_hit r hp, jn_cons p (segs_ne r), ih]
def Free (S : List (List UInt8)) : Prop := ∀ s ∈ S, 47 ∉ s
theorem free_segs (l : List UInt8) : Free (segs l) := by
  refine segs_ind (P := fun l => Free (segs l)) (fun p hp => ?_) (fun p r hp ih => ?_) _ l (Nat.le_refl _)
  · rw [segs_no hp]; intro s hs; simp at hs; rw [hs]; exact hp
  · rw [segs_hit r hp]
    intro s hs
    rcases List.mem_cons.1 hs with rfl | h
    · exact hp
    · exact ih s h

/-! The pattern of a path -/
def tr : List UInt8 → List UInt8
  | [] => []
  | c :: n => if c = 58 then 123 :: (n ++ [125]) else if c = 42 then 123 :: (n ++ [46, 46, 46, 125]) else c :: n
def pat (l : List UInt8) : List UInt8 := jn ((segs l).map tr)
theorem free_tr {S : List (List UInt8)} (h : Free S) : Free (S.map tr) := by
  intro s hs
  obtain ⟨x, hx, rfl⟩ := List.mem_map.1 hs
  have := h x hx
  cases x with
  | nil => exact this
  | cons c n =>
    simp only [List.mem_cons, not_or] at this
    rw [tr]
    by_cases h1 : c = 58
    · rw [if_pos h1]; simp [this.2]
    · rw [if_neg h1]
      by_cases h2 : c = 42
      · rw [if_pos h2]; simp [this.2]
      · rw [if_neg h2]; simp [this.1, this.2]

/-! The counts -/
def step (z : Nat × Nat × Nat × Bool) (x : UInt8) : Nat × Nat × Nat × Bool :=
  if x = 47 then (z.1 + 1, z.2.1, z.2.2.1, true) else (z.1, z.2.1 + (if z.2.2.2 = true ∧ x = 58 then 1 else 0), z.2.2.1 + (if z.2.2.2 = true ∧ x = 42 then 1 else 0), false)
def stat (l : List UInt8) : Nat × Nat × Nat × Bool := l.foldl step (0, 0, 0, true)
def cb (p : List UInt8) : Nat := if p.head? = some 58 then 1 else 0
def sb (p : List UInt8) : Nat := if p.head? = some 42 then 1 else 0

theorem fold_false {p : List UInt8} (hp : 47 ∉ p) (s c t : Nat) : p.foldl step (s, c, t, false) = (s, c, t, false) := by
  induction p with
  | nil => rfl
  | cons x p ih =>
    simp only [List.mem_cons, not_or] at hp
    rw [List.foldl_cons, step, if_neg (Ne.symm hp.1)]
    simpa using ih hp.2
theorem fold_seg {p : List UInt8} (hp : 47 ∉ p) (s c t : Nat) : ∃ a, p.foldl step (s, c, t, true) = (s, c + cb p, t + sb p, a) := by
  cases p with
  | nil => exact ⟨true, by simp [cb, sb]⟩
  | cons x p =>
    simp only [List.mem_cons, not_or] at hp
    refine ⟨false, ?_⟩
    rw [List.foldl_cons, step, if_neg (Ne.symm hp.1)]
    simp only [true_and]
    rw [fold_false hp.2]
    simp [cb, sb]
def cs (S : List (List UInt8)) : Nat := (S.map cb).sum
def ss (S : List (List UInt8)) : Nat := (S.map sb).sum
theorem fold_jn : ∀ (S : List (List UInt8)) (s c t : Nat), S ≠ [] → Free S → ∃ a, (jn S).foldl step (s, c, t, true) = (s + (S.length - 1), c + cs S, t + ss S, a)
  | [], _, _, _, h, _ => absurd rfl h
  | [p], s, c, t, _, hf => by
    rw [jn_one]
    obtain ⟨a, ha⟩ := fold_seg (hf p (by simp)) s c t
    exact ⟨a, by rw [ha]; simp [cs, ss]⟩
  | p :: q :: S, s, c, t, _, hf => by
    rw [jn_cons p (by simp), List.foldl_append]
    obtain ⟨a, ha⟩ := fold_seg (hf p (by simp)) s c t
    rw [ha, List.foldl_cons, step, if_pos rfl]
    obtain ⟨a', ha'⟩ := fold_jn (q :: S) (s + 1) (c + cb p) (t + sb p) (by simp) (fun x hx => hf x (List.mem_cons_of_mem _ hx))
    refine ⟨a', ?_⟩
    simp only at ha' ⊢
    rw [ha']
    simp [cs, ss]
    omega

theorem len_tr (p : List UInt8) : (tr p).length = p.length + cb p + 4 * sb p := by
  cases p with
  | nil => rfl
  | cons c n =>
    unfold tr cb sb
    by_cases h : c = 58
    · subst h; simp
    · by_cases h2 : c = 42
      · subst h2; simp
      · simp [h, h2]
theorem len_jn : ∀ (S : List (List UInt8)), S ≠ [] → (jn (S.map tr)).length = (jn S).length + cs S + 4 * ss S
  | [], h => absurd rfl h
  | [p], _ => by rw [List.map_singleton, jn_one, jn_one, len_tr]; simp [cs, ss]
  | p :: q :: S, _ => by
    rw [List.map_cons, jn_cons _ (by simp), jn_cons _ (by simp)]
    have := len_jn (q :: S) (by simp)
    simp only [List.length_append, List.length_cons, len_tr, this]
    simp [cs, ss]
    omega
theorem tr_same {p : List UInt8} (h1 : cb p = 0) (h2 : sb p = 0) : tr p = p := by
  cases p with
  | nil => rfl
  | cons c n =>
    unfold cb at h1
    unfold sb at h2
    simp at h1 h2
    rw [tr, if_neg h1, if_neg h2]
theorem map_same : ∀ (S : List (List UInt8)), cs S = 0 → ss S = 0 → S.map tr = S
  | [], _, _ => rfl
  | p :: S, h1, h2 => by
    simp [cs, ss] at h1 h2
    rw [List.map_cons, tr_same h1.1 h2.1, map_same S (by simpa [cs] using h1.2) (by simpa [ss] using h2.2)]

/-- The law's three claims. -/
theorem law (l : List UInt8) : (stat (pat l)).1 = (stat l).1 ∧ (pat l).length = l.length + (stat l).2.1 + 4 * (stat l).2.2.1 ∧ ((stat l).2.1 = 0 → (stat l).2.2.1 = 0 → pat l = l) := by
  obtain ⟨a, ha⟩ := fold_jn (segs l) 0 0 0 (segs_ne l) (free_segs l)
  rw [jn_segs] at ha
  obtain ⟨a', ha'⟩ := fold_jn ((segs l).map tr) 0 0 0 (by simpa using segs_ne l) (free_tr (free_segs l))
  have e1 : stat l = (0 + ((segs l).length - 1), 0 + cs (segs l), 0 + ss (segs l), a) := ha
  have e2 : stat (pat l) = (0 + (((segs l).map tr).length - 1), 0 + cs ((segs l).map tr), 0 + ss ((segs l).map tr), a') := ha'
  have e3 := len_jn (segs l) (segs_ne l)
  rw [jn_segs] at e3
  refine ⟨by rw [e1, e2]; simp, by rw [e1]; show (jn ((segs l).map tr)).length = _; rw [e3]; simp, ?_⟩
  rw [e1]
  simp only [Nat.zero_add]
  intro h1 h2
  show jn ((segs l).map tr) = l
  rw [map_same _ h1 h2, jn_segs]
theorem fold_bound (l : List UInt8) : ∀ z : Nat × Nat × Nat × Bool, (l.foldl step z).1 ≤ z.1 + l.length ∧ (l.foldl step z).2.1 ≤ z.2.1 + l.length ∧ (l.foldl step z).2.2.1 ≤ z.2.2.1 + l.length := by
  induction l with
  | nil => intro z; simp
  | cons x l ih =>
    intro z
    rw [List.foldl_cons]
    have := ih (step z x)
    have hs : (step z x).1 ≤ z.1 + 1 ∧ (step z x).2.1 ≤ z.2.1 + 1 ∧ (step z x).2.2.1 ≤ z.2.2.1 + 1 := by
      unfold step
      split
      · simp
      · simp only
        refine ⟨by omega, ?_, ?_⟩ <;> split <;> omega
    simp only [List.length_cons]
    omega
theorem stat_bound (l : List UInt8) : (stat l).1 ≤ l.length ∧ (stat l).2.1 ≤ l.length ∧ (stat l).2.2.1 ≤ l.length := by
  have := fold_bound l (0, 0, 0, true)
  simpa [stat] using this
end Pl
end Go.Proofs.Qxb6003569aDoor
