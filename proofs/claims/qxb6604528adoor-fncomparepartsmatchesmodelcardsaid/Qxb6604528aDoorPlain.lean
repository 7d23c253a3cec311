import Derived.Lib.Strings
import Derived.Lib.IndexBytes
import Derived.Lib.Bytealg
import Derived.Lib.SlTrimSet
import Derived.Lib.Small
set_option linter.unusedSimpArgs false
set_option linter.unusedVariables false
namespace Go.Proofs.Qxb6604528aDoor
namespace Pl

/-! Plain functions: what the Go texts of version.go compute, on lists of bytes. -/
def cutB (l : List UInt8) : List UInt8 := l.takeWhile (· != 46)
def cutA (l : List UInt8) : List UInt8 := (l.dropWhile (· != 46)).tail

theorem cut_hit (l : List UInt8) (k : Nat) (h : k < l.length) (ha : (l.take k).all (· != 46) = true) (hc : l[k] = 46) : l.take k = cutB l ∧ l.drop (k + 1) = cutA l := by
  have e : l = l.take k ++ 46 :: l.drop (k + 1) := by
    rw [← hc, List.getElem_cons_drop, List.take_append_drop]
  have ha' : ∀ x ∈ l.take k, (x != 46) = true := by simpa [List.all_eq_true] using ha
  refine ⟨?_, ?_⟩
  · unfold cutB
    conv => rhs; rw [e]
    rw [List.takeWhile_append_of_pos ha']
    simp
  · unfold cutA
    conv => rhs; rw [e]
    rw [List.dropWhile_append_of_pos ha']
    simp

theorem cut_miss (l : List UInt8) (ha : l.all (· != 46) = true) : l = cutB l ∧ [] = cutA l := by
  have ha' : ∀ x ∈ l, (x != 46) = true := by simpa [List.all_eq_true] using ha
  have h1 := List.takeWhile_append_of_pos (l₂ := []) ha'
  have h2 := List.dropWhile_append_of_pos (l₂ := []) ha'
  simp only [List.append_nil, List.takeWhile_nil, List.dropWhile_nil] at h1 h2
  unfold cutB cutA
  rw [h1, h2]
  exact ⟨rfl, rfl⟩

theorem cutB_le (l : List UInt8) : (cutB l).length ≤ l.length := by
  have := congrArg List.length (List.takeWhile_append_dropWhile (p := (· != 46)) (l := l))
  simp only [List.length_append] at this
  unfold cutB
  omega
theorem cutA_lt (l : List UInt8) (h : l ≠ []) : (cutA l).length < l.length := by
  have := congrArg List.length (List.takeWhile_append_dropWhile (p := (· != 46)) (l := l))
  simp only [List.length_append] at this
  have h1 : 0 < l.length := List.length_pos_iff.2 h
  unfold cutA
  rw [List.length_tail]
  omega

/-- A text's pieces between dots; what stands behind the last dot counts where it is not empty. -/
def pieces : List UInt8 → List (List UInt8)
  | [] => []
  | c :: r => if c = 46 then [] :: pieces r else match pieces r with
    | [] => [[c]]
    | p :: ps => (c :: p) :: ps

theorem pieces_cut : ∀ (l : List UInt8), l ≠ [] → pieces l = cutB l :: pieces (cutA l)
  | [], h => absurd rfl h
  | c :: r, _ => by
    by_cases hc : c = 46
    · subst hc
      simp [pieces, cutB, cutA]
    · have hc' : (c != 46) = true := by simpa using hc
      have e1 : cutB (c :: r) = c :: cutB r := by simp [cutB, List.takeWhile_cons, hc']
      have e2 : cutA (c :: r) = cutA r := by simp [cutA, List.dropWhile_cons, hc']
      rw [e1, e2]
      simp only [pieces, hc, if_false]
      by_cases hr : r = []
      · subst hr
        simp [pieces, cutB, cutA]
      · rw [pieces_cut r hr]

theorem pieces_nil_iff (l : List UInt8) : pieces l = [] ↔ l = [] := by
  constructor
  · intro h
    by_cases hl : l = []
    · exact hl
    · rw [pieces_cut l hl] at h; cases h
  · intro h; subst h; rfl

def isDig (c : UInt8) : Bool := 48 ≤ c && c ≤ 57
def allDig (l : List UInt8) : Bool := l.all isDig

/-- A part as it orders. -/
abbrev Part := List UInt8 × Bool
def norm (r : Bool) (p : List UInt8) : Part := if r || allDig p then (p.dropWhile (· == 48), true) else (p, false)

def orInt (x y : Int) : Int := if x ≠ 0 then x else y
def cmpPart (x y : Part) : Int :=
  if x.2 && y.2 then orInt (Lib.compareInt x.1.length y.1.length) (Lib.compareBytes x.1 y.1)
  else if x.2 then -1 else if y.2 then 1 else Lib.compareBytes x.1 y.1

theorem compareBytes_self : ∀ l : List UInt8, Lib.compareBytes l l = 0
  | [] => rfl
  | a :: r => by simp [Lib.compareBytes, compareBytes_self r]
theorem cmpPart_self (x : Part) : cmpPart x x = 0 := by
  unfold cmpPart
  simp [orInt, Lib.compareInt, compareBytes_self]
  cases x.2 <;> simp

def moreS (r : Bool) (xs : List Part) (n : Nat) : Bool := if r && n == 0 then xs.any (fun x => !x.1.isEmpty) else !xs.isEmpty

/-- compareParts, on the sequences of parts that are left; n, m: how many of them stand in the lists. -/
def cmpS (r : Bool) : List Part → Nat → List Part → Nat → Int
  | x :: xs, n, y :: ys, m => if cmpPart x y ≠ 0 then cmpPart x y else cmpS r xs (n - 1) ys (m - 1)
  | [], n, ys, m => if moreS r [] n then 1 else if moreS r ys m then -1 else 0
  | x :: xs, n, [], m => if moreS r (x :: xs) n then 1 else if moreS r [] m then -1 else 0

def seqS (r : Bool) (L : List Part) (t : List UInt8) : List Part := L ++ (pieces t).map (norm r)

def moreT (r : Bool) (n : Nat) (t : List UInt8) : Bool := if r && n == 0 then t.any (fun c => !(c == 48 || c == 46)) else !(n == 0 && t.isEmpty)

theorem drop0_empty : ∀ l : List UInt8, (!(l.dropWhile (· == 48)).isEmpty) = l.any (fun c => !(c == 48))
  | [] => rfl
  | a :: l => by
    rw [List.dropWhile_cons, List.any_cons]
    by_cases h : (a == 48) = true
    · rw [if_pos h, drop0_empty l, h]; rfl
    · rw [if_neg h]
      have : (a == 48) = false := by simpa using h
      rw [this]; rfl
theorem pieces_any : ∀ t : List UInt8, (pieces t).any (fun p => p.any (fun c => !(c == 48))) = t.any (fun c => !(c == 48 || c == 46))
  | [] => rfl
  | c :: r => by
    have ih := pieces_any r
    by_cases hc : c = 46
    · subst hc
      simp only [pieces, if_true, List.any_cons, ih]
      rfl
    · have h46 : (c == 46) = false := by simpa using hc
      simp only [pieces, hc, if_false, List.any_cons]
      rw [← ih, h46, Bool.or_false]
      cases pieces r with
      | nil => simp
      | cons p ps => simp [Bool.or_assoc]
theorem moreS_eq (r : Bool) (L : List Part) (t : List UInt8) : moreS r (seqS r L t) L.length = moreT r L.length t := by
  unfold moreS moreT
  by_cases h : (r && L.length == 0) = true
  · rw [if_pos h, if_pos h]
    have hr : r = true ∧ L = [] := by simpa using h
    obtain ⟨rfl, rfl⟩ := hr
    rw [← pieces_any]
    simp only [seqS, List.nil_append, List.any_map, Function.comp_def, norm, Bool.true_or, if_true, drop0_empty]
  · rw [if_neg h, if_neg h]
    cases L with
    | nil =>
      simp only [seqS, List.nil_append, List.length_nil]
      have := pieces_nil_iff t
      cases t with
      | nil => rfl
      | cons a t =>
        have h2 : pieces (a :: t) ≠ [] := by rw [Ne, this]; simp
        cases hp : pieces (a :: t) with
        | nil => exact absurd hp h2
        | cons => rfl
    | cons x L => simp [seqS]
theorem seqS_nil_iff (r : Bool) (L : List Part) (t : List UInt8) : seqS r L t = [] ↔ (L.length == 0 && t.isEmpty) = true := by
  unfold seqS
  rw [List.append_eq_nil_iff, List.map_eq_nil_iff, pieces_nil_iff]
  simp

theorem cmpS_end (r : Bool) (S : List Part) (n : Nat) (T : List Part) (m : Nat) (h : S = [] ∨ T = []) : cmpS r S n T m = if moreS r S n then 1 else if moreS r T m then -1 else 0 := by
  cases S with
  | nil => simp [cmpS]
  | cons x S =>
    cases T with
    | nil => simp [cmpS]
    | cons y T => rcases h with h | h <;> cases h

theorem cmpS_ext (r : Bool) (z : Part) : ∀ (S : List Part) (n : Nat), n ≤ S.length → cmpS r S n (S ++ [z]) n = if moreS r [z] 0 then -1 else 0
  | [], n, h => by
    have : n = 0 := by simpa using h
    subst this
    simp [cmpS, moreS]
  | x :: xs, n, h => by
    simp only [List.cons_append, cmpS, cmpPart_self, ne_eq, not_true, if_false]
    exact cmpS_ext r z xs (n - 1) (by simp at h; omega)
theorem cmpS_ext' (r : Bool) (z : Part) : ∀ (S : List Part) (n : Nat), n ≤ S.length → cmpS r (S ++ [z]) n S n = if moreS r [z] 0 then 1 else 0
  | [], n, h => by
    have : n = 0 := by simpa using h
    subst this
    simp [cmpS, moreS]
  | x :: xs, n, h => by
    simp only [List.cons_append, cmpS, cmpPart_self, ne_eq, not_true, if_false]
    exact cmpS_ext' r z xs (n - 1) (by simp at h; omega)

theorem pieces_dot (c : UInt8) (hc : c ≠ 46) : ∀ (l : List UInt8), l ≠ [] → l.getLast? ≠ some 46 → pieces (l ++ [46, c]) = pieces l ++ [[c]]
  | [], h, _ => absurd rfl h
  | [a], _, h => by
    have ha : a ≠ 46 := by simpa using h
    simp [pieces, ha, hc]
  | a :: b :: r, _, h => by
    have ih := pieces_dot c hc (b :: r) (by simp) (by simpa using h)
    have e : (a :: b :: r) ++ [46, c] = a :: ((b :: r) ++ [46, c]) := rfl
    rw [e]
    by_cases ha : a = 46
    · simp only [pieces, ha, if_true] at ih ⊢
      rw [ih]; rfl
    · have hn : pieces (b :: r) ≠ [] := by rw [Ne, pieces_nil_iff]; simp
      generalize hq : pieces (b :: r) = q at ih hn
      cases q with
      | nil => exact absurd rfl hn
      | cons p ps =>
        conv => lhs; unfold pieces
        conv => rhs; unfold pieces
        rw [hq, ih]
        simp [ha]
theorem pieces_end (c : UInt8) (hc : c ≠ 46) : ∀ (l : List UInt8), (l = [] ∨ l.getLast? = some 46) → pieces (l ++ [c]) = pieces l ++ [[c]]
  | [], _ => by simp [pieces, hc]
  | [a], h => by
    have ha : a = 46 := by simpa using h
    subst ha
    simp [pieces, hc]
  | a :: b :: r, h => by
    have ih := pieces_end c hc (b :: r) (.inr (by simpa using h))
    have e : (a :: b :: r) ++ [c] = a :: ((b :: r) ++ [c]) := rfl
    rw [e]
    by_cases ha : a = 46
    · simp only [pieces, ha, if_true] at ih ⊢
      rw [ih]; rfl
    · have hn : pieces (b :: r) ≠ [] := by rw [Ne, pieces_nil_iff]; simp
      generalize hq : pieces (b :: r) = q at ih hn
      cases q with
      | nil => exact absurd rfl hn
      | cons p ps =>
        conv => lhs; unfold pieces
        conv => rhs; unfold pieces
        rw [hq, ih]
        simp [ha]
end Pl
end Go.Proofs.Qxb6604528aDoor
