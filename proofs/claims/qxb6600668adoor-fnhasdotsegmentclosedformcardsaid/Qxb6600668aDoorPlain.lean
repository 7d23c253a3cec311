import Derived.Lib.Strings
import Derived.Lib.IndexBytes
import Derived.Lib.Bytealg
set_option linter.unusedSimpArgs false
set_option linter.unusedVariables false
namespace Go.Proofs.Qxb6600668aDoor
namespace Pl

def segs : List UInt8 → List (List UInt8)
  | [] => [[]]
  | c :: r => if c = 47 then [] :: segs r else (match segs r with | [] => [[c]] | h :: t => (c :: h) :: t)

theorem segs_no : ∀ {p : List UInt8}, 47 ∉ p → segs p = [p]
  | [], _ => rfl
  | c :: r, h => by
    simp only [List.mem_cons, not_or] at h
    rw [segs, if_neg (Ne.symm h.1), segs_no h.2]
theorem segs_hit : ∀ {p : List UInt8} (r : List UInt8), 47 ∉ p → segs (p ++ 47 :: r) = p :: segs r
  | [], r, _ => by rw [List.nil_append, segs, if_pos rfl]
  | c :: p, r, h => by
    simp only [List.mem_cons, not_or] at h
    rw [List.cons_append, segs, if_neg (Ne.symm h.1), segs_hit r h.2]

theorem segs_ind {P : List UInt8 → Prop} (h0 : ∀ p, 47 ∉ p → P p) (h1 : ∀ p r, 47 ∉ p → P r → P (p ++ 47 :: r)) : ∀ (n : Nat) (l : List UInt8), l.length ≤ n → P l := by
  intro n
  induction n with
  | zero =>
    intro l hl
    have : l = [] := List.length_eq_zero_iff.1 (by omega)
    subst this
    exact h0 [] (by simp)
  | succ n ih =>
    intro l hl
    by_cases hm : 47 ∈ l
    · obtain ⟨p, r, rfl, hp⟩ := List.eq_append_cons_of_mem hm
      exact h1 p r hp (ih r (by simp at hl; omega))
    · exact h0 l hm

/-- The text sub occurs in F. -/
def Occ (F sub : List UInt8) : Prop := ∃ a b, F = a ++ sub ++ b
def frame (l : List UInt8) : List UInt8 := 47 :: (l ++ [47])

/-- The first slash is where it is. -/
theorem first_slash {p x y z : List UInt8} (hp : 47 ∉ p) (h : x ++ 47 :: y = p ++ 47 :: z) : (x = p ∧ y = z) ∨ ∃ c, x = p ++ 47 :: c ∧ z = c ++ 47 :: y := by
  rcases List.append_eq_append_iff.1 h with ⟨a, h1, h2⟩ | ⟨a, h1, h2⟩
  · cases a with
    | nil =>
      simp at h1 h2
      exact .inl ⟨h1.symm, h2⟩
    | cons c a =>
      rw [List.cons_append] at h2
      injection h2 with h3 h4
      exact absurd (by rw [h1, ← h3]; simp) hp
  · cases a with
    | nil =>
      simp at h1 h2
      exact .inl ⟨h1, h2.symm⟩
    | cons c a =>
      rw [List.cons_append] at h2
      injection h2 with h3 h4
      subst h3
      exact .inr ⟨a, h1, h4⟩

theorem occ_seg {d : List UInt8} (hd : 47 ∉ d) (l : List UInt8) : Occ (frame l) (47 :: (d ++ [47])) ↔ d ∈ segs l := by
  refine segs_ind (P := fun l => Occ (frame l) (47 :: (d ++ [47])) ↔ d ∈ segs l) (fun p hp => ?_) (fun p r hp ih => ?_) _ l (Nat.le_refl _)
  · rw [segs_no hp, List.mem_singleton]
    constructor
    · rintro ⟨a, b, h⟩
      unfold frame at h
      cases a with
      | nil =>
        simp at h
        have h' : d ++ 47 :: b = p ++ 47 :: [] := by rw [← h]
        rcases first_slash hp h' with ⟨h1, _⟩ | ⟨c, h1, _⟩
        · exact h1
        · exact absurd (by rw [h1]; simp) hd
      | cons c a =>
        simp at h
        obtain ⟨rfl, h⟩ := h
        have h' : a ++ 47 :: (d ++ 47 :: b) = p ++ 47 :: [] := by rw [← h]
        rcases first_slash hp h' with ⟨_, h2⟩ | ⟨c, _, h2⟩
        · exact absurd h2 (by simp)
        · exact absurd h2 (by simp)
    · rintro rfl
      exact ⟨[], [], by simp [frame]⟩
  · rw [segs_hit r hp, List.mem_cons, ← ih]
    have hF : frame (p ++ 47 :: r) = 47 :: (p ++ frame r) := by simp [frame]
    rw [hF]
    constructor
    · rintro ⟨a, b, h⟩
      cases a with
      | nil =>
        simp [frame] at h
        have h' : d ++ 47 :: b = p ++ 47 :: (r ++ [47]) := by rw [← h]
        rcases first_slash hp h' with ⟨h1, _⟩ | ⟨c, h1, _⟩
        · exact .inl h1
        · exact absurd (by rw [h1]; simp) hd
      | cons c a =>
        simp [frame] at h
        obtain ⟨rfl, h⟩ := h
        have h' : a ++ 47 :: (d ++ 47 :: b) = p ++ 47 :: (r ++ [47]) := by rw [← h]
        refine .inr ?_
        rcases first_slash hp h' with ⟨_, h2⟩ | ⟨c, _, h2⟩
        · exact ⟨[], b, by simp [frame, h2]⟩
        · exact ⟨47 :: c, b, by simp [frame, h2]⟩
    · rintro (rfl | ⟨a, b, h⟩)
      · exact ⟨[], r ++ [47], by simp [frame]⟩
      · exact ⟨47 :: (p ++ a), b, by rw [h]; simp⟩

def isDot (g : List UInt8) : Bool := g == [46] || g == [46, 46]
theorem law (l : List UInt8) : ((segs l).any isDot = true) ↔ Occ (frame l) [47, 46, 47] ∨ Occ (frame l) [47, 46, 46, 47] := by
  have h1 := occ_seg (d := [46]) (by decide) l
  have h2 := occ_seg (d := [46, 46]) (by decide) l
  rw [show ([47, 46, 47] : List UInt8) = 47 :: ([46] ++ [47]) from rfl, show ([47, 46, 46, 47] : List UInt8) = 47 :: ([46, 46] ++ [47]) from rfl, h1, h2, List.any_eq_true]
  constructor
  · rintro ⟨g, hg, h⟩
    unfold isDot at h
    simp only [Bool.or_eq_true, beq_iff_eq] at h
    rcases h with rfl | rfl
    · exact .inl hg
    · exact .inr hg
  · rintro (h | h)
    · exact ⟨_, h, by decide⟩
    · exact ⟨_, h, by decide⟩
end Pl
end Go.Proofs.Qxb6600668aDoor
