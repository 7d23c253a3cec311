import Derived.Test.Qxb6003569aDoorPlain
set_option linter.unusedSimpArgs false
set_option linter.unusedVariables false
namespace Go.Proofs.Qxb6003569aDoor
namespace Pl

def dots : List UInt8 := [46, 46, 46]
/-- A segment that may be read back. -/
def Fits (g : List UInt8) : Prop := g.head? ≠ some 123 ∧ ¬ (4 ≤ g.length ∧ g.head? = some 58 ∧ g.drop (g.length - 3) = dots)

/-- What zzAppendUnseg writes for a segment. -/
def unin (n : List UInt8) : List UInt8 := if 3 ≤ n.length ∧ n.drop (n.length - 3) = dots then 42 :: n.take (n.length - 3) else 58 :: n
def unseg (g : List UInt8) : List UInt8 := if 2 ≤ g.length ∧ g.head? = some 123 ∧ g[g.length - 1]? = some 125 then unin ((g.drop 1).take (g.length - 2)) else g

theorem unseg_brace (n : List UInt8) : unseg (123 :: (n ++ [125])) = unin n := by
  have hl : (123 :: (n ++ [125])).length = n.length + 2 := by simp
  unfold unseg
  rw [hl, if_pos ⟨by omega, rfl, by simp⟩]
  congr 1
  simp
theorem back {g : List UInt8} (h : Fits g) : unseg (tr g) = g := by
  cases g with
  | nil => rfl
  | cons c n =>
    rw [tr]
    by_cases h1 : c = 58
    · subst h1
      rw [if_pos rfl, unseg_brace]
      unfold unin
      rw [if_neg]
      rintro ⟨h2, h3⟩
      refine h.2 ⟨by simp; omega, rfl, ?_⟩
      rw [List.length_cons, show n.length + 1 - 3 = (n.length - 3) + 1 by omega, List.drop_succ_cons]
      exact h3
    · rw [if_neg h1]
      by_cases h2 : c = 42
      · subst h2
        rw [if_pos rfl, show n ++ [46, 46, 46, 125] = (n ++ dots) ++ [125] by simp [dots], unseg_brace]
        unfold unin
        have hl : (n ++ dots).length = n.length + 3 := by simp [dots]
        rw [hl, show n.length + 3 - 3 = n.length by omega, if_pos ⟨by omega, List.drop_left⟩, List.take_left]
      · rw [if_neg h2]
        unfold unseg
        rw [if_neg]
        rintro ⟨_, h3, _⟩
        exact h.1 h3

theorem segs_jn : ∀ (S : List (List UInt8)), S ≠ [] → Free S → segs (jn S) = S
  | [], h, _ => absurd rfl h
  | [p], _, hf => by rw [jn_one, segs_no (hf p (by simp))]
  | p :: q :: S, _, hf => by
    rw [jn_cons p (by simp), segs_hit _ (hf p (by simp)), segs_jn (q :: S) (by simp) (fun x hx => hf x (List.mem_cons_of_mem _ hx))]
def unpat (l : List UInt8) : List UInt8 := jn ((segs l).map unseg)
theorem round (l : List UInt8) (h : ∀ g ∈ segs l, Fits g) : unpat (pat l) = l := by
  unfold unpat pat
  rw [segs_jn _ (by simpa using segs_ne l) (free_tr (free_segs l)), List.map_map]
  have : (segs l).map (unseg ∘ tr) = segs l := by
    conv => rhs; rw [← List.map_id (segs l)]
    exact List.map_congr_left fun g hg => back (h g hg)
  rw [this, jn_segs]

theorem unseg_len (g : List UInt8) : (unseg g).length ≤ g.length := by
  unfold unseg
  split
  · rename_i h
    unfold unin
    split
    · simp; omega
    · simp; omega
  · exact Nat.le_refl _

/-! One step of a loop over the segments: s: where the segment begins; i: where it stands -/
def Clean (l : List UInt8) (s i : Nat) : Prop := s ≤ i ∧ i ≤ l.length ∧ 47 ∉ (l.drop s).take (i - s)
theorem Clean.start (l : List UInt8) (s : Nat) (h : s ≤ l.length) : Clean l s s := ⟨Nat.le_refl _, h, by simp⟩
theorem Clean.next {l : List UInt8} {s i : Nat} {x : UInt8} (h : Clean l s i) (hx : l[i]? = some x) (h47 : x ≠ 47) : Clean l s (i + 1) := by
  obtain ⟨h1, h2, h3⟩ := h
  have hi := (List.getElem?_eq_some_iff.1 hx).1
  refine ⟨by omega, by omega, ?_⟩
  rw [show i + 1 - s = (i - s) + 1 by omega, List.take_add_one, List.getElem?_drop, show s + (i - s) = i by omega, hx]
  simp only [Option.toList, List.mem_append, List.mem_singleton, not_or]
  exact ⟨h3, fun e => h47 e.symm⟩
theorem Clean.hit {l : List UInt8} {s i : Nat} (h : Clean l s i) (hx : l[i]? = some 47) : segs (l.drop s) = (l.drop s).take (i - s) :: segs (l.drop (i + 1)) := by
  obtain ⟨h1, h2, h3⟩ := h
  have hi := (List.getElem?_eq_some_iff.1 hx).1
  have : l.drop s = (l.drop s).take (i - s) ++ 47 :: l.drop (i + 1) := by
    conv => lhs; rw [← List.take_append_drop (i - s) (l.drop s)]
    rw [List.drop_drop, show s + (i - s) = i by omega]
    congr 1
    obtain ⟨hh, he⟩ := List.getElem?_eq_some_iff.1 hx
    rw [List.drop_eq_getElem_cons hh, he]
  conv => lhs; rw [this]
  rw [segs_hit _ h3]
theorem Clean.last {l : List UInt8} {s : Nat} (h : Clean l s l.length) : segs (l.drop s) = [(l.drop s).take (l.length - s)] := by
  have e : (l.drop s).take (l.length - s) = l.drop s := List.take_of_length_le (by rw [List.length_drop]; omega)
  have h3 := h.2.2
  rw [e] at h3 ⊢
  exact segs_no h3
end Pl
end Go.Proofs.Qxb6003569aDoor
