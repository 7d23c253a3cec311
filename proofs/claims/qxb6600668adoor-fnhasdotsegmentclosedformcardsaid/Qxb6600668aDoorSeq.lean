import Derived.Test.Qxb6600668aDoorSub
import Derived.Test.Qxb6600668aDoorShelf
set_option linter.unusedSimpArgs false
set_option linter.unusedVariables false
namespace Go.Proofs.Qxb6600668aDoor
open Go.RowKit

theorem index_any (s : ByteArray) (w : World) : Calls Tryd.prog 14 #[.string s, .string ⟨#[47]⟩] w fun e w' => e = .returned (.int .i64 (Lib.indexByte s.data.toList 47)) ∧ w' = w :=
  Any.strings_Index_one Tryd.lays143 s 47 w

/-- The world with the iterator's three boxes: s, sep, sepSave. -/
def boxed (w : World) (s : ByteArray) : World := ((w.alloc (.cells #[.string s] 9)).alloc (.cells #[.string ⟨#[47]⟩] 9)).alloc (.cells #[.int .i64 0] 3)

theorem splitSeq_any (s : ByteArray) (w : World) : Calls Tryd.prog 11 #[.string s, .string ⟨#[47]⟩, .int .i64 0] w fun e w' =>
    e = .returned (.func (.func 12) #[] #[.pointer (some ⟨w.heap.size + 1, 0, none⟩), .pointer (some ⟨w.heap.size, 0, none⟩), .pointer (some ⟨w.heap.size + 2, 0, none⟩)]) ∧ w' = boxed w s := by
  unfold boxed
  go_enter Tryd.func11, Tryd.ntmps11
  go_wp2
  go_ret
  exact ⟨rfl, rfl⟩
theorem splitSeq'_any (s : ByteArray) (w : World) : Calls Tryd.prog 10 #[.string s, .string ⟨#[47]⟩] w fun e w' =>
    e = .returned (.func (.func 12) #[] #[.pointer (some ⟨w.heap.size + 1, 0, none⟩), .pointer (some ⟨w.heap.size, 0, none⟩), .pointer (some ⟨w.heap.size + 2, 0, none⟩)]) ∧ w' = boxed w s := by
  have h := splitSeq_any s w
  go_enter Tryd.func10, Tryd.ntmps10
  go_wp2_with fail
  refine h.mono ?_
  rintro e w' ⟨rfl, rfl⟩
  clear h
  generalize hw2 : boxed w s = w2
  go_wp2
  go_ret
  exact ⟨rfl, hw2.symm⟩

/-- The index of the first slash. -/
theorem index_no {p : List UInt8} (h : 47 ∉ p) : Lib.indexByte p 47 = -1 := by
  induction p with
  | nil => rfl
  | cons c p ih =>
    simp only [List.mem_cons, not_or] at h
    rw [Lib.indexByte, if_neg (by simpa using (Ne.symm h.1)), ih h.2]
    rfl
theorem index_hit {p : List UInt8} (r : List UInt8) (h : 47 ∉ p) : Lib.indexByte (p ++ 47 :: r) 47 = (p.length : Int) := by
  induction p with
  | nil => rw [List.nil_append, Lib.indexByte]; rfl
  | cons c p ih =>
    simp only [List.mem_cons, not_or] at h
    rw [List.cons_append, Lib.indexByte, if_neg (by simpa using (Ne.symm h.1)), ih h.2, if_neg (by simp)]
    simp
theorem slash_cases (l : List UInt8) : (47 ∉ l) ∨ ∃ p r, 47 ∉ p ∧ l = p ++ 47 :: r := by
  by_cases hm : 47 ∈ l
  · obtain ⟨p, r, rfl, hp⟩ := List.eq_append_cons_of_mem hm
    exact .inr ⟨p, r, hp, rfl⟩
  · exact .inl hm
end Go.Proofs.Qxb6600668aDoor
