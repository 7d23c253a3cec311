import Derived.Test.Qxb6604528aDoorRows
import Derived.Test.Qxb6604528aDoorItoa
import Derived.Lib.LaidTab
set_option linter.unusedSimpArgs false
set_option linter.unusedVariables false
namespace Go.Proofs.Qxb6604528aDoor
open Go.RowKit Go.Shelf

/-- The name of the fourth variable that the row lists: the library's table of powers of ten. -/
def tabNm : String := ((Rows.fnIntegerValueTextIsDecimalRow.laid)[3]?.map (·.1)).getD ""
def TabOk (w : World) : Prop := Lib.TabIs Tryd.prog w tabNm .u64 Lib.pow10Tab

theorem formatInt_any (n : Int) (h0 : -9223372036854775808 ≤ n) (h1 : n ≤ 9223372036854775807) (w : World) (htab : TabOk w) :
    Calls Tryd.prog 26 #[.int .i64 n, .int .i64 10] w fun e w' => e = .returned (.string ⟨(Lib.itoa n).toArray⟩) ∧ Below w.heap.size w w' := by
  refine (Any.strconv_FormatInt_10 Tryd.laysM173 n h0 h1 w htab).mono ?_
  rintro e w' ⟨rfl, k, os, rfl⟩
  refine ⟨rfl, rfl, rfl, rfl, ?_, fun j hj => ?_⟩
  · show w.heap.size ≤ (w.heap ++ os).size
    simp
  · show (w.heap ++ os)[j]? = w.heap[j]?
    rw [Array.getElem?_append_left hj]

theorem wrap_back (i : Int) (h0 : -9223372036854775808 ≤ i) (h1 : i ≤ 9223372036854775807) : wrap64 (IntKind.u64.wrap i) = i := by
  have e : ∀ x : Int, IntKind.u64.wrap x = x % 18446744073709551616 := fun x => by simp [IntKind.wrap, IntKind.bits, IntKind.signed]
  rw [e]
  unfold wrap64
  omega

set_option maxHeartbeats 400000 in
theorem text_any (i : Int) (h0 : -9223372036854775808 ≤ i) (h1 : i ≤ 9223372036854775807) (w : World) (htab : ∀ w', Below w.heap.size w w' → TabOk w') :
    Calls Tryd.prog 17 #[.agg #[.string ⟨#[]⟩, .int .u64 (IntKind.u64.wrap i), .int .u8 4, .int .u8 0]] w fun e w' => e = .returned (.string ⟨(Lib.itoa i).toArray⟩) ∧ Below w.heap.size w w' := by
  have h26 := formatInt_any i h0 h1
  generalize Lib.itoa i = res at h26 ⊢
  have H26 : Hid (∀ w, TabOk w → Calls Tryd.prog 26 #[.int .i64 i, .int .i64 10] w fun e w' => e = .returned (.string ⟨res.toArray⟩) ∧ Below w.heap.size w w') := h26
  have HT : Hid (∀ w', Below w.heap.size w w' → TabOk w') := htab
  have HWB : Hid (wrap64 (IntKind.u64.wrap i) = i) := wrap_back i h0 h1
  clear h26 htab h0 h1
  go_enter Tryd.func17, Tryd.ntmps17
  go_wp2_with fail
  rw [HWB.out]
  refine (H26.out _ (HT.out _ ((Below.refl _ _).alloc (Nat.le_refl _) _))).mono ?_
  rintro e w' ⟨rfl, hb⟩
  have HB : Hid (Below w.heap.size w w') := ((Below.refl _ _).alloc (Nat.le_refl _) _).trans (hb.mono (by simp))
  clear hb
  go_wp2_with fail
  go_ret
  exact ⟨rfl, HB.out⟩

set_option maxHeartbeats 400000 in
theorem intValue_any (i : Int) (w : World) :
    Calls Tryd.prog 15 #[.int .i64 i] w fun e w' => e = .returned (.agg #[.string ⟨#[]⟩, .int .u64 (IntKind.u64.wrap i), .int .u8 4, .int .u8 0]) ∧ Below w.heap.size w w' := by
  go_enter Tryd.func15, Tryd.ntmps15
  go_wp2
  exact bodyPost_ret (v := .agg #[.string ⟨#[]⟩, .int .u64 (IntKind.u64.wrap i), .int .u8 4, .int .u8 0]) (by simp [results, Tryd.results15, go_sem]) rfl ⟨rfl, (Below.refl _ _).alloc (Nat.le_refl _) _⟩

set_option maxHeartbeats 400000 in
theorem kind_any (s : ByteArray) (u : Int) (w : World) :
    Calls Tryd.prog 16 #[.agg #[.string s, .int .u64 u, .int .u8 4, .int .u8 0]] w fun e w' => e = .returned (.int .u8 4) ∧ Below w.heap.size w w' := by
  go_enter Tryd.func16, Tryd.ntmps16
  go_wp2
  go_ret
  exact ⟨rfl, (Below.refl _ _).alloc (Nat.le_refl _) _⟩

def DecPost (w : World) (e : Ending) (w' : World) : Prop := e = .returned (.bool true) ∧ Below w.heap.size w w'

/-- A new block of four cells, and later blocks: it stands. -/
theorem box4 {w w' : World} {v0 v1 v2 v3 : Value} {T : TypeId} (hb : Below (w.heap.size + 1) (w.alloc (.cells #[v0, v1, v2, v3] T)) w') :
    w'.cell? ⟨w.heap.size, 0, none⟩ = some v0 ∧ w'.cell? ⟨w.heap.size, 1, none⟩ = some v1 ∧ w'.cell? ⟨w.heap.size, 2, none⟩ = some v2 ∧ w'.cell? ⟨w.heap.size, 3, none⟩ = some v3 := by
  refine ⟨?_, ?_, ?_, ?_⟩
  all_goals
    rw [hb.cell (Nat.lt_succ_self _)]
    go_simp

set_option maxHeartbeats 400000 in
theorem dec_walk (i : Int) (h0 : -9223372036854775808 ≤ i) (h1 : i ≤ 9223372036854775807) (w : World) (htab : ∀ w', Below w.heap.size w w' → TabOk w') :
    Calls Tryd.prog 5 #[.int .i64 i] w (DecPost w) := by
  have HTX : Hid (∀ W, (∀ w', Below W.heap.size W w' → TabOk w') → Calls Tryd.prog 17 #[.agg #[.string ⟨#[]⟩, .int .u64 (IntKind.u64.wrap i), .int .u8 4, .int .u8 0]] W fun e w' => e = .returned (.string ⟨(Lib.itoa i).toArray⟩) ∧ Below W.heap.size W w') := fun W h => text_any i h0 h1 W h
  have HIT : Hid (∀ W, Calls Tryd.prog 18 #[.int .i64 i] W fun e w' => e = .returned (.string ⟨(Lib.itoa i).toArray⟩) ∧ Below W.heap.size W w') := fun W => itoa_any i h0 h1 W
  have HT : Hid (∀ w', Below w.heap.size w w' → TabOk w') := htab
  clear htab h0 h1
  go_enter Tryd.func5, Tryd.ntmps5
  go_wp2_with fail
  refine (intValue_any i w).mono ?_
  rintro e w1 ⟨rfl, hb1⟩
  have HB1 : Hid (Below w.heap.size w w1) := hb1
  clear hb1
  go_wp2_with fail
  refine (kind_any _ _ _).mono ?_
  rintro e w2 ⟨rfl, hb2⟩
  have hb2' : Below (w1.heap.size + 1) (w1.alloc (.cells #[.string ⟨#[]⟩, .int .u64 (IntKind.u64.wrap i), .int .u8 4, .int .u8 0] 40)) w2 := hb2.mono (by simp)
  obtain ⟨c0, c1, c2, c3⟩ := box4 hb2'
  have HB2 : Hid (Below w.heap.size w w2) := (HB1.out.alloc HB1.out.size _).trans (hb2'.mono (Nat.le_succ_of_le HB1.out.size))
  clear hb2 hb2'
  go_wp2_with fail
  refine (HTX.out w2 (fun w' h => HT.out w' (HB2.out.trans (h.mono HB2.out.size)))).mono ?_
  rintro e w3 ⟨rfl, hb3⟩
  have HB3 : Hid (Below w.heap.size w w3) := HB2.out.trans (hb3.mono HB2.out.size)
  clear hb3 HTX
  generalize (⟨(Lib.itoa i).toArray⟩ : ByteArray) = res at HIT ⊢
  go_wp2_with fail
  refine (HIT.out _).mono ?_
  rintro e w4 ⟨rfl, hb4⟩
  have HB4 : Hid (Below w.heap.size w w4) := HB3.out.trans (hb4.mono HB3.out.size)
  clear hb4 HIT
  go_wp2_with fail
  go_ret
  exact ⟨rfl, HB4.out⟩
end Go.Proofs.Qxb6604528aDoor
