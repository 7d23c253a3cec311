import Derived.Test.Qxb6600668aDoorSeq
import Derived.RangeFuncNested
import Derived.RangeFuncBound
import Derived.RangeFuncCalls
import Derived.RangeFuncLeaves
import Derived.Shelf.Abstract
import Derived.Shelf.RegionOpen
import Derived.OwnWalkIn
import Derived.TacticsInMore
import Derived.LoopNIn
import Derived.LoopIn
set_option linter.unusedSimpArgs false
set_option linter.unusedVariables false
namespace Go.Proofs.Qxb6600668aDoor
open Go.RowKit Go.Shelf

/-- The iterator's three boxes hold these. -/
def Boxes (B : Nat) (cur : ByteArray) (W : World) : Prop :=
  W.cell? ⟨B, 0, none⟩ = some (.string cur) ∧ W.frozen? ⟨B, 0, none⟩ = false ∧ W.cell? ⟨B + 1, 0, none⟩ = some (.string ⟨#[47]⟩) ∧ W.cell? ⟨B + 2, 0, none⟩ = some (.int .i64 0) ∧ B + 3 ≤ W.heap.size

theorem Boxes.below {B : Nat} {cur : ByteArray} {W W' : World} (h : Boxes B cur W) (hb : Below (B + 3) W W') : Boxes B cur W' := by
  obtain ⟨h1, h2, h3, h4, h5⟩ := h
  exact ⟨(hb.cell (p := ⟨B, 0, none⟩) (by show B < B + 3; omega)).trans h1, (hb.frozen (p := ⟨B, 0, none⟩) (by show B < B + 3; omega)).trans h2,
    (hb.cell (p := ⟨B + 1, 0, none⟩) (by show B + 1 < B + 3; omega)).trans h3, (hb.cell (p := ⟨B + 2, 0, none⟩) (by show B + 2 < B + 3; omega)).trans h4, Nat.le_trans h5 hb.size⟩
theorem Boxes.store {B : Nat} {cur nxt : ByteArray} {W : World} (h : Boxes B cur W) : Boxes B nxt (W.setCell ⟨B, 0, none⟩ (.string nxt)) := by
  obtain ⟨h1, h2, h3, h4, h5⟩ := h
  have ne : ∀ j, j ≠ 0 → (⟨B, 0, none⟩ : Addr) ≠ ⟨B + j, 0, none⟩ := fun j hj e => by injection e with e1; omega
  exact ⟨World.cell?_setCell_same _ _ _ h1, by rw [World.frozen?_setCell]; exact h2, by rw [World.cell?_setCell_other _ _ _ _ (ne 1 (by decide))]; exact h3, by rw [World.cell?_setCell_other _ _ _ _ (ne 2 (by decide))]; exact h4, by simpa [World.setCell] using h5⟩

def left (B : Nat) (W : World) : Nat := match W.cell? ⟨B, 0, none⟩ with | some (.string c) => c.size | _ => 0
theorem left_is {B : Nat} {cur : ByteArray} {W : World} (h : Boxes B cur W) : left B W = cur.size := by unfold left; rw [h.1]

set_option maxHeartbeats 1000000 in
theorem iter_in (n : Nat) (hn : 1 ≤ n) (l B : Nat) (s0 : ByteArray) (hs0 : s0.size ≤ 16777216) (J Jx : List ByteArray → World → Prop)
    (hJc : ∀ pre W u v, J pre W → W.cell? ⟨B, 0, none⟩ = some (.string u) → J pre (W.setCell ⟨B, 0, none⟩ (.string v)))
    (hY : ∀ pre x W, J pre W → YieldAt Fence.wide (n - 1) Tryd.prog l #[.string x] W fun e W' =>
      (e = .returned (.bool true) ∧ J (pre ++ [x]) W' ∧ Below (B + 3) W W') ∨ (e = .returned (.bool false) ∧ Jx (pre ++ [x]) W'))
    (W : World) (hB : Boxes B s0 W) (h0 : J [] W) :
    CallsIn Fence.wide n Tryd.prog 12 #[.func (.yield l) #[] #[], .pointer (some ⟨B + 1, 0, none⟩), .pointer (some ⟨B, 0, none⟩), .pointer (some ⟨B + 2, 0, none⟩)] W fun e W' => (∃ v, e = .returned v) ∧
      ((∃ xs, xs.map (·.data.toList) = Pl.segs s0.data.toList ∧ J xs W') ∨ (∃ pre rest, pre.map (·.data.toList) ++ rest = Pl.segs s0.data.toList ∧ Jx pre W')) := by
  have HB0 : Hid (Boxes B s0 W ∧ J [] W) := ⟨hB, h0⟩
  obtain ⟨c1, c2, c3, c4, c5⟩ := hB
  refine callsIn_of_wp Tryd.func12 rfl trivial ?_ rfl
  simp only [Tryd.ntmps12, List.size_toArray, List.length_cons, List.length_nil, Nat.reduceAdd, Nat.reduceSub, Array.replicate_succ, Array.replicate_zero, List.push_toArray, List.append_toArray, List.nil_append, List.cons_append]
  gi_wp2
  clear c1 c2 c3 c4 c5 h0
  gi_loopw [7] (fun _ wr => ∃ (pre : List ByteArray) (cur : ByteArray), Hid (Boxes B cur wr ∧ J pre wr ∧ pre.map (·.data.toList) ++ Pl.segs cur.data.toList = Pl.segs s0.data.toList ∧ cur.size ≤ 16777216)) (fun _ wr => left B wr)
  case atStart => exact ⟨[], s0, HB0.out.1, HB0.out.2, rfl, hs0⟩
  case round =>
    clear HB0
    obtain ⟨pre, cur, HR⟩ := hrel
    have hbx := HR.out.1
    obtain ⟨c1, c2, c3, c4, c5⟩ := hbx
    have hix := index_any cur wr
    have hsz := HR.out.2.2.2
    rcases slash_cases cur.data.toList with hno | ⟨p, r, hp, he⟩
    · rw [index_no hno] at hix
      obtain ⟨fn, tmps, assign, body, hy, hYR⟩ := hY pre cur wr HR.out.2.1
      have HIX : Hid (Calls Tryd.prog 14 #[.string cur, .string ⟨#[47]⟩] wr fun e w' => e = .returned (.int .i64 (-1)) ∧ w' = wr) := hix
      have HE : Hid ((pre ++ [cur]).map (·.data.toList) = Pl.segs s0.data.toList) := by
        have := HR.out.2.2.1
        rw [Pl.segs_no hno] at this
        show _ = _
        rw [← this]
        simp
      clear hix hno
      gi_wp2_with (refine ⟨trivial, ?_⟩; gi_at_call 14; refine (callsIn_wide.2 HIX.out).mono ?_; rintro e w' ⟨rfl, hw⟩; subst hw)
      refine hYR.mono ?_
      rintro e W3 (⟨rfl, hJ3, hk3⟩ | ⟨rfl, hJx3⟩)
      · gi_wp2
        go_end0
        exact ⟨⟨_, rfl⟩, .inl ⟨pre ++ [cur], HE.out, hJ3⟩⟩
      · gi_wp2
        go_end0
        exact ⟨⟨_, rfl⟩, .inr ⟨pre ++ [cur], [], by rw [List.append_nil]; exact HE.out, hJx3⟩⟩
    · rw [he, index_hit r hp] at hix
      have hlen : cur.size = p.length + r.length + 1 := by rw [Lib.size_eq, he]; simp; omega
      obtain ⟨fn, tmps, assign, body, hy, hYR⟩ := hY pre (cur.extract 0 p.length) wr HR.out.2.1
      have HIX : Hid (Calls Tryd.prog 14 #[.string cur, .string ⟨#[47]⟩] wr fun e w' => e = .returned (.int .i64 (p.length : Int)) ∧ w' = wr) := hix
      have hfr : (cur.extract 0 p.length).data.toList = p := by rw [Lib.extract_data, he]; simp
      have hre : (cur.extract (p.length + 1) cur.size).data.toList = r := by
        rw [Lib.extract_to_end, he, show p ++ 47 :: r = (p ++ [47]) ++ r by simp, show p.length + 1 = (p ++ [47]).length by simp, List.drop_left]
      have HE : Hid ((pre ++ [cur.extract 0 p.length]).map (·.data.toList) ++ Pl.segs (cur.extract (p.length + 1) cur.size).data.toList = Pl.segs s0.data.toList) := by
        have := HR.out.2.2.1
        rw [he, Pl.segs_hit r hp] at this
        show _ = _
        rw [← this, hre, List.map_append, List.map_singleton, hfr]
        simp
      have HSZ : Hid ((cur.extract (p.length + 1) cur.size).size = r.length) := by show _ = _; rw [Lib.size_eq, hre]
      have HLEN : Hid (cur.size = p.length + r.length + 1) := hlen
      have hp1 : (p.length : Int) ≤ cur.size := by omega
      have hp2 : (p.length : Int) + 1 ≤ cur.size := by omega
      have hp3 : ¬ (p.length : Int) < 0 := by omega
      have hsz2 : p.length ≤ 16777216 := by omega
      clear hix hfr hre he hp hlen
      gi_wp2_with (refine ⟨trivial, ?_⟩; gi_at_call 14; refine (callsIn_wide.2 HIX.out).mono ?_; rintro e w' ⟨rfl, hw⟩; subst hw)
      refine hYR.mono ?_
      rintro e W3 (⟨rfl, hJ3, hk3⟩ | ⟨rfl, hJx3⟩)
      · have hB3 : Boxes B cur W3 := HR.out.1.below hk3
        have HB3 : Hid (Boxes B cur W3) := hB3
        obtain ⟨d1, d2, d3, d4, d5⟩ := hB3
        gi_wp2
        go_roundw
        case rel => exact ⟨pre ++ [cur.extract 0 p.length], cur.extract (p.length + 1) cur.size, HB3.out.store, hJc _ _ _ _ hJ3 d1, HE.out, by rw [HSZ.out]; have := HLEN.out; omega⟩
        case measure => rw [left_is HB3.out.store, left_is HR.out.1, HSZ.out, HLEN.out]; omega
      · gi_wp2
        refine bodyPost_ret (results_none rfl _ _ _) rfl ?_
        exact ⟨⟨_, rfl⟩, .inr ⟨pre ++ [cur.extract 0 p.length], _, HE.out, hJx3⟩⟩
end Go.Proofs.Qxb6600668aDoor
