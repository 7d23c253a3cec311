import Derived.Test.Qxb6003569aDoorStats
import Derived.Test.Qxb6003569aDoorShelf
import Derived.Deep.LoopGhost
set_option linter.unusedSimpArgs false
set_option linter.unusedVariables false
namespace Go.Proofs.Qxb6003569aDoor
open Go.RowKit

theorem bytes_ext {a b : ByteArray} (h : a.data.toList = b.data.toList) : a = b := by
  obtain ⟨⟨x⟩⟩ := a
  obtain ⟨⟨y⟩⟩ := b
  simp at h
  rw [h]

def pieces (p : ByteArray) : List ByteArray := Lib.splitB ⟨#[47]⟩ 0 (Lib.countB p ⟨#[47]⟩) p
theorem pieces_data (p : ByteArray) : (pieces p).map (·.data.toList) = Pl.segs p.data.toList := by
  unfold pieces
  rw [Lib.splitB_data]
  exact Pl.split_segs p.data.toList
theorem pieces_len (p : ByteArray) : (pieces p).length = Lib.countB p ⟨#[47]⟩ + 1 := by
  have h := congrArg List.length (pieces_data p)
  rw [List.length_map, Pl.segs_len] at h
  exact h
theorem segs_small (l : List UInt8) : (Pl.segs l).length ≤ l.length + 1 := by
  refine Pl.segs_ind (P := fun l => (Pl.segs l).length ≤ l.length + 1) (fun p hp => ?_) (fun p r hp ih => ?_) _ l (Nat.le_refl _)
  · rw [Pl.segs_no hp]; simp
  · rw [Pl.segs_hit r hp]; simp; omega
theorem pieces_small (p : ByteArray) : (pieces p).length ≤ p.size + 1 := by
  have h := congrArg List.length (pieces_data p)
  rw [List.length_map] at h
  rw [h]
  have := segs_small p.data.toList
  rw [← Lib.size_eq] at this
  exact this

theorem split_any (p : ByteArray) (m : Int) (w : World) (hs : p.size ≤ 1048576) (hm : w.cell? ⟨0, 0, none⟩ = some (.int .i64 m)) :
    Calls Tryd.prog 13 #[.string p, .string ⟨#[47]⟩] w fun e w' => e = .returned (.slice (some ⟨w.heap.size, 0, none⟩) (pieces p).length (pieces p).length) ∧ w' = w.alloc (.cells ((pieces p).map Value.string).toArray 9) := by
  have h := Any.strings_Split { Tryd.laysM146 with } Tryd.laysM146.i9 p ⟨#[47]⟩ m w (by omega) hm (by decide)
  rw [pieces_len]
  exact h
theorem cut_any (s q : ByteArray) (w : World) :
    Calls Tryd.prog 14 #[.string s, .string q] w fun e w' => e = .returned (.tuple #[.string ⟨(Lib.trimPrefix s.data.toList q.data.toList).toArray⟩, .bool (Lib.hasPrefix s.data.toList q.data.toList)]) ∧ w' = w :=
  Any.strings_CutPrefix Tryd.lays103 s q w

theorem seg_le (l : List UInt8) : ∀ s ∈ Pl.segs l, s.length ≤ l.length := by
  refine Pl.segs_ind (P := fun l => ∀ s ∈ Pl.segs l, s.length ≤ l.length) (fun p hp => ?_) (fun p r hp ih => ?_) _ l (Nat.le_refl _)
  · rw [Pl.segs_no hp]; intro s hs; simp at hs; rw [hs]; exact Nat.le_refl _
  · rw [Pl.segs_hit r hp]
    intro s hs
    rcases List.mem_cons.1 hs with rfl | h
    · simp
    · have := ih s h; simp; omega
theorem piece_le (p : ByteArray) : ∀ x ∈ pieces p, x.data.toList.length ≤ p.size := by
  intro x hx
  have : x.data.toList ∈ Pl.segs p.data.toList := by rw [← pieces_data]; exact List.mem_map_of_mem (f := fun x : ByteArray => x.data.toList) hx
  have := seg_le _ _ this
  rw [← Lib.size_eq p] at this
  exact this
theorem trim_le (l q : List UInt8) : (Lib.trimPrefix l q).length ≤ l.length := by
  unfold Lib.trimPrefix
  split
  · rw [List.length_drop]; omega
  · exact Nat.le_refl _

def trB (x : ByteArray) : ByteArray := ⟨(Pl.tr x.data.toList).toArray⟩

def PatRel (w : World) (B : Nat) (xs : List ByteArray) (k : Nat) (wr : World) : Prop :=
  Below w.heap.size w wr ∧ w.heap.size ≤ B ∧ B < wr.heap.size ∧ (∀ j, wr.frozen? ⟨B, j, none⟩ = false) ∧ ∀ j x, xs[j]? = some x → wr.cell? ⟨B, j, none⟩ = some (.string (if j < k then trB x else x))

theorem PatRel.put {w wr : World} {B k : Nat} {xs : List ByteArray} {x : ByteArray} (h : PatRel w B xs k wr) (hx : xs[k]? = some x) : PatRel w B xs (k + 1) (wr.setCell ⟨B, k, none⟩ (.string (trB x))) := by
  obtain ⟨h1, h2, h3, h4, h5⟩ := h
  have ne : ∀ i j : Nat, i ≠ j → (⟨B, i, none⟩ : Addr) ≠ ⟨B, j, none⟩ := fun i j hij e => hij (by injection e)
  refine ⟨h1.setCell h2 _, h2, by simpa [World.setCell] using h3, fun j => by rw [World.frozen?_setCell]; exact h4 j, fun j y hy => ?_⟩
  by_cases e : k = j
  · subst e
    rw [World.cell?_setCell_same _ _ _ (h5 k x hx), if_pos (Nat.lt_succ_self _)]
    rw [hx] at hy
    rw [Option.some.inj hy]
  · rw [World.cell?_setCell_other _ _ _ _ (ne _ _ e), h5 j y hy]
    by_cases hj : j < k
    · rw [if_pos hj, if_pos (by omega)]
    · rw [if_neg hj, if_neg (by omega)]
theorem PatRel.skip {w wr : World} {B k : Nat} {xs : List ByteArray} {x : ByteArray} (h : PatRel w B xs k wr) (hx : xs[k]? = some x) (ht : trB x = x) : PatRel w B xs (k + 1) wr := by
  obtain ⟨h1, h2, h3, h4, h5⟩ := h
  refine ⟨h1, h2, h3, h4, fun j y hy => ?_⟩
  rw [h5 j y hy]
  by_cases hj : j < k
  · rw [if_pos hj, if_pos (by omega)]
  · rw [if_neg hj]
    by_cases e : j = k
    · subst e
      rw [hx] at hy
      rw [if_pos (by omega), ← Option.some.inj hy, ht]
    · rw [if_neg (by omega)]

def PatPost (p : ByteArray) (w : World) (e : Ending) (w' : World) : Prop := e = .returned (.string ⟨(Pl.pat p.data.toList).toArray⟩) ∧ Below w.heap.size w w'

theorem data_app (a b : ByteArray) : (a ++ b).data.toList = a.data.toList ++ b.data.toList := by
  simp
theorem pre_one (l : List UInt8) (c : UInt8) : Lib.hasPrefix l [c] = decide (l.head? = some c) := by
  cases l with
  | nil => rfl
  | cons x l =>
    unfold Lib.hasPrefix
    rw [Bool.eq_iff_iff]
    simp [List.isPrefixOf]
    exact eq_comm
theorem tr58 (x : ByteArray) (h : Lib.hasPrefix x.data.toList [58] = true) : (⟨#[123]⟩ ++ ⟨(Lib.trimPrefix x.data.toList [58]).toArray⟩ ++ ⟨#[125]⟩ : ByteArray) = trB x := by
  apply bytes_ext
  rw [data_app, data_app]
  unfold Lib.trimPrefix
  rw [if_pos h]
  rw [pre_one, decide_eq_true_eq] at h
  unfold trB
  generalize x.data.toList = l at *
  cases l with
  | nil => cases h
  | cons c n =>
    simp at h
    subst h
    simp [Pl.tr]
theorem tr42 (x : ByteArray) (h58 : Lib.hasPrefix x.data.toList [58] = false) (h : Lib.hasPrefix x.data.toList [42] = true) : (⟨#[123]⟩ ++ ⟨(Lib.trimPrefix x.data.toList [42]).toArray⟩ ++ ⟨#[46, 46, 46, 125]⟩ : ByteArray) = trB x := by
  apply bytes_ext
  rw [data_app, data_app]
  unfold Lib.trimPrefix
  rw [if_pos h]
  rw [pre_one, decide_eq_true_eq] at h
  unfold trB
  generalize x.data.toList = l at *
  cases l with
  | nil => cases h
  | cons c n =>
    simp at h
    subst h
    simp [Pl.tr]
theorem tr_id (x : ByteArray) (h58 : Lib.hasPrefix x.data.toList [58] = false) (h : Lib.hasPrefix x.data.toList [42] = false) : trB x = x := by
  apply bytes_ext
  rw [pre_one, decide_eq_false_iff_not] at h h58
  unfold trB
  generalize x.data.toList = l at *
  cases l with
  | nil => rfl
  | cons c n =>
    simp at h h58
    simp [Pl.tr, h, h58]

theorem pat_start (w : World) (q p : ByteArray) (xs : List ByteArray) : PatRel w (w.heap.size + 1) xs 0 ((w.alloc (.cells #[.string q, .string p] 24)).alloc (.cells (xs.map Value.string).toArray 9)) := by
  have hb := ((Below.refl w.heap.size w).alloc (Nat.le_refl _) (.cells #[.string q, .string p] 24)).alloc (by simp) (.cells (xs.map Value.string).toArray 9)
  refine ⟨hb, Nat.le_succ _, by simp, fun j => by go_simp, fun j x hx => ?_⟩
  have hj := (List.getElem?_eq_some_iff.1 hx).1
  have : (xs.map Value.string)[j]? = some (.string x) := by rw [List.getElem?_map, hx]; rfl
  rw [if_neg (Nat.not_lt_zero _)]
  have hc : ((xs.map Value.string).toArray)[j]? = some (.string x) := by simpa using this
  go_simp
  exact (List.getElem?_eq_some_iff.1 hx).2

theorem pat_text (p : ByteArray) : Lib.join (((pieces p).map trB).map (·.data.toList)) (⟨#[47]⟩ : ByteArray).data.toList = Pl.pat p.data.toList := by
  unfold Pl.pat Pl.jn
  rw [← pieces_data, List.map_map, List.map_map]
  rfl
theorem pat_len (l : List UInt8) : (Pl.pat l).length ≤ 6 * l.length := by
  have h := (Pl.law l).2.1
  have hb := Pl.stat_bound l
  omega

theorem join_any (xs : List ByteArray) (B : Nat) (w : World) (hcells : ∀ (j : Nat) x, xs[j]? = some x → w.cell? ⟨B, 0 + j, none⟩ = some (.string x)) (hB : B < w.heap.size) (hN : xs.length ≤ 140737488355328)
    (hlen : (Lib.join (xs.map (·.data.toList)) (⟨#[47]⟩ : ByteArray).data.toList).length ≤ 140737488355328) :
    Calls Tryd.prog 15 #[.slice (some ⟨B, 0, none⟩) xs.length xs.length, .string ⟨#[47]⟩] w fun e w' => e = .returned (.string ⟨(Lib.join (xs.map (·.data.toList)) (⟨#[47]⟩ : ByteArray).data.toList).toArray⟩) ∧ Below w.heap.size w w' :=
  Any.strings_Join Tryd.lays156 Tryd.Builder_Extra_156 B 0 xs.length xs ⟨#[47]⟩ w hcells hB hN (Nat.le_refl _) hlen

set_option maxHeartbeats 1000000 in
theorem pattern_any (q p : ByteArray) (m : Int) (w : World) (hs : p.size ≤ 1048576) (hG : 0 < w.heap.size) (hm : w.cell? ⟨0, 0, none⟩ = some (.int .i64 m)) :
    Calls Tryd.prog 7 #[.agg #[.string q, .string p]] w (PatPost p w) := by
  have hm' : (w.alloc (.cells #[.string q, .string p] 24)).cell? ⟨0, 0, none⟩ = some (.int .i64 m) := by
    rw [((Below.refl w.heap.size w).alloc (Nat.le_refl _) (.cells #[.string q, .string p] 24)).cell (p := ⟨0, 0, none⟩) hG]
    exact hm
  have hsp := split_any p m (w.alloc (.cells #[.string q, .string p] 24)) hs hm'
  have hlen : (pieces p).length ≤ 1048577 := by have := pieces_small p; omega
  have HT : Hid (Lib.join (((pieces p).map trB).map (·.data.toList)) (⟨#[47]⟩ : ByteArray).data.toList = Pl.pat p.data.toList ∧ (Pl.pat p.data.toList).length ≤ 6 * 1048576) := ⟨pat_text p, by
    have := pat_len p.data.toList
    rw [← Lib.size_eq] at this
    omega⟩
  have HST : Hid (PatRel w (w.heap.size + 1) (pieces p) 0 ((w.alloc (.cells #[.string q, .string p] 24)).alloc (.cells ((pieces p).map Value.string).toArray 9))) := pat_start w q p (pieces p)
  have HSZ : Hid (∀ x ∈ pieces p, x.data.toList.length ≤ 1048576) := fun x hx => Nat.le_trans (piece_le p x hx) hs
  clear hm hm'
  generalize pieces p = xs at *
  go_enter Tryd.func7, Tryd.ntmps7
  go_wp2_with fail
  refine hsp.mono ?_
  rintro e w2 ⟨rfl, rfl⟩
  clear hsp
  rw [show (w.alloc (.cells #[.string q, .string p] 24)).heap.size = w.heap.size + 1 by simp]
  go_wp2
  go_loopw [15] (fun s wr => ∃ k : Nat, k ≤ xs.length ∧ s = .int .i64 k ∧ Hid (PatRel w (w.heap.size + 1) xs k wr)) (fun s _ => xs.length - (intOf s).toNat)
  case atStart => exact ⟨0, Nat.zero_le _, rfl, HST⟩
  case round =>
    clear HST
    obtain ⟨k, hk, rfl, HR⟩ := hrel
    by_cases hlt : k < xs.length
    · have HX : Hid (xs[k]? = some xs[k]) := List.getElem?_eq_getElem hlt
      generalize xs[k] = x at *
      have e1 : wr.cell? ⟨w.heap.size + 1, k, none⟩ = some (.string x) := by
        have := HR.out.2.2.2.2 k x HX.out
        rw [if_neg (Nat.lt_irrefl _)] at this
        exact this
      have f1 := HR.out.2.2.2.1 k
      have hlt' : (k : Int) < xs.length := by omega
      have hx1 : x.data.toList.length ≤ 1048576 := HSZ.out x (List.mem_of_getElem? HX.out)
      have z1 : ¬ 9223372036854775807 < 1 + (Lib.trimPrefix x.data.toList [58]).length := by have := trim_le x.data.toList [58]; omega
      have z2 : ¬ 9223372036854775807 < 1 + (Lib.trimPrefix x.data.toList [58]).length + 1 := by have := trim_le x.data.toList [58]; omega
      have z3 : ¬ 9223372036854775807 < 1 + (Lib.trimPrefix x.data.toList [42]).length := by have := trim_le x.data.toList [42]; omega
      have z4 : ¬ 9223372036854775807 < 1 + (Lib.trimPrefix x.data.toList [42]).length + 4 := by have := trim_le x.data.toList [42]; omega
      clear hx1
      have hc1 := cut_any x ⟨#[58]⟩ wr
      cases h58 : Lib.hasPrefix x.data.toList [58]
      · rw [show (⟨#[58]⟩ : ByteArray).data.toList = [58] from rfl, h58] at hc1
        have hc2 := cut_any x ⟨#[42]⟩ wr
        cases h42 : Lib.hasPrefix x.data.toList [42]
        · rw [show (⟨#[42]⟩ : ByteArray).data.toList = [42] from rfl, h42] at hc2
          have HN : Hid (PatRel w (w.heap.size + 1) xs (k + 1) wr) := HR.out.skip HX.out (tr_id x h58 h42)
          have HC2 : Hid (Calls Tryd.prog 14 #[.string x, .string ⟨#[42]⟩] wr fun e w' => e = .returned (.tuple #[.string ⟨(Lib.trimPrefix x.data.toList [42]).toArray⟩, .bool false]) ∧ w' = wr) := hc2
          clear hc2 HR HX h58 h42
          go_wp2_with fail
          refine hc1.mono ?_
          rintro e w' ⟨rfl, hw⟩
          subst hw
          clear hc1
          go_wp2_with fail
          refine HC2.out.mono ?_
          rintro e w' ⟨rfl, hw⟩
          subst hw
          clear HC2
          go_wp2
          go_roundw
          case rel => exact ⟨k + 1, by omega, by go_num, HN⟩
          case measure => simp [intOf]; omega
        · rw [show (⟨#[42]⟩ : ByteArray).data.toList = [42] from rfl, h42] at hc2
          have HT42 : Hid ((⟨#[123]⟩ ++ ⟨(Lib.trimPrefix x.data.toList [42]).toArray⟩ ++ ⟨#[46, 46, 46, 125]⟩ : ByteArray) = trB x) := tr42 x h58 h42
          have HC2 : Hid (Calls Tryd.prog 14 #[.string x, .string ⟨#[42]⟩] wr fun e w' => e = .returned (.tuple #[.string ⟨(Lib.trimPrefix x.data.toList [42]).toArray⟩, .bool true]) ∧ w' = wr) := hc2
          clear hc2 h58 h42
          go_wp2_with fail
          refine hc1.mono ?_
          rintro e w' ⟨rfl, hw⟩
          subst hw
          clear hc1
          go_wp2_with fail
          refine HC2.out.mono ?_
          rintro e w' ⟨rfl, hw⟩
          subst hw
          clear HC2
          go_wp2
          go_roundw
          case rel => exact ⟨k + 1, by omega, by go_num, by have := HR.out.put HX.out; rw [← HT42.out] at this; exact this⟩
          case measure => simp [intOf]; omega
      · rw [show (⟨#[58]⟩ : ByteArray).data.toList = [58] from rfl, h58] at hc1
        have HT58 : Hid ((⟨#[123]⟩ ++ ⟨(Lib.trimPrefix x.data.toList [58]).toArray⟩ ++ ⟨#[125]⟩ : ByteArray) = trB x) := tr58 x h58
        clear h58
        go_wp2_with fail
        refine hc1.mono ?_
        rintro e w' ⟨rfl, hw⟩
        subst hw
        clear hc1
        go_wp2
        go_roundw
        case rel => exact ⟨k + 1, by omega, by go_num, by have := HR.out.put HX.out; rw [← HT58.out] at this; exact this⟩
        case measure => simp [intOf]; omega
    · have hk' : k = xs.length := by omega
      have hj := join_any (xs.map trB) (w.heap.size + 1) wr (fun j x hx => by
        rw [List.getElem?_map, Option.map_eq_some_iff] at hx
        obtain ⟨y, hy, rfl⟩ := hx
        have hjl := (List.getElem?_eq_some_iff.1 hy).1
        have := HR.out.2.2.2.2 j y hy
        rw [if_pos (by omega)] at this
        rw [Nat.zero_add]
        exact this) HR.out.2.2.1 (by rw [List.length_map]; omega) (by rw [HT.out.1]; have := HT.out.2; omega)
      rw [HT.out.1, List.length_map] at hj
      have HB : Hid (Below w.heap.size w wr) := HR.out.1
      have hlt' : ¬ (k : Int) < xs.length := by omega
      clear hk' HR HT
      go_wp2_with fail
      refine hj.mono ?_
      rintro e w' ⟨rfl, hb⟩
      clear hj
      have HB2 : Hid (Below w.heap.size w w') := HB.out.trans (hb.mono HB.out.size)
      clear hb HB
      go_wp2
      go_ret
      exact ⟨rfl, HB2.out⟩
end Go.Proofs.Qxb6003569aDoor
