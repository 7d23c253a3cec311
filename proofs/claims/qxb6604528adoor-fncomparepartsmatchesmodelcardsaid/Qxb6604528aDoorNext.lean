import Derived.Test.Qxb6604528aDoorCmp
set_option linter.unusedSimpArgs false
set_option linter.unusedVariables false
namespace Go.Proofs.Qxb6604528aDoor
open Go.RowKit

set_option maxHeartbeats 400000 in
theorem empty_any (A n c : Nat) (pa : Option Addr) (t : ByteArray) (w : World) (h0 : w.cell? ⟨A, 0, none⟩ = some (.slice pa n c)) (h1 : w.cell? ⟨A, 1, none⟩ = some (.string t)) :
    Calls Tryd.prog 29 #[.pointer (some ⟨A, 0, none⟩)] w fun e w' => e = .returned (.bool (n == 0 && t.toList.isEmpty)) ∧ w' = w := by
  by_cases hn : n = 0
  · subst hn
    go_enter Tryd.func29, Tryd.ntmps29
    go_wp2
    go_ret
    exact ⟨rfl, rfl⟩
  · have hb : ((n : Int) == 0) = false := by simpa using hn
    go_enter Tryd.func29, Tryd.ntmps29
    go_wp2
    go_ret
    refine ⟨?_, rfl⟩
    have : (n == 0) = false := by simpa using hn
    rw [this]
    rfl

/-- The list that is left lies in the first world. -/
def PartsAt (w0 : World) (pa : Option Addr) (c : Nat) (L : List (ByteArray × Bool)) : Prop :=
  L.length ≤ c ∧ c ≤ maxLen ∧ (L ≠ [] → ∃ b o, pa = some ⟨b, o, none⟩ ∧ b < w0.heap.size ∧
    ∀ i x, L[i]? = some x → w0.cell? ⟨b, o + 2 * i, none⟩ = some (.string x.1) ∧ w0.cell? ⟨b, o + 2 * i + 1, none⟩ = some (.bool x.2))
def lp (L : List (ByteArray × Bool)) : List Pl.Part := L.map fun x => (x.1.data.toList, x.2)

def NextPost (w0 : World) (A : Nat) (L : List (ByteArray × Bool)) (t : ByteArray) (r : Bool) (w : World) (e : Ending) (w' : World) : Prop :=
  ∃ (x : ByteArray) (y : Bool) (pa : Option Addr) (c : Nat) (L' : List (ByteArray × Bool)) (t' : ByteArray), e = .returned (.agg #[.string x, .bool y]) ∧
    Pl.seqS r (lp L) t.data.toList = (x.data.toList, y) :: Pl.seqS r (lp L') t'.data.toList ∧ L'.length = L.length - 1 ∧ L'.length + t'.size < L.length + t.size ∧ t'.size ≤ t.size ∧ PartsAt w0 pa c L' ∧
    w'.cell? ⟨A, 0, none⟩ = some (.slice pa L'.length c) ∧ w'.cell? ⟨A, 1, none⟩ = some (.string t') ∧ w'.frozen? ⟨A, 0, none⟩ = false ∧ w'.frozen? ⟨A, 1, none⟩ = false ∧
    ∃ off u, Below w.heap.size (w.setCell ⟨A, off, none⟩ u) w'

theorem PartsAt.tail {w0 : World} {b o c n : Nat} {x : ByteArray × Bool} {L : List (ByteArray × Bool)} {pa : Option Addr} (h : PartsAt w0 (some ⟨b, o, none⟩) c (x :: L)) (hp : c ≠ 1 → pa = some ⟨b, o + 2, none⟩) : PartsAt w0 pa (c - 1) L := by
  obtain ⟨h1, h2, h3⟩ := h
  simp only [List.length_cons] at h1
  refine ⟨by omega, by omega, fun hL => ?_⟩
  obtain ⟨b', o', hb, hlt, hc⟩ := h3 (by simp)
  cases hb
  have : 1 ≤ L.length := by cases L with | nil => exact absurd rfl hL | cons => simp
  refine ⟨b, o + 2, hp (by omega), hlt, fun i y hy => ?_⟩
  have := hc (i + 1) y (by simpa using hy)
  rw [show o + 2 + 2 * i = o + 2 * (i + 1) by omega]
  exact this

theorem setCell_size (w : World) (a : Addr) (v : Value) : (w.setCell a v).heap.size = w.heap.size := by simp [World.setCell]

/-- One of the box's two cells is stored, new blocks are laid: what the box holds then. -/
theorem box_set {w w' : World} {A off : Nat} {u v z : Value} (hb : Below w.heap.size (w.setCell ⟨A, off, none⟩ v) w') (h : w.cell? ⟨A, off, none⟩ = some u) :
    w'.cell? ⟨A, off, none⟩ = some v ∧ ∀ k, k ≠ off → w'.cell? ⟨A, k, none⟩ = w.cell? ⟨A, k, none⟩ := by
  have hA : A < w.heap.size := World.block_lt_of_cell? _ _ h
  refine ⟨?_, fun k hk => ?_⟩
  · rw [hb.cell (p := ⟨A, off, none⟩) hA]
    exact World.cell?_setCell_same _ _ _ h
  · rw [hb.cell (p := ⟨A, k, none⟩) hA]
    exact World.cell?_setCell_other _ _ _ _ (by intro e; injection e with _ e2 _; exact hk e2.symm)
theorem box_frozen {w w' : World} {A off : Nat} {v : Value} (hb : Below w.heap.size (w.setCell ⟨A, off, none⟩ v) w') (hA : A < w.heap.size) (k : Nat) : w'.frozen? ⟨A, k, none⟩ = w.frozen? ⟨A, k, none⟩ := by
  rw [hb.frozen (p := ⟨A, k, none⟩) hA, World.frozen?_setCell]

set_option maxHeartbeats 400000 in
theorem next_list (w0 w : World) (A b o c : Nat) (x : ByteArray × Bool) (L : List (ByteArray × Bool)) (t : ByteArray) (r : Bool) (hbel : Below w0.heap.size w0 w) (hA0 : w0.heap.size ≤ A) (hP : PartsAt w0 (some ⟨b, o, none⟩) c (x :: L))
    (h0 : w.cell? ⟨A, 0, none⟩ = some (.slice (some ⟨b, o, none⟩) (L.length + 1) c)) (h1 : w.cell? ⟨A, 1, none⟩ = some (.string t)) (f0 : w.frozen? ⟨A, 0, none⟩ = false) (f1 : w.frozen? ⟨A, 1, none⟩ = false) :
    Calls Tryd.prog 31 #[.pointer (some ⟨A, 0, none⟩), .bool r] w (NextPost w0 A (x :: L) t r w) := by
  have HP : Hid (PartsAt w0 (some ⟨b, o, none⟩) c (x :: L)) := hP
  obtain ⟨hc, hm, hce⟩ := hP
  obtain ⟨b', o', hb, hlt, hce⟩ := hce (by simp)
  cases hb
  obtain ⟨e0, e1⟩ := hce 0 x rfl
  rw [← hbel.cell (by simpa using hlt)] at e0 e1
  simp only [Nat.mul_zero, Nat.add_zero] at e0 e1
  unfold maxLen at hm
  simp only [List.length_cons] at hc
  have hA := World.block_lt_of_cell? _ _ h0
  have hB := World.block_lt_of_cell? _ _ e0
  simp only at hA hB
  clear hce hbel
  obtain ⟨x, y⟩ := x
  simp only at e0 e1
  have fin : ∀ (pa : Option Addr) (w' : World), (c ≠ 1 → pa = some ⟨b, o + 2, none⟩) → Below w.heap.size (w.setCell ⟨A, 0, none⟩ (.slice pa L.length (c - 1))) w' → NextPost w0 A ((x, y) :: L) t r w (.returned (.agg #[.string x, .bool y])) w' := by
    intro pa w' hpa hb
    have hx := box_set (z := undef) hb h0
    exact ⟨x, y, pa, c - 1, L, t, rfl, rfl, rfl, by simp, Nat.le_refl _, HP.out.tail (n := 0) hpa, hx.1, (hx.2 1 (by omega)).trans h1, (box_frozen hb hA 0).trans f0, (box_frozen hb hA 1).trans f1, 0, _, hb⟩
  go_enter Tryd.func31, Tryd.ntmps31
  go_wp2
  · refine bodyPost_ret (v := .agg #[.string x, .bool y]) (by simp [results, Tryd.results31, go_sem]) rfl ?_
    exact fin (some ⟨b, o, none⟩) _ (fun h => absurd ‹_› h) (by rw [show c - 1 = 0 by omega]; exact ((Below.refl _ _).alloc (by rw [setCell_size]; exact Nat.le_refl _) _).alloc (by simp [setCell_size]) _)
  · refine bodyPost_ret (v := .agg #[.string x, .bool y]) (by simp [results, Tryd.results31, go_sem]) rfl ?_
    exact fin (some ⟨b, o + 2, none⟩) _ (fun _ => rfl) (((Below.refl _ _).alloc (by rw [setCell_size]; exact Nat.le_refl _) _).alloc (by simp [setCell_size]) _)

theorem setBoth {B : Nat} {w w1 : World} (h : Below B w w1) (a : Addr) (u : Value) : Below B (w.setCell a u) (w1.setCell a u) := by
  refine ⟨h.os, h.tape, h.output, by rw [setCell_size, setCell_size]; exact h.size, fun k hk => ?_⟩
  simp only [World.setCell, Array.getElem?_modify]
  rw [h.block k hk]
theorem boxed2 (w : World) (o : Obj) (n : Nat) (a : Addr) (u p q : Value) : Below w.heap.size (w.setCell a u) (((((w.alloc o).drewN n).setCell a u).setCell ⟨w.heap.size, 0, none⟩ p).setCell ⟨w.heap.size, 1, none⟩ q) := by
  have h1 : Below w.heap.size w ((w.alloc o).drewN n) := below_drewN ((Below.refl _ _).alloc (Nat.le_refl _) _) n
  exact ((setBoth h1 a u).setCell (Nat.le_refl _) _).setCell (Nat.le_refl _) _

theorem size_cutA (t a : ByteArray) (ha : a.data.toList = Pl.cutA t.data.toList) (hne : t.data.toList ≠ []) : a.size < t.size := by
  rw [Lib.size_eq, Lib.size_eq, ha]
  exact Pl.cutA_lt _ hne
theorem size_cutB (t a : ByteArray) (ha : a.data.toList = Pl.cutB t.data.toList) : a.size ≤ t.size := by
  rw [Lib.size_eq, Lib.size_eq, ha]
  exact Pl.cutB_le _

set_option maxHeartbeats 400000 in
theorem next_text (w0 w : World) (A c : Nat) (pa : Option Addr) (t : ByteArray) (r : Bool) (hbel : Below w0.heap.size w0 w) (hA0 : w0.heap.size ≤ A) (hP : PartsAt w0 pa c [])
    (h0 : w.cell? ⟨A, 0, none⟩ = some (.slice pa 0 c)) (h1 : w.cell? ⟨A, 1, none⟩ = some (.string t)) (f0 : w.frozen? ⟨A, 0, none⟩ = false) (f1 : w.frozen? ⟨A, 1, none⟩ = false)
    (ht : t.size ≤ maxLen) (hne : t.data.toList ≠ []) :
    Calls Tryd.prog 31 #[.pointer (some ⟨A, 0, none⟩), .bool r] w (NextPost w0 A [] t r w) := by
  have HP : Hid (PartsAt w0 pa c []) := hP
  have hA := World.block_lt_of_cell? _ _ h0
  simp only at hA
  clear hbel hP
  have fin : ∀ (p s : ByteArray) (x : ByteArray) (y : Bool) (w' : World), p.data.toList = Pl.cutB t.data.toList → s.data.toList = Pl.cutA t.data.toList → Pl.norm r p.data.toList = (x.data.toList, y) → Below w.heap.size (w.setCell ⟨A, 1, none⟩ (.string s)) w' →
      NextPost w0 A [] t r w (.returned (.agg #[.string x, .bool y])) w' := by
    intro p s x y w' hp hs hn hb
    have hx := box_set (z := undef) hb h1
    refine ⟨x, y, pa, c, [], s, rfl, ?_, rfl, ?_, ?_, HP.out, (hx.2 0 (by omega)).trans h0, hx.1, (box_frozen hb hA 0).trans f0, (box_frozen hb hA 1).trans f1, 1, _, hb⟩
    · show (Pl.pieces t.data.toList).map (Pl.norm r) = _ :: (Pl.pieces s.data.toList).map (Pl.norm r)
      rw [Pl.pieces_cut _ hne, ← hp, ← hs, List.map_cons, hn]
    · have := size_cutA t s hs hne
      simp
      omega
    · exact Nat.le_of_lt (size_cutA t s hs hne)
  have FIN : Hid (∀ (p s : ByteArray) (x : ByteArray) (y : Bool) (w' : World), p.data.toList = Pl.cutB t.data.toList → s.data.toList = Pl.cutA t.data.toList → Pl.norm r p.data.toList = (x.data.toList, y) → Below w.heap.size (w.setCell ⟨A, 1, none⟩ (.string s)) w' →
      NextPost w0 A [] t r w (.returned (.agg #[.string x, .bool y])) w') := fin
  clear fin
  cases r
  · go_enter Tryd.func31, Tryd.ntmps31
    go_wp2_with fail
    refine (cut_any _ _ ht).mono ?_
    rintro e w' ⟨p, s, f, rfl, hp, hs, n, rfl⟩
    have HH : Hid (p.data.toList = Pl.cutB t.data.toList ∧ s.data.toList = Pl.cutA t.data.toList) := ⟨hp, hs⟩
    have hps := size_cutB t p hp
    clear hp hs
    go_wp2_with fail
    refine (digitsEnd_any _ _ (by omega)).mono ?_
    rintro e w' ⟨k, rfl, hk, rfl⟩
    cases hd : Pl.allDig p.data.toList
    · rw [hd] at hk
      have HD : Hid (Pl.allDig p.data.toList = false) := hd
      clear hd
      go_wp2_with fail
      refine bodyPost_ret (v := .agg #[.string p, .bool false]) (by simp [results, Tryd.results31, go_sem]) rfl ?_
      refine FIN.out p s p false _ HH.out.1 HH.out.2 ?_ ?_
      · simp [Pl.norm, HD.out]
      · exact boxed2 _ _ _ _ _ _ _
    · rw [hd] at hk
      have HD : Hid (Pl.allDig p.data.toList = true) := hd
      clear hd
      go_wp2_with fail
      refine (Tryd.TrimLeft0 _ _).mono ?_
      rintro e w' ⟨rfl, rfl⟩
      go_wp2_with fail
      refine bodyPost_ret (v := .agg #[.string ⟨(Lib.trimLeftB p.data.toList 48).toArray⟩, .bool true]) (by simp [results, Tryd.results31, go_sem]) rfl ?_
      refine FIN.out p s _ true _ HH.out.1 HH.out.2 ?_ ?_
      · simp [Pl.norm, HD.out, Lib.trimLeftB]
      · exact boxed2 _ _ _ _ _ _ _
  · go_enter Tryd.func31, Tryd.ntmps31
    go_wp2_with fail
    refine (cut_any _ _ ht).mono ?_
    rintro e w' ⟨p, s, f, rfl, hp, hs, n, rfl⟩
    have HH : Hid (p.data.toList = Pl.cutB t.data.toList ∧ s.data.toList = Pl.cutA t.data.toList) := ⟨hp, hs⟩
    clear hp hs
    go_wp2_with fail
    refine (Tryd.TrimLeft0 _ _).mono ?_
    rintro e w' ⟨rfl, rfl⟩
    go_wp2_with fail
    refine bodyPost_ret (v := .agg #[.string ⟨(Lib.trimLeftB p.data.toList 48).toArray⟩, .bool true]) (by simp [results, Tryd.results31, go_sem]) rfl ?_
    refine FIN.out p s _ true _ HH.out.1 HH.out.2 ?_ ?_
    · simp [Pl.norm, Lib.trimLeftB]
    · exact boxed2 _ _ _ _ _ _ _

theorem next_any (w0 w : World) (A c : Nat) (pa : Option Addr) (L : List (ByteArray × Bool)) (t : ByteArray) (r : Bool) (hbel : Below w0.heap.size w0 w) (hA0 : w0.heap.size ≤ A) (hP : PartsAt w0 pa c L)
    (h0 : w.cell? ⟨A, 0, none⟩ = some (.slice pa L.length c)) (h1 : w.cell? ⟨A, 1, none⟩ = some (.string t)) (f0 : w.frozen? ⟨A, 0, none⟩ = false) (f1 : w.frozen? ⟨A, 1, none⟩ = false)
    (ht : t.size ≤ maxLen) (hne : (L.length == 0 && t.toList.isEmpty) = false) :
    Calls Tryd.prog 31 #[.pointer (some ⟨A, 0, none⟩), .bool r] w (NextPost w0 A L t r w) := by
  cases L with
  | nil =>
    refine next_text w0 w A c pa t r hbel hA0 hP h0 h1 f0 f1 ht ?_
    intro e
    rw [Lib.toList_data, e] at hne
    cases hne
  | cons x L =>
    have hP' := hP
    obtain ⟨_, _, h3⟩ := hP'
    obtain ⟨b, o, rfl, _⟩ := h3 (by simp)
    exact next_list w0 w A b o c x L t r hbel hA0 hP h0 h1 f0 f1


theorem trimS_empty (t : List UInt8) : (!(Lib.trimS t [48, 46]).isEmpty) = t.any (fun c => !(c == 48 || c == 46)) := by
  have key : ∀ l : List UInt8, (l.dropWhile (([48, 46] : List UInt8).contains ·)).isEmpty = l.all (fun c => c == 48 || c == 46) := by
    intro l
    induction l with
    | nil => rfl
    | cons a l ih =>
      rw [List.dropWhile_cons, List.all_cons]
      by_cases ha : (([48, 46] : List UInt8).contains a) = true
      · rw [if_pos ha, ih]
        have : (a == 48 || a == 46) = true := by simpa using ha
        rw [this]; rfl
      · rw [if_neg ha]
        have : (a == 48 || a == 46) = false := by simpa using ha
        rw [this]; rfl
  have key2 : ∀ l : List UInt8, l.all (fun c => c == 48 || c == 46) = true ∨ ¬ l.all (fun c => c == 48 || c == 46) = true := fun l => Classical.em _
  unfold Lib.trimS Lib.trimLeftS Lib.trimRightS
  rw [key]
  have h2 : ∀ l : List UInt8, (l.dropWhile (([48, 46] : List UInt8).contains ·)).all (fun c => c == 48 || c == 46) = l.all (fun c => c == 48 || c == 46) := by
    intro l
    induction l with
    | nil => rfl
    | cons a l ih =>
      rw [List.dropWhile_cons]
      by_cases ha : (([48, 46] : List UInt8).contains a) = true
      · rw [if_pos ha, ih, List.all_cons]
        have : (a == 48 || a == 46) = true := by simpa using ha
        rw [this]; rfl
      · rw [if_neg ha]
  rw [List.all_reverse, h2, List.all_reverse, List.not_all_eq_any_not]

set_option maxHeartbeats 400000 in
theorem more_any (A n c : Nat) (pa : Option Addr) (t : ByteArray) (r : Bool) (w : World) (h0 : w.cell? ⟨A, 0, none⟩ = some (.slice pa n c)) (h1 : w.cell? ⟨A, 1, none⟩ = some (.string t)) (ht : t.size ≤ maxLen) :
    Calls Tryd.prog 32 #[.pointer (some ⟨A, 0, none⟩), .bool r] w fun e w' => e = .returned (.bool (Pl.moreT r n t.data.toList)) ∧ Below w.heap.size w w' := by
  have plain : (r && n == 0) = false → Calls Tryd.prog 32 #[.pointer (some ⟨A, 0, none⟩), .bool r] w fun e w' => e = .returned (.bool (Pl.moreT r n t.data.toList)) ∧ Below w.heap.size w w' := by
    intro hf
    have em : Pl.moreT r n t.data.toList = !(n == 0 && t.toList.isEmpty) := by
      unfold Pl.moreT
      rw [hf, Lib.toList_data]
      rfl
    rw [em]
    generalize hz : (n == 0 && t.toList.isEmpty) = z
    have he := empty_any A n c pa t w h0 h1
    rw [hz] at he
    clear hz em
    cases r
    · go_enter Tryd.func32, Tryd.ntmps32
      go_wp2_with (go_at_call 29; refine he.mono ?_; rintro e w' ⟨rfl, rfl⟩)
      go_ret
      exact ⟨rfl, Below.refl _ _⟩
    · have hb : ((n : Int) == 0) = false := by simpa using hf
      clear hf
      go_enter Tryd.func32, Tryd.ntmps32
      go_wp2_with (go_at_call 29; refine he.mono ?_; rintro e w' ⟨rfl, rfl⟩)
      go_ret
      exact ⟨rfl, Below.refl _ _⟩
  cases hf : (r && n == 0)
  · exact plain hf
  · clear plain
    have hr : r = true ∧ n = 0 := by simpa using hf
    obtain ⟨rfl, rfl⟩ := hr
    have em : Pl.moreT true 0 t.data.toList = !(Lib.trimS t.data.toList [48, 46]).isEmpty := by
      rw [trimS_empty]; rfl
    rw [em]
    clear em hf
    have hm : t.size ≤ 9223372036854775807 := ht
    have hcon := Any.strings_Trim_laid Tryd.lays160 (by kernel_rfl) t ⟨#[48, 46]⟩ w hm (by decide) (ascii_of_all (by decide))
    change Calls Tryd.prog 46 _ _ (fun e w' => e = .returned (.string ⟨(Lib.trimS t.data.toList [48, 46]).toArray⟩) ∧ Below w.heap.size w w') at hcon
    generalize Lib.trimS t.data.toList [48, 46] = z at hcon ⊢
    go_enter Tryd.func32, Tryd.ntmps32
    go_wp2_with (go_at_call 46; refine hcon.mono ?_; rintro e w' ⟨rfl, hB⟩)
    go_ret
    exact ⟨rfl, hB⟩
end Go.Proofs.Qxb6604528aDoor
