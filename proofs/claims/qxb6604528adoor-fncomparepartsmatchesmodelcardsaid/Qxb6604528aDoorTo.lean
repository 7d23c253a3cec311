import Derived.Test.Qxb6604528aDoorParts
import Derived.Laws.MakeOwn
set_option linter.unusedSimpArgs false
set_option linter.unusedVariables false
namespace Go.Proofs.Qxb6604528aDoor
open Go.RowKit

theorem info49 : (Tryd.prog.info? 49).map (fun i => (i.zero, i.size, i.bytes)) = some (some (.agg #[.string ⟨#[]⟩, .bool false]), 2, 24) := by kernel_rfl

/-- What 'make([]part, n)' lays. -/
def mk2 (n : Nat) : Array Value := madeCells #[.string ⟨#[]⟩, .bool false] (n * 2)
theorem mk2_size (n : Nat) : (mk2 n).size = n * 2 := size_madeCells _ _
theorem run_make49 (n : Nat) (hn : n ≤ 1048576) (w : World) :
    (Instr.makeSlice 28 (.int .i64 (n : Int)) (.int .i64 (n : Int))).run Tryd.prog w = .ok (.slice (some ⟨w.heap.size, 0, none⟩) n n) (w.alloc (.cells (mk2 n) 49)) := by
  obtain ⟨i, hi, hzz⟩ := Option.map_eq_some_iff.1 info49
  simp only [Prod.mk.injEq] at hzz
  obtain ⟨hz, hs, hb⟩ := hzz
  have hr := run_make (P := Tryd.prog) w 28 49 i _ Tryd.underlying28 hi hz .i64 .i64 n n (by omega) (Int.le_refl _) (by rw [hb]; omega) (by omega)
  simp only [Int.toNat_natCast, hs] at hr
  exact hr

set_option maxHeartbeats 400000 in
theorem newPart_any (x : ByteArray) (y : Bool) (w : World) :
    Calls Tryd.prog 21 #[.string x, .bool y] w fun e w' => e = .returned (.agg #[.string x, .bool y]) ∧ Below w.heap.size w w' := by
  go_enter Tryd.func21, Tryd.ntmps21
  go_wp2
  exact bodyPost_ret (v := .agg #[.string x, .bool y]) (by simp [results, Tryd.results21, go_sem]) rfl ⟨rfl, (Below.refl _ _).alloc (Nat.le_refl _) _⟩

set_option maxHeartbeats 400000 in
theorem newParts_any (pa : Option Addr) (n c : Nat) (t : ByteArray) (w : World) :
    Calls Tryd.prog 22 #[.slice pa n c, .string t] w fun e w' => e = .returned (.agg #[.slice pa n c, .string t]) ∧ Below w.heap.size w w' := by
  go_enter Tryd.func22, Tryd.ntmps22
  go_wp2
  exact bodyPost_ret (v := .agg #[.slice pa n c, .string t]) (by simp [results, Tryd.results22, go_sem]) rfl ⟨rfl, (Below.refl _ _).alloc (Nat.le_refl _) _⟩

theorem PartsAt.below {w w' : World} {pa : Option Addr} {c : Nat} {L : List (ByteArray × Bool)} (h : PartsAt w pa c L) (hb : Below w.heap.size w w') : PartsAt w' pa c L := by
  obtain ⟨h1, h2, h3⟩ := h
  refine ⟨h1, h2, fun hL => ?_⟩
  obtain ⟨b, o, e, hlt, hc⟩ := h3 hL
  refine ⟨b, o, e, Nat.lt_of_lt_of_le hlt hb.size, fun i x hx => ?_⟩
  rw [hb.cell (p := ⟨b, o + 2 * i, none⟩) hlt, hb.cell (p := ⟨b, o + 2 * i + 1, none⟩) hlt]
  exact hc i x hx
theorem two_new (w : World) (o1 o2 : Obj) : Below w.heap.size w ((w.alloc o1).alloc o2) := ((Below.refl _ _).alloc (Nat.le_refl _) _).alloc (by simp) _

set_option maxHeartbeats 400000 in
theorem zzCompareParts_any (w : World) (pa pb : Option Addr) (ca cb : Nat) (LA LB : List (ByteArray × Bool)) (tA tB : ByteArray) (r : Bool) (hPA : PartsAt w pa ca LA) (hPB : PartsAt w pb cb LB) (htA : tA.size ≤ maxLen) (htB : tB.size ≤ maxLen) :
    Calls Tryd.prog 10 #[.agg #[.slice pa LA.length ca, .string tA], .agg #[.slice pb LB.length cb, .string tB], .bool r] w fun e w' => e = .returned (.int .i64 (resS r LA tA LB tB)) ∧ Below w.heap.size w w' := by
  go_enter Tryd.func10, Tryd.ntmps10
  go_wp2_with fail
  refine (compareParts_any _ pa pb ca cb LA LB tA tB r (hPA.below (two_new _ _ _)) (hPB.below (two_new _ _ _)) htA htB).mono ?_
  rintro e w' ⟨rfl, hb⟩
  go_wp2_with fail
  go_ret
  exact ⟨rfl, (two_new _ _ _).trans (hb.mono (by simp; omega))⟩

/-- A new block of two cells, and later blocks: it stands. -/
theorem box_later {w w' : World} {v0 v1 : Value} {T : TypeId} (hb : Below (w.heap.size + 1) (w.alloc (.cells #[v0, v1] T)) w') :
    w'.cell? ⟨w.heap.size, 0, none⟩ = some v0 ∧ w'.cell? ⟨w.heap.size, 1, none⟩ = some v1 ∧ (∀ k, w'.frozen? ⟨w.heap.size, k, none⟩ = false) := by
  refine ⟨?_, ?_, fun k => ?_⟩
  · rw [hb.cell (p := ⟨w.heap.size, 0, none⟩) (Nat.lt_succ_self _)]; go_simp
  · rw [hb.cell (p := ⟨w.heap.size, 1, none⟩) (Nat.lt_succ_self _)]; go_simp
  · rw [hb.frozen (p := ⟨w.heap.size, k, none⟩) (Nat.lt_succ_self _)]; go_simp

set_option maxHeartbeats 400000 in
theorem toParts_nil (w : World) (t : ByteArray) :
    Calls Tryd.prog 11 #[.slice none 0 0, .string t] w fun e w' => e = .returned (.agg #[.slice none 0 0, .string t]) ∧ Below w.heap.size w w' := by
  go_enter Tryd.func11, Tryd.ntmps11
  go_wp2_with fail
  refine (newParts_any _ _ _ _ _).mono ?_
  rintro e w' ⟨rfl, hb⟩
  have hb' : Below (w.heap.size + 1) (w.alloc (.cells #[.slice none 0 0, .string ⟨#[]⟩] 30)) w' := hb.mono (by simp)
  obtain ⟨c0, c1, fz⟩ := box_later hb'
  have f0 := fz 0
  have f1 := fz 1
  have hz : w.heap.size < w'.heap.size := World.block_lt_of_cell? _ _ c0
  have hbw : Below w.heap.size w w' := ((Below.refl _ _).alloc (Nat.le_refl _) _).trans (hb'.mono (Nat.le_succ _))
  clear hb hb' fz
  have HB : Hid (Below w.heap.size w w') := hbw
  clear hbw
  go_wp2_with fail
  refine bodyPost_ret (v := .agg #[.slice none 0 0, .string t]) (by simp [results, Tryd.results11, go_sem, c0, c1]) rfl ⟨rfl, ?_⟩
  exact (HB.out.setCell (Nat.le_refl _) _).setCell (Nat.le_refl _) _

theorem below_undrew {w w' : World} (h : Below w.drew.heap.size w.drew w') : Below w.heap.size w w' := ⟨h.os, h.tape, h.output, h.size, h.block⟩

def ToRel (w : World) (L : List (ByteArray × Bool)) (i : Value) (wr : World) : Prop :=
  ∃ k : Nat, k ≤ L.length ∧ i = .int .i64 k ∧ Below (w.heap.size + 1) (w.alloc (.cells #[.slice none 0 0, .string ⟨#[]⟩] 30)) wr ∧ w.heap.size + 1 < wr.heap.size ∧
    (∀ j, wr.frozen? ⟨w.heap.size + 1, j, none⟩ = false) ∧ (∀ j, j < L.length * 2 → (wr.cell? ⟨w.heap.size + 1, j, none⟩).isSome = true) ∧
    (∀ j x, L[j]? = some x → j < k → wr.cell? ⟨w.heap.size + 1, 2 * j, none⟩ = some (.string x.1) ∧ wr.cell? ⟨w.heap.size + 1, 2 * j + 1, none⟩ = some (.bool x.2))

def ToHeld (w : World) (L : List (ByteArray × Bool)) (k : Nat) (wr : World) : Prop :=
  Below (w.heap.size + 1) (w.alloc (.cells #[.slice none 0 0, .string ⟨#[]⟩] 30)) wr ∧ (∀ j, wr.frozen? ⟨w.heap.size + 1, j, none⟩ = false) ∧ (∀ j, j < L.length * 2 → (wr.cell? ⟨w.heap.size + 1, j, none⟩).isSome = true) ∧
    (∀ j x, L[j]? = some x → j < k → wr.cell? ⟨w.heap.size + 1, 2 * j, none⟩ = some (.string x.1) ∧ wr.cell? ⟨w.heap.size + 1, 2 * j + 1, none⟩ = some (.bool x.2))

theorem isSome_setCell {w : World} {a b : Addr} {v : Value} (h : (w.cell? b).isSome = true) : ((w.setCell a v).cell? b).isSome = true := by
  by_cases e : a = b
  · subst e
    obtain ⟨u, hu⟩ := Option.isSome_iff_exists.1 h
    rw [World.cell?_setCell_same _ _ _ hu]; rfl
  · rw [World.cell?_setCell_other _ _ _ _ e]; exact h

theorem to_step {w wr w2 : World} {L : List (ByteArray × Bool)} {k : Nat} {x : ByteArray} {y : Bool} (h : ToHeld w L k wr) (hsz : w.heap.size + 1 < wr.heap.size) (hlt : k < L.length) (hx : L[k]? = some (x, y)) (hb : Below wr.heap.size wr w2) :
    ToRel w L (.int .i64 ((k + 1 : Nat) : Int)) ((w2.setCell ⟨w.heap.size + 1, k * 2, none⟩ (.string x)).setCell ⟨w.heap.size + 1, k * 2 + 1, none⟩ (.bool y)) := by
  obtain ⟨h1, h2, h3, h4⟩ := h
  have hc : ∀ j, w2.cell? ⟨w.heap.size + 1, j, none⟩ = wr.cell? ⟨w.heap.size + 1, j, none⟩ := fun j => hb.cell (p := ⟨w.heap.size + 1, j, none⟩) hsz
  obtain ⟨z0, hz0⟩ := Option.isSome_iff_exists.1 (h3 (k * 2) (by omega))
  obtain ⟨z1, hz1⟩ := Option.isSome_iff_exists.1 (h3 (k * 2 + 1) (by omega))
  rw [← hc] at hz0 hz1
  have ne : ∀ i j : Nat, i ≠ j → (⟨w.heap.size + 1, i, none⟩ : Addr) ≠ ⟨w.heap.size + 1, j, none⟩ := fun i j hij e => hij (by injection e)
  refine ⟨k + 1, hlt, rfl, ?_, ?_, ?_, ?_, ?_⟩
  · exact ((h1.trans (hb.mono (by omega))).setCell (by simp) _).setCell (by simp) _
  · rw [setCell_size, setCell_size]; exact Nat.lt_of_lt_of_le hsz hb.size
  · intro j
    rw [World.frozen?_setCell, World.frozen?_setCell, hb.frozen (p := ⟨w.heap.size + 1, j, none⟩) hsz]
    exact h2 j
  · intro j hj
    exact isSome_setCell (isSome_setCell (by rw [hc]; exact h3 j hj))
  · intro j z hz hj
    by_cases hjk : j = k
    · subst hjk
      rw [hx] at hz
      obtain rfl := Option.some.inj hz
      rw [Nat.mul_comm 2 j]
      refine ⟨?_, ?_⟩
      · rw [World.cell?_setCell_other _ _ _ _ (ne _ _ (by omega))]
        exact World.cell?_setCell_same _ _ _ hz0
      · refine World.cell?_setCell_same _ _ _ (u := z1) ?_
        rw [World.cell?_setCell_other _ _ _ _ (ne _ _ (by omega))]
        exact hz1
    · have := h4 j z hz (by omega)
      refine ⟨?_, ?_⟩
      · rw [World.cell?_setCell_other _ _ _ _ (ne _ _ (by omega)), World.cell?_setCell_other _ _ _ _ (ne _ _ (by omega)), hc]; exact this.1
      · rw [World.cell?_setCell_other _ _ _ _ (ne _ _ (by omega)), World.cell?_setCell_other _ _ _ _ (ne _ _ (by omega)), hc]; exact this.2

theorem to_parts {w wr : World} {L : List (ByteArray × Bool)} {k : Nat} (h : ToHeld w L k wr) (hsz : w.heap.size + 1 < wr.heap.size) (hk : L.length ≤ k) (hn : L.length ≤ 1048576) : PartsAt wr (some ⟨w.heap.size + 1, 0, none⟩) L.length L := by
  obtain ⟨h1, h2, h3, h4⟩ := h
  refine ⟨Nat.le_refl _, by unfold maxLen; omega, fun _ => ⟨_, _, rfl, hsz, fun i x hx => ?_⟩⟩
  have hi : i < L.length := (List.getElem?_eq_some_iff.1 hx).1
  have := h4 i x hx (by omega)
  simpa using this

theorem to_keep (w wr w2 : World) (L : List (ByteArray × Bool)) (u v : Value) (h : PartsAt wr (some ⟨w.heap.size + 1, 0, none⟩) L.length L) (hb : Below wr.heap.size wr w2) :
    PartsAt ((w2.setCell ⟨w.heap.size, 0, none⟩ u).setCell ⟨w.heap.size, 1, none⟩ v) (some ⟨w.heap.size + 1, 0, none⟩) L.length L := by
  obtain ⟨h1, h2, h3⟩ := h.below hb
  refine ⟨h1, h2, fun hL => ?_⟩
  obtain ⟨b, o, e, hlt, hc⟩ := h3 hL
  cases e
  have ne : ∀ i j : Nat, (⟨w.heap.size, i, none⟩ : Addr) ≠ ⟨w.heap.size + 1, j, none⟩ := fun i j e => by injection e with e; omega
  refine ⟨_, _, rfl, by rw [setCell_size, setCell_size]; exact hlt, fun i x hx => ?_⟩
  rw [World.cell?_setCell_other _ _ _ _ (ne _ _), World.cell?_setCell_other _ _ _ _ (ne _ _), World.cell?_setCell_other _ _ _ _ (ne _ _), World.cell?_setCell_other _ _ _ _ (ne _ _)]
  exact hc i x hx

set_option maxHeartbeats 400000 in
theorem toParts_some (w : World) (a : Addr) (c : Nat) (L : List (ByteArray × Bool)) (t : ByteArray) (hP : PartsAt w (some a) c L) (hn : L.length ≤ 1048576) :
    Calls Tryd.prog 11 #[.slice (some a) L.length c, .string t] w fun e w' => e = .returned (.agg #[.slice (some ⟨w.heap.size + 1, 0, none⟩) L.length L.length, .string t]) ∧ PartsAt w' (some ⟨w.heap.size + 1, 0, none⟩) L.length L ∧ Below w.heap.size w w' := by
  have hneq : ∀ w, (binOp .neq 22 (.slice (some a) L.length c) (.slice none 0 0)).run Tryd.prog w = .ok (.bool true) w := fun w => run_neq_slice_nil_any w 22 47 _ _ _ _ _ Tryd.underlying22
  have hmk := run_make49 L.length hn
  go_enter Tryd.func11, Tryd.ntmps11
  go_wp2_with fail
  clear hneq hmk
  go_loopw [6] (fun i wr => ToRel w L i wr) (fun i wr => L.length - (intOf i).toNat)
  case atStart =>
    refine ⟨0, Nat.zero_le _, rfl, ?_, ?_, ?_, ?_, fun j x _ h => absurd h (Nat.not_lt_zero _)⟩
    · exact (Below.refl _ _).alloc (by simp) _
    · simp
    · intro j; go_simp
    · intro j hj
      rw [← mk2_size] at hj
      go_simp
  case round =>
    obtain ⟨k, hk, rfl, hbel, hsz, hfz, hsome, hdone⟩ := hrel
    have HREST : Hid (ToHeld w L k wr) := ⟨hbel, hfz, hsome, hdone⟩
    clear hdone
    by_cases hlt : k < L.length
    · obtain ⟨x, hx⟩ : ∃ x, L[k]? = some x := ⟨L[k], List.getElem?_eq_getElem hlt⟩
      obtain ⟨_, _, hce⟩ := hP
      obtain ⟨b, o, hb, hblt, hce2⟩ := hce (by intro h; rw [h] at hlt; cases hlt)
      cases hb
      obtain ⟨e0, e1⟩ := hce2 k x hx
      clear hce hce2
      have hbw : Below w.heap.size w wr := ((Below.refl _ _).alloc (Nat.le_refl _) _).trans (hbel.mono (Nat.le_succ _))
      rw [← hbw.cell (by simpa using hblt)] at e0 e1
      rw [Nat.mul_comm 2 k] at e0 e1
      obtain ⟨z0, hz0⟩ := Option.isSome_iff_exists.1 (hsome (k * 2) (by omega))
      obtain ⟨z1, hz1⟩ := Option.isSome_iff_exists.1 (hsome (k * 2 + 1) (by omega))
      have f0 := hfz (k * 2)
      have f1 := hfz (k * 2 + 1)
      have hbr : b < wr.heap.size := Nat.lt_of_lt_of_le hblt hbw.size
      have HX : Hid (L[k]? = some x) := hx
      clear hx hfz hsome hbw hbel
      obtain ⟨x, y⟩ := x
      simp only at e0 e1
      have hbne : b < w.heap.size + 1 := by omega
      go_wp2_with fail
      go_region_with ((go_at_call 21; refine (newPart_any _ _ _).mono ?_; rintro e w2 ⟨rfl, hb2⟩; have HB2 : Hid (Below wr.heap.size wr w2) := below_undrew hb2; clear hb2; have c0 := (HB2.out.cell (p := ⟨w.heap.size + 1, k * 2, none⟩) hsz).trans hz0; have c1 := (HB2.out.cell (p := ⟨w.heap.size + 1, k * 2 + 1, none⟩) hsz).trans hz1; have q0 := (HB2.out.frozen (p := ⟨w.heap.size + 1, k * 2, none⟩) hsz).trans f0; have q1 := (HB2.out.frozen (p := ⟨w.heap.size + 1, k * 2 + 1, none⟩) hsz).trans f1; clear e0 e1 hz0 hz1 f0 f1))
      all_goals
        go_wp2_with fail
        go_roundw
        case rel => exact to_step HREST.out hsz hlt HX.out HB2.out
        case measure => simp [intOf]; omega
    · have hbw : Below w.heap.size w wr := ((Below.refl _ _).alloc (Nat.le_refl _) _).trans (hbel.mono (Nat.le_succ _))
      obtain ⟨c0, c1, fz⟩ := box_later hbel
      have HB : Hid (Below w.heap.size w wr) := hbw
      have hpp := to_parts HREST.out hsz (by omega) hn
      have HPP : Hid (PartsAt wr (some ⟨w.heap.size + 1, 0, none⟩) L.length L) := hpp
      clear hfz hsome hbel hbw hpp fz c0 c1
      go_wp2_with fail
      refine (newParts_any _ _ _ _ _).mono ?_
      rintro e w2 ⟨rfl, hb2⟩
      have hb3 : Below (w.heap.size + 1) (w.alloc (.cells #[.slice none 0 0, .string ⟨#[]⟩] 30)) w2 := HREST.out.1.trans (hb2.mono (by omega))
      obtain ⟨c0, c1, fz⟩ := box_later hb3
      have f0 := fz 0
      have f1 := fz 1
      have HB2 : Hid (Below wr.heap.size wr w2) := hb2
      clear hb3 fz hb2
      go_wp2_with fail
      have hfin : Below wr.heap.size wr w2 := HB2.out
      refine bodyPost_ret (v := .agg #[.slice (some ⟨w.heap.size + 1, 0, none⟩) L.length L.length, .string t]) (by simp [results, Tryd.results11, go_sem, c0, c1]) rfl ⟨rfl, ?_, ?_⟩
      · exact to_keep w wr w2 L _ _ HPP.out HB2.out
      · exact ((HB.out.trans (HB2.out.mono HB.out.size)).setCell (Nat.le_refl _) _).setCell (Nat.le_refl _) _

def ToPost (w : World) (L : List (ByteArray × Bool)) (t : ByteArray) (e : Ending) (w' : World) : Prop :=
  ∃ pb cb, e = .returned (.agg #[.slice pb L.length cb, .string t]) ∧ PartsAt w' pb cb L ∧ Below w.heap.size w w'
theorem toParts_any (w : World) (pa : Option Addr) (c : Nat) (L : List (ByteArray × Bool)) (t : ByteArray) (hP : PartsAt w pa c L) (hpa : pa = none → L = [] ∧ c = 0) (hn : L.length ≤ 1048576) :
    Calls Tryd.prog 11 #[.slice pa L.length c, .string t] w (ToPost w L t) := by
  cases pa with
  | none =>
    obtain ⟨rfl, rfl⟩ := hpa rfl
    refine (toParts_nil w t).mono ?_
    rintro e w' ⟨rfl, hb⟩
    exact ⟨none, 0, rfl, ⟨Nat.le_refl _, Nat.zero_le _, fun h => absurd rfl h⟩, hb⟩
  | some a =>
    refine (toParts_some w a c L t hP hn).mono ?_
    rintro e w' ⟨rfl, hp, hb⟩
    exact ⟨_, _, rfl, hp, hb⟩
end Go.Proofs.Qxb6604528aDoor
