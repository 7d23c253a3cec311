import Derived.Test.Qxb6604528aDoorNext
import Derived.Deep.LoopGhost
set_option linter.unusedSimpArgs false
set_option linter.unusedVariables false
namespace Go.Proofs.Qxb6604528aDoor
open Go.RowKit

/-- A box at block A holds what is left: a list in the first world, a text. -/
def Box (w0 wr : World) (A : Nat) (L : List (ByteArray × Bool)) (t : ByteArray) : Prop :=
  ∃ pa c, PartsAt w0 pa c L ∧ wr.cell? ⟨A, 0, none⟩ = some (.slice pa L.length c) ∧ wr.cell? ⟨A, 1, none⟩ = some (.string t) ∧ wr.frozen? ⟨A, 0, none⟩ = false ∧ wr.frozen? ⟨A, 1, none⟩ = false ∧ t.size ≤ maxLen

theorem Box.below {w0 wr w' : World} {A : Nat} {L : List (ByteArray × Bool)} {t : ByteArray} (h : Box w0 wr A L t) (hb : Below wr.heap.size wr w') : Box w0 w' A L t := by
  obtain ⟨pa, c, h1, h2, h3, h4, h5, h6⟩ := h
  have hA : A < wr.heap.size := World.block_lt_of_cell? _ _ h2
  exact ⟨pa, c, h1, (hb.cell (p := ⟨A, 0, none⟩) hA).trans h2, (hb.cell (p := ⟨A, 1, none⟩) hA).trans h3, (hb.frozen (p := ⟨A, 0, none⟩) hA).trans h4, (hb.frozen (p := ⟨A, 1, none⟩) hA).trans h5, h6⟩
theorem Box.other {w0 wr w' : World} {A B off : Nat} {u : Value} {L : List (ByteArray × Bool)} {t : ByteArray} (h : Box w0 wr A L t) (hne : B ≠ A) (hb : Below wr.heap.size (wr.setCell ⟨B, off, none⟩ u) w') : Box w0 w' A L t := by
  obtain ⟨pa, c, h1, h2, h3, h4, h5, h6⟩ := h
  have hA : A < wr.heap.size := World.block_lt_of_cell? _ _ h2
  have ne : ∀ k, (⟨B, off, none⟩ : Addr) ≠ ⟨A, k, none⟩ := fun k e => hne (by injection e)
  refine ⟨pa, c, h1, ?_, ?_, ?_, ?_, h6⟩
  · rw [hb.cell (p := ⟨A, 0, none⟩) hA, World.cell?_setCell_other _ _ _ _ (ne 0)]; exact h2
  · rw [hb.cell (p := ⟨A, 1, none⟩) hA, World.cell?_setCell_other _ _ _ _ (ne 1)]; exact h3
  · rw [hb.frozen (p := ⟨A, 0, none⟩) hA, World.frozen?_setCell]; exact h4
  · rw [hb.frozen (p := ⟨A, 1, none⟩) hA, World.frozen?_setCell]; exact h5

def resS (r : Bool) (LA : List (ByteArray × Bool)) (tA : ByteArray) (LB : List (ByteArray × Bool)) (tB : ByteArray) : Int :=
  Pl.cmpS r (Pl.seqS r (lp LA) tA.data.toList) LA.length (Pl.seqS r (lp LB) tB.data.toList) LB.length

def LoopRel (w0 : World) (r : Bool) (res : Int) (k : Nat) (wr : World) : Prop :=
  ∃ LA tA LB tB, Box w0 wr w0.heap.size LA tA ∧ Box w0 wr (w0.heap.size + 1) LB tB ∧ k = LA.length + tA.size ∧ Below w0.heap.size w0 wr ∧ resS r LA tA LB tB = res

set_option maxHeartbeats 400000 in
theorem compareParts_any (w : World) (pa pb : Option Addr) (ca cb : Nat) (LA LB : List (ByteArray × Bool)) (tA tB : ByteArray) (r : Bool) (hPA : PartsAt w pa ca LA) (hPB : PartsAt w pb cb LB) (htA : tA.size ≤ maxLen) (htB : tB.size ≤ maxLen) :
    Calls Tryd.prog 20 #[.agg #[.slice pa LA.length ca, .string tA], .agg #[.slice pb LB.length cb, .string tB], .bool r] w fun e w' => e = .returned (.int .i64 (resS r LA tA LB tB)) ∧ Below w.heap.size w w' := by
  generalize hres : resS r LA tA LB tB = res
  have HR : Hid (LoopRel w r res (LA.length + tA.size) ((w.alloc (.cells #[.slice pa LA.length ca, .string tA] 30)).alloc (.cells #[.slice pb LB.length cb, .string tB] 30))) := by
    refine ⟨LA, tA, LB, tB, ⟨pa, ca, hPA, ?_, ?_, ?_, ?_, htA⟩, ⟨pb, cb, hPB, ?_, ?_, ?_, ?_, htB⟩, rfl, ((Below.refl _ _).alloc (Nat.le_refl _) _).alloc (by simp) _, hres⟩
    all_goals go_simp
  clear hres hPA hPB
  go_enter Tryd.func20, Tryd.ntmps20
  go_wp2_with fail
  go_loopg [7] (LA.length + tA.size) (fun k _ wr => LoopRel w r res k wr)
  case atStart => exact HR
  case round =>
    clear HR
    obtain ⟨LA, tA, LB, tB, hA, hB, hk, hbel, hres⟩ := hrel
    have HRes : Hid (resS r LA tA LB tB = res) := hres
    have HK : Hid (gk = LA.length + tA.size) := hk
    have HBA : Hid (Box w wr w.heap.size LA tA) := hA
    have HBB : Hid (Box w wr (w.heap.size + 1) LB tB) := hB
    obtain ⟨pa', ca', hPA, a0, a1, g0, g1, hta⟩ := hA
    obtain ⟨pb', cb', hPB, b0, b1, k0, k1, htb⟩ := hB
    have HPA : Hid (PartsAt w pa' ca' LA) := hPA
    have HPB : Hid (PartsAt w pb' cb' LB) := hPB
    clear hres hk hPA hPB
    have hE1 := empty_any _ _ _ _ _ wr a0 a1
    have hE2 := empty_any _ _ _ _ _ wr b0 b1
    have hfin : ((LA.length == 0 && tA.toList.isEmpty) = true ∨ (LB.length == 0 && tB.toList.isEmpty) = true) → res = if Pl.moreT r LA.length tA.data.toList then 1 else if Pl.moreT r LB.length tB.data.toList then -1 else 0 := by
      intro h
      rw [← HRes.out]
      unfold resS
      have e1 : LA.length = (lp LA).length := by simp [lp]
      have e2 : LB.length = (lp LB).length := by simp [lp]
      have em : ∀ t : ByteArray, t.toList = t.data.toList := Lib.toList_data
      rw [e1, e2, em, em] at h
      rw [e1, e2, Pl.cmpS_end _ _ _ _ _ (h.imp (Pl.seqS_nil_iff r _ _).2 (Pl.seqS_nil_iff r _ _).2), Pl.moreS_eq, Pl.moreS_eq]
    cases heA : (LA.length == 0 && tA.toList.isEmpty)
    · rw [heA] at hE1
      cases heB : (LB.length == 0 && tB.toList.isEmpty)
      · rw [heB] at hE2
        have HeA : Hid ((LA.length == 0 && tA.toList.isEmpty) = false) := heA
        have HeB : Hid ((LB.length == 0 && tB.toList.isEmpty) = false) := heB
        clear heA heB hfin
        go_wp2_with fail
        refine hE1.mono ?_
        rintro e w' ⟨rfl, hw⟩
        subst hw
        go_wp2_with fail
        refine hE2.mono ?_
        rintro e w' ⟨rfl, hw⟩
        subst hw
        clear hE1 hE2
        go_wp2_with fail
        refine (next_any w w' w.heap.size ca' pa' LA tA r hbel (Nat.le_refl _) HPA.out a0 a1 g0 g1 hta HeA.out).mono ?_
        rintro e w2 ⟨x, y, pa2, c2, LA2, tA2, rfl, hseq, hlen, hlt, hts, hP2, c0, c1, q0, q1, off, u, hbl⟩
        have hA2 : Box w w2 w.heap.size LA2 tA2 := ⟨pa2, c2, hP2, c0, c1, q0, q1, by omega⟩
        have hB2 : Box w w2 (w.heap.size + 1) LB tB := HBB.out.other (by omega) hbl
        have hbel2 : Below w.heap.size w w2 := hbel.trans (((Below.refl _ _).setCell (Nat.le_refl _) u).trans (hbl.mono hbel.size))
        clear hbl c0 c1 q0 q1 hP2 a0 a1 g0 g1 b0 b1 k0 k1 HBA HBB hbel
        have HA2 : Hid (Box w w2 w.heap.size LA2 tA2) := hA2
        have HSA : Hid (Pl.seqS r (lp LA) tA.data.toList = (x.data.toList, y) :: Pl.seqS r (lp LA2) tA2.data.toList ∧ LA2.length = LA.length - 1) := ⟨hseq, hlen⟩
        clear hseq hlen hA2
        obtain ⟨pb2, cb2, hPB2, b0, b1, k0, k1, _⟩ := id hB2
        have HB2 : Hid (Box w w2 (w.heap.size + 1) LB tB) := hB2
        have HPB2 : Hid (PartsAt w pb2 cb2 LB) := hPB2
        clear hB2 hPB2 HPB
        go_wp2_with fail
        refine (next_any w w2 (w.heap.size + 1) cb2 pb2 LB tB r hbel2 (by omega) HPB2.out b0 b1 k0 k1 htb HeB.out).mono ?_
        rintro e w3 ⟨x2, y2, pb3, c3, LB2, tB2, rfl, hseq, hlen, hlt2, hts2, hP3, c0, c1, q0, q1, off2, u2, hbl⟩
        have hB3 : Box w w3 (w.heap.size + 1) LB2 tB2 := ⟨pb3, c3, hP3, c0, c1, q0, q1, by omega⟩
        have hA3 : Box w w3 w.heap.size LA2 tA2 := HA2.out.other (by omega) hbl
        have hbel3 : Below w.heap.size w w3 := hbel2.trans (((Below.refl _ _).setCell (Nat.le_succ _) u2).trans (hbl.mono hbel2.size))
        clear hbl c0 c1 q0 q1 hP3 b0 b1 k0 k1 HB2 HA2 hbel2
        have HB3 : Hid (Box w w3 (w.heap.size + 1) LB2 tB2) := hB3
        have HA3 : Hid (Box w w3 w.heap.size LA2 tA2) := hA3
        have HSB : Hid (Pl.seqS r (lp LB) tB.data.toList = (x2.data.toList, y2) :: Pl.seqS r (lp LB2) tB2.data.toList ∧ LB2.length = LB.length - 1) := ⟨hseq, hlen⟩
        clear hseq hlen hA3 hB3
        go_wp2_with fail
        refine (comparePart_any x x2 y y2 w3).mono ?_
        rintro e w4 ⟨rfl, hb4⟩
        have hr2 : res = if Pl.cmpPart (x.data.toList, y) (x2.data.toList, y2) ≠ 0 then Pl.cmpPart (x.data.toList, y) (x2.data.toList, y2) else resS r LA2 tA2 LB2 tB2 := by
          rw [← HRes.out]
          unfold resS
          rw [HSA.out.1, HSB.out.1, HSA.out.2, HSB.out.2]
          rfl
        have hA4 := HA3.out.below hb4
        have hB4 := HB3.out.below hb4
        have hbel4 : Below w.heap.size w w4 := hbel3.trans (hb4.mono hbel3.size)
        clear hb4 HA3 HB3 hbel3 HSA HSB HRes
        generalize Pl.cmpPart (x.data.toList, y) (x2.data.toList, y2) = cp at hr2 ⊢
        have HA4 : Hid (Box w w4 w.heap.size LA2 tA2) := hA4
        have HB4 : Hid (Box w w4 (w.heap.size + 1) LB2 tB2) := hB4
        have HR2 : Hid (res = if cp ≠ 0 then cp else resS r LA2 tA2 LB2 tB2) := hr2
        clear hA4 hB4 hr2
        by_cases hcp : cp = 0
        · subst hcp
          go_wp2_with fail
          go_roundg (LA2.length + tA2.size)
          case measure => rw [HK.out]; exact hlt
          case rel => exact ⟨LA2, tA2, LB2, tB2, HA4.out, HB4.out, rfl, hbel4, by rw [HR2.out]; rfl⟩
        · have hcp' : (cp != 0) = true := by simpa using hcp
          have HCP : Hid (¬ cp = 0) := hcp
          clear hcp
          go_wp2_with fail
          go_ret
          exact ⟨by rw [HR2.out, if_pos HCP.out]; rfl, hbel4⟩
      · rw [heB] at hE2
        have HF : Hid (res = if Pl.moreT r LA.length tA.data.toList then 1 else if Pl.moreT r LB.length tB.data.toList then -1 else 0) := hfin (.inr heB)
        clear heA heB hfin
        go_wp2_with fail
        refine hE1.mono ?_
        rintro e w' ⟨rfl, hw⟩
        subst hw
        go_wp2_with fail
        refine hE2.mono ?_
        rintro e w' ⟨rfl, hw⟩
        subst hw
        clear hE1 hE2
        go_wp2_with fail
        refine (more_any _ _ _ _ _ _ _ a0 a1 hta).mono ?_
        rintro e w2 ⟨rfl, hb2⟩
        have hbel2 := hbel.trans (hb2.mono hbel.size)
        generalize Pl.moreT r LA.length tA.data.toList = m1 at HF ⊢
        clear a0 a1 g0 g1 b0 b1 k0 k1
        cases m1
        · obtain ⟨pb2, cb2, _, b0, b1, k0, k1, _⟩ := HBB.out.below hb2
          go_wp2_with fail
          refine (more_any _ _ _ _ _ _ _ b0 b1 htb).mono ?_
          rintro e w3 ⟨rfl, hb3⟩
          have hbel3 := hbel2.trans (hb3.mono hbel2.size)
          generalize Pl.moreT r LB.length tB.data.toList = m2 at HF ⊢
          clear b0 b1 k0 k1
          cases m2
          · go_wp2_with fail
            go_ret
            exact ⟨by rw [HF.out]; rfl, hbel3⟩
          · go_wp2_with fail
            go_ret
            exact ⟨by rw [HF.out]; rfl, hbel3⟩
        · go_wp2_with fail
          go_ret
          exact ⟨by rw [HF.out]; rfl, hbel2⟩
    · rw [heA] at hE1
      have HF : Hid (res = if Pl.moreT r LA.length tA.data.toList then 1 else if Pl.moreT r LB.length tB.data.toList then -1 else 0) := hfin (.inl heA)
      clear heA hfin
      go_wp2_with fail
      refine hE1.mono ?_
      rintro e w' ⟨rfl, hw⟩
      subst hw
      clear hE1 hE2
      go_wp2_with fail
      refine (more_any _ _ _ _ _ _ _ a0 a1 hta).mono ?_
      rintro e w2 ⟨rfl, hb2⟩
      have hbel2 := hbel.trans (hb2.mono hbel.size)
      generalize Pl.moreT r LA.length tA.data.toList = m1 at HF ⊢
      clear a0 a1 g0 g1 b0 b1 k0 k1
      cases m1
      · obtain ⟨pb2, cb2, _, b0, b1, k0, k1, _⟩ := HBB.out.below hb2
        go_wp2_with fail
        refine (more_any _ _ _ _ _ _ _ b0 b1 htb).mono ?_
        rintro e w3 ⟨rfl, hb3⟩
        have hbel3 := hbel2.trans (hb3.mono hbel2.size)
        generalize Pl.moreT r LB.length tB.data.toList = m2 at HF ⊢
        clear b0 b1 k0 k1
        cases m2
        · go_wp2_with fail
          go_ret
          exact ⟨by rw [HF.out]; rfl, hbel3⟩
        · go_wp2_with fail
          go_ret
          exact ⟨by rw [HF.out]; rfl, hbel3⟩
      · go_wp2_with fail
        go_ret
        exact ⟨by rw [HF.out]; rfl, hbel2⟩
end Go.Proofs.Qxb6604528aDoor
