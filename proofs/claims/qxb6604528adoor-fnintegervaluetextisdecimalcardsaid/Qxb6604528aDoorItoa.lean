import Derived.Test.Qxb6604528aDoorShelf
import Derived.WalkKit
import Derived.WalkSpells
import Derived.WalkLawsBesides
import Derived.Deep.LoopGhost
set_option linter.unusedSimpArgs false
set_option linter.unusedVariables false
namespace Go.Proofs.Qxb6604528aDoor
open Go.RowKit

/-- The buffer of zzItoa, a new block of twenty bytes, filled from place p on. -/
def BufAt (w wr : World) (p : Nat) (ds : List UInt8) : Prop :=
  p + ds.length = 20 ∧ Below w.heap.size w wr ∧ w.heap.size < wr.heap.size ∧ (∀ j, j < 20 → (wr.cell? ⟨w.heap.size, j, none⟩).isSome = true) ∧ (∀ j, wr.frozen? ⟨w.heap.size, j, none⟩ = false) ∧
    ∀ j (hj : j < ds.length), wr.cell? ⟨w.heap.size, p + j, none⟩ = some (.int .u8 (ds[j].toNat : Int))

theorem BufAt.step {w wr : World} {q : Nat} {ds : List UInt8} {d : UInt8} (h : BufAt w wr (q + 1) ds) : BufAt w (wr.setCell ⟨w.heap.size, q, none⟩ (.int .u8 (d.toNat : Int))) q (d :: ds) := by
  obtain ⟨h1, h2, h3, h4, h5, h6⟩ := h
  have ne : ∀ i j : Nat, i ≠ j → (⟨w.heap.size, i, none⟩ : Addr) ≠ ⟨w.heap.size, j, none⟩ := fun i j hij e => hij (by injection e)
  obtain ⟨z, hz⟩ := Option.isSome_iff_exists.1 (h4 q (by omega))
  refine ⟨by simp; omega, h2.setCell (Nat.le_refl _) _, by simpa [World.setCell] using h3, fun j hj => ?_, fun j => by rw [World.frozen?_setCell]; exact h5 j, fun j hj => ?_⟩
  · by_cases e : q = j
    · subst e
      rw [World.cell?_setCell_same _ _ _ hz]; rfl
    · rw [World.cell?_setCell_other _ _ _ _ (ne _ _ e)]; exact h4 j hj
  · cases j with
    | zero => simpa using World.cell?_setCell_same _ _ _ hz
    | succ j =>
      rw [World.cell?_setCell_other _ _ _ _ (ne _ _ (by omega)), show q + (j + 1) = q + 1 + j by omega]
      exact h6 j (by simpa using hj)

theorem nDigits_small {m : Nat} (h : m ≤ 9223372036854775808) : Lib.nDigits m ≤ 19 := by
  rcases Nat.lt_or_ge 19 (Lib.nDigits m) with h2 | h2
  · exfalso
    have key : ∀ (k u : Nat), k < Lib.nDigits u → 10 ^ k ≤ u ∨ k = 0 := by
      intro k
      induction k with
      | zero => intro u _; exact .inr rfl
      | succ k ih =>
        intro u hu
        by_cases h : u < 10
        · rw [Lib.nDigits_small h] at hu; omega
        · rw [Lib.nDigits_big h] at hu
          rcases ih (u / 10) (by omega) with h3 | h3
          · left
            rw [Nat.pow_succ]
            have := Nat.mul_le_of_le_div 10 (10 ^ k) u h3
            omega
          · subst h3; left; omega
    rcases key 19 m h2 with h3 | h3
    · omega
    · cases h3
  · exact h2
theorem decDigits_small {u : Nat} (h : u < 10) : Lib.decDigits u = [UInt8.ofNat (48 + u)] := by rw [Lib.decDigits, dif_pos h]
theorem decDigits_big {u : Nat} (h : ¬ u < 10) : Lib.decDigits u = Lib.decDigits (u / 10) ++ [UInt8.ofNat (48 + u % 10)] := by rw [Lib.decDigits, dif_neg h]

/-- At the loop's head: what is left, and the digits that stand. -/
def ItoaRel (w : World) (m : Nat) (a b : Value) (wr : World) : Prop :=
  ∃ (u p : Nat) (ds : List UInt8), a = .int .u64 u ∧ b = .int .i64 p ∧ BufAt w wr p ds ∧ Lib.decDigits m = Lib.decDigits u ++ ds ∧ ds.length + Lib.nDigits u ≤ 19 ∧ u ≤ 9223372036854775808

theorem digit_byte (u : Nat) : ((UInt8.ofNat (48 + u % 10)).toNat : Int) = 48 + (u : Int) % 10 := by
  have : (48 + u % 10) % 256 = 48 + u % 10 := Nat.mod_eq_of_lt (by omega)
  simp [UInt8.toNat_ofNat', this]

theorem slice20 (N q : Nat) (hq : q < 20) (W : World) :
    (Instr.sliceAt 61 (.pointer (some ⟨N, 0, none⟩)) (some (.int .i64 (q : Int))) none none).run Tryd.prog W = .ok (.slice (some ⟨N, q, none⟩) (20 - q) (20 - q)) W := by
  have ha : Tryd.prog.arrayLen 61 = 20 := by kernel_rfl
  have he : Tryd.prog.elem 61 = 5 := by kernel_rfl
  have hs : (sizeOf 5).run Tryd.prog W = .ok 1 W := by kernel_rfl
  rw [run_sliceAt_array_l W 61 ⟨N, 0, none⟩ (by rw [ha, he]; exact Tryd.underlying61) .i64 q (by omega) (by rw [ha]; omega), ha, he, hs]
  simp only [Result.andThen_ok, slicedAt, Int.toNat_natCast]
  rw [if_neg (by omega)]
  have hadd : (⟨N, 0, none⟩ : Addr).add (q * 1) = ⟨N, q, none⟩ := by
    unfold Addr.add
    split <;> simp_all
  rw [hadd]
theorem conv20 {w wr : World} {q : Nat} {ds : List UInt8} (h : BufAt w wr q ds) : (convert 62 9 (.slice (some ⟨w.heap.size, q, none⟩) (20 - q) (20 - q))).run Tryd.prog wr = .ok (.string ⟨ds.toArray⟩) wr := by
  have e : 20 - q = ds.length := by have := h.1; omega
  rw [e]
  refine run_convert_bytes_back wr 62 9 5 ⟨w.heap.size, q, none⟩ ds.length ds Tryd.underlying62 Tryd.underlying5 Tryd.underlying9 (fun j hj => ?_)
  have hadd : (⟨w.heap.size, q, none⟩ : Addr).add j = ⟨w.heap.size, q + j, none⟩ := by
    unfold Addr.add
    split <;> simp_all
  rw [hadd]
  exact h.2.2.2.2.2 j hj

theorem buf_start (w : World) : BufAt w (w.alloc (.cells #[.int .u8 0, .int .u8 0, .int .u8 0, .int .u8 0, .int .u8 0, .int .u8 0, .int .u8 0, .int .u8 0, .int .u8 0, .int .u8 0, .int .u8 0, .int .u8 0, .int .u8 0, .int .u8 0, .int .u8 0, .int .u8 0, .int .u8 0, .int .u8 0, .int .u8 0, .int .u8 0] 61)) 20 [] := by
  refine ⟨rfl, (Below.refl _ _).alloc (Nat.le_refl _) _, by simp, fun j hj => ?_, fun j => by go_simp, fun j hj => by cases hj⟩
  go_simp

theorem wrap_abs (i : Int) (h0 : -9223372036854775808 ≤ i) (h : i < 0) : IntKind.u64.wrap (-IntKind.u64.wrap i) = (i.natAbs : Int) := by
  have e : ∀ x : Int, IntKind.u64.wrap x = x % 18446744073709551616 := fun x => by simp [IntKind.wrap, IntKind.bits, IntKind.signed]
  rw [e, e]
  omega

set_option maxRecDepth 100000 in
set_option maxHeartbeats 400000 in
theorem itoa_any (i : Int) (h0 : -9223372036854775808 ≤ i) (h1 : i ≤ 9223372036854775807) (w : World) :
    Calls Tryd.prog 18 #[.int .i64 i] w fun e w' => e = .returned (.string ⟨(Lib.itoa i).toArray⟩) ∧ Below w.heap.size w w' := by
  generalize hr : Lib.itoa i = res
  by_cases hneg : i < 0
  · have hst : ItoaRel w i.natAbs (.int .u64 (IntKind.u64.wrap (-IntKind.u64.wrap i))) (.int .i64 20) (w.alloc (.cells #[.int .u8 0, .int .u8 0, .int .u8 0, .int .u8 0, .int .u8 0, .int .u8 0, .int .u8 0, .int .u8 0, .int .u8 0, .int .u8 0, .int .u8 0, .int .u8 0, .int .u8 0, .int .u8 0, .int .u8 0, .int .u8 0, .int .u8 0, .int .u8 0, .int .u8 0, .int .u8 0] 61)) :=
      ⟨i.natAbs, 20, [], by rw [wrap_abs i h0 hneg], rfl, buf_start w, by simp, by have := nDigits_small (m := i.natAbs) (by omega); simp; omega, by omega⟩
    have HST : Hid (ItoaRel w i.natAbs (.int .u64 (IntKind.u64.wrap (-IntKind.u64.wrap i))) (.int .i64 20) (w.alloc (.cells #[.int .u8 0, .int .u8 0, .int .u8 0, .int .u8 0, .int .u8 0, .int .u8 0, .int .u8 0, .int .u8 0, .int .u8 0, .int .u8 0, .int .u8 0, .int .u8 0, .int .u8 0, .int .u8 0, .int .u8 0, .int .u8 0, .int .u8 0, .int .u8 0, .int .u8 0, .int .u8 0] 61))) := hst
    have HR : Hid (45 :: Lib.decDigits i.natAbs = res) := by
      show _ = res
      rw [← hr]
      unfold Lib.itoa
      rw [if_pos hneg]
    clear hst hr
    go_enter Tryd.func18, Tryd.ntmps18
    go_wp2_with fail
    go_loopw [3, 6] (fun a b wr => ItoaRel w i.natAbs a b wr) (fun _ b _ => (intOf b).toNat)
    case atStart => exact HST
    case round =>
      clear HST
      obtain ⟨u, p, ds, rfl, rfl, hbuf, hdec, hnd, hub⟩ := hrel
      have hpos := Lib.nDigits_pos u
      obtain ⟨q, rfl⟩ : ∃ q, p = q + 1 := ⟨p - 1, by have := hbuf.1; omega⟩
      have hq : q < 20 := by have := hbuf.1; omega
      have hq1 : 1 ≤ q := by have := hbuf.1; omega
      obtain ⟨q, rfl⟩ : ∃ r, q = r + 1 := ⟨q - 1, by omega⟩
      obtain ⟨z, hz⟩ := Option.isSome_iff_exists.1 (hbuf.2.2.2.1 (q + 1) hq)
      obtain ⟨z2, hz2⟩ := Option.isSome_iff_exists.1 (hbuf.2.2.2.1 q (by omega))
      have hf := hbuf.2.2.2.2.1 (q + 1)
      have hf2 := hbuf.2.2.2.2.1 q
      have hbd := hbuf.step (d := UInt8.ofNat (48 + u % 10))
      rw [digit_byte] at hbd
      have hbd2 := hbd.step (d := 45)
      rw [show (((45 : UInt8).toNat : Nat) : Int) = 45 from rfl] at hbd2
      have HB1 : Hid (BufAt w (wr.setCell ⟨w.heap.size, q + 1, none⟩ (.int .u8 (48 + (u : Int) % 10))) (q + 1) (UInt8.ofNat (48 + u % 10) :: ds)) := hbd
      have HB2 : Hid (BufAt w ((wr.setCell ⟨w.heap.size, q + 1, none⟩ (.int .u8 (48 + (u : Int) % 10))).setCell ⟨w.heap.size, q, none⟩ (.int .u8 45)) q (45 :: UInt8.ofNat (48 + u % 10) :: ds)) := hbd2
      have HDEC : Hid (Lib.decDigits i.natAbs = Lib.decDigits u ++ ds) := hdec
      have hu0 : 0 ≤ (u : Int) % 10 := by omega
      have hu10 : (u : Int) % 10 < 10 := by omega
      have hv0 : 0 ≤ (u : Int) / 10 := by omega
      have hv1 : (u : Int) / 10 ≤ 922337203685477580 := by omega
      by_cases hu : u < 10
      · have hd0 : (u : Int) / 10 = 0 := by omega
        have hsl := fun W => slice20 w.heap.size q (by omega) W
        have hcv := conv20 hbd2
        have HF : Hid (res = 45 :: UInt8.ofNat (48 + u % 10) :: ds) := by
          show res = _
          rw [← HR.out, hdec, decDigits_small hu, Nat.mod_eq_of_lt hu]
          rfl
        clear hbd hbd2 hdec hnd hub hbuf hpos h0 h1 hneg hq1 hu
        generalize hfs : (45 :: UInt8.ofNat (48 + u % 10) :: ds) = fs at HF hcv
        clear hfs
        go_wp2_with fail
        go_ret
        exact ⟨by rw [HF.out]; rfl, HB2.out.2.1⟩
      · have hd0 : ((u : Int) / 10 == 0) = false := by rw [beq_eq_false_iff_ne]; omega
        have HN : Hid (ItoaRel w i.natAbs (.int .u64 ((u / 10 : Nat) : Int)) (.int .i64 ((q + 1 : Nat) : Int)) (wr.setCell ⟨w.heap.size, q + 1, none⟩ (.int .u8 (48 + (u : Int) % 10)))) :=
          ⟨u / 10, q + 1, UInt8.ofNat (48 + u % 10) :: ds, rfl, rfl, hbd, by rw [hdec, decDigits_big hu]; simp, by rw [Lib.nDigits_big hu] at hnd; simp; omega, by omega⟩
        clear hbd hbd2 hdec hnd hub hbuf hpos h0 h1 hneg hq1 hu
        go_wp2_with fail
        go_roundw
        case rel => exact HN
        case measure => simp [intOf]; omega
  · have hst : ItoaRel w i.toNat (.int .u64 i) (.int .i64 20) (w.alloc (.cells #[.int .u8 0, .int .u8 0, .int .u8 0, .int .u8 0, .int .u8 0, .int .u8 0, .int .u8 0, .int .u8 0, .int .u8 0, .int .u8 0, .int .u8 0, .int .u8 0, .int .u8 0, .int .u8 0, .int .u8 0, .int .u8 0, .int .u8 0, .int .u8 0, .int .u8 0, .int .u8 0] 61)) :=
      ⟨i.toNat, 20, [], by rw [Int.toNat_of_nonneg (by omega)], rfl, buf_start w, by simp, by have := nDigits_small (m := i.toNat) (by omega); simp; omega, by omega⟩
    have HST : Hid (ItoaRel w i.toNat (.int .u64 i) (.int .i64 20) (w.alloc (.cells #[.int .u8 0, .int .u8 0, .int .u8 0, .int .u8 0, .int .u8 0, .int .u8 0, .int .u8 0, .int .u8 0, .int .u8 0, .int .u8 0, .int .u8 0, .int .u8 0, .int .u8 0, .int .u8 0, .int .u8 0, .int .u8 0, .int .u8 0, .int .u8 0, .int .u8 0, .int .u8 0] 61))) := hst
    have HR : Hid (Lib.decDigits i.toNat = res) := by
      show _ = res
      rw [← hr]
      unfold Lib.itoa
      rw [if_neg hneg]
    clear hst hr
    go_enter Tryd.func18, Tryd.ntmps18
    go_wp2_with fail
    go_loopw [3, 6] (fun a b wr => ItoaRel w i.toNat a b wr) (fun _ b _ => (intOf b).toNat)
    case atStart => exact HST
    case round =>
      clear HST
      obtain ⟨u, p, ds, rfl, rfl, hbuf, hdec, hnd, hub⟩ := hrel
      have hpos := Lib.nDigits_pos u
      obtain ⟨q, rfl⟩ : ∃ q, p = q + 1 := ⟨p - 1, by have := hbuf.1; omega⟩
      have hq : q < 20 := by have := hbuf.1; omega
      obtain ⟨z, hz⟩ := Option.isSome_iff_exists.1 (hbuf.2.2.2.1 q hq)
      have hf := hbuf.2.2.2.2.1 q
      have hbd := hbuf.step (d := UInt8.ofNat (48 + u % 10))
      rw [digit_byte] at hbd
      have HB1 : Hid (BufAt w (wr.setCell ⟨w.heap.size, q, none⟩ (.int .u8 (48 + (u : Int) % 10))) q (UInt8.ofNat (48 + u % 10) :: ds)) := hbd
      have hu0 : 0 ≤ (u : Int) % 10 := by omega
      have hu10 : (u : Int) % 10 < 10 := by omega
      have hv0 : 0 ≤ (u : Int) / 10 := by omega
      have hv1 : (u : Int) / 10 ≤ 922337203685477580 := by omega
      by_cases hu : u < 10
      · have hd0 : (u : Int) / 10 = 0 := by omega
        have hsl := fun W => slice20 w.heap.size q (by omega) W
        have hcv := conv20 hbd
        have HF : Hid (res = UInt8.ofNat (48 + u % 10) :: ds) := by
          show res = _
          rw [← HR.out, hdec, decDigits_small hu, Nat.mod_eq_of_lt hu]
          rfl
        clear hbd hdec hnd hub hbuf hpos h0 h1 hneg hu
        generalize hfs : (UInt8.ofNat (48 + u % 10) :: ds) = fs at HF hcv
        clear hfs
        go_wp2_with fail
        go_ret
        exact ⟨by rw [HF.out]; rfl, HB1.out.2.1⟩
      · have hd0 : ((u : Int) / 10 == 0) = false := by rw [beq_eq_false_iff_ne]; omega
        have HN : Hid (ItoaRel w i.toNat (.int .u64 ((u / 10 : Nat) : Int)) (.int .i64 (q : Int)) (wr.setCell ⟨w.heap.size, q, none⟩ (.int .u8 (48 + (u : Int) % 10)))) :=
          ⟨u / 10, q, UInt8.ofNat (48 + u % 10) :: ds, rfl, rfl, hbd, by rw [hdec, decDigits_big hu]; simp, by rw [Lib.nDigits_big hu] at hnd; simp; omega, by omega⟩
        clear hbd hdec hnd hub hbuf hpos h0 h1 hneg hu
        go_wp2_with fail
        go_roundw
        case rel => exact HN
        case measure => simp [intOf]
end Go.Proofs.Qxb6604528aDoor
