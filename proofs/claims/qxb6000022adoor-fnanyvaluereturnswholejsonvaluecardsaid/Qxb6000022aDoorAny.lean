import Derived.Test.Qxb6000022aDoorSet
import Derived.Lib.Bytealg
set_option linter.unusedSimpArgs false
set_option linter.unusedVariables false
namespace Go.Proofs.Qxb6000022aDoor
open Go.RowKit

/-- A byte of a number or a word. -/
def inWord (x : UInt8) : Bool := !isDelim x && decide (x.toNat < 128)

def dels : ByteArray := ⟨#[44, 125, 32, 9, 13, 10]⟩

theorem isDelim_iff (x : UInt8) : isDelim x = true ↔ x ∈ ([44, 125, 32, 9, 13, 10] : List UInt8) := by
  unfold isDelim
  simp only [Bool.or_eq_true, beq_iff_eq, List.mem_cons, List.not_mem_nil, or_false, ← UInt8.toNat_inj]
  simp
  omega
theorem dels_contains (x : UInt8) : dels.data.toList.contains x = isDelim x := by
  rw [Bool.eq_iff_iff, List.contains_iff_mem, isDelim_iff]
  rfl
theorem indexByte_lt (l : List UInt8) (x : UInt8) : (0 ≤ Lib.indexByte l x) ↔ x ∈ l := by
  induction l with
  | nil => simp [Lib.indexByte]
  | cons b l ih =>
    have hg := Lib.indexByte_ge l x
    rw [Lib.indexByte, List.mem_cons]
    by_cases h : b = x
    · subst h; simp
    · rw [if_neg (by simpa using h)]
      by_cases h2 : Lib.indexByte l x = -1
      · rw [if_pos (by simpa using h2)]
        have : x ∉ l := fun hm => by have := ih.2 hm; omega
        constructor
        · intro h3; omega
        · rintro (rfl | h3)
          · exact absurd rfl h
          · exact absurd h3 this
      · rw [if_neg (by simpa using h2)]
        constructor
        · intro _; exact Or.inr (ih.1 (by omega))
        · intro _; omega
theorem indexByte_dels (x : UInt8) (h : isDelim x = true) : 0 ≤ Lib.indexByte dels.data.toList x := (indexByte_lt _ _).2 ((isDelim_iff x).1 h)
theorem indexByte_other (x : UInt8) (h : isDelim x = false) : ¬ 0 ≤ Lib.indexByte dels.data.toList x := fun h' => by
  have := (isDelim_iff x).2 ((indexByte_lt _ _).1 h')
  rw [h] at this; cases this

def AnyIdxPost (n : Nat) (w : World) (e : Ending) (w' : World) : Prop := e = .returned (.int .i64 (n : Int)) ∧ Below w.heap.size w w'

def SetRel (w : World) (pa : Option Addr) (c B : Nat) (l : List UInt8) (wr : World) : Prop :=
  BytesAt wr pa c l ∧ Below w.heap.size w wr ∧ ∀ x : UInt8, wr.cell? ⟨B, x.toNat, none⟩ = some (.bool (isDelim x))

theorem inWord_of {x : UInt8} {t : List UInt8} (h : (x :: t).all inWord = true) : isDelim x = false ∧ x.toNat < 128 ∧ t.all inWord = true := by
  rw [List.all_cons, Bool.and_eq_true] at h
  obtain ⟨h1, h2⟩ := h
  unfold inWord at h1
  rw [Bool.and_eq_true] at h1
  exact ⟨by simpa using h1.1, by simpa using h1.2, h2⟩
theorem delim_ascii {d : UInt8} (h : isDelim d = true) : d.toNat < 128 := by
  unfold isDelim at h
  simp only [Bool.or_eq_true, beq_iff_eq] at h
  omega

set_option maxHeartbeats 2000000 in
set_option maxRecDepth 1000000 in
theorem indexAny_short (w : World) (pa : Option Addr) (c : Nat) (z p r : List UInt8) (d : UInt8) (hA : BytesAt w pa c z) (hz : z = p ++ d :: r) (hne : p ≠ []) (hp : p.all inWord = true) (hd : isDelim d = true) (h8 : z.length ≤ 8) :
    Calls Tryd.prog 27 #[.slice pa z.length c, .string dels] w (AnyIdxPost p.length w) := by
  have h2 : ((z.length : Int) == 1) = false := by
    rw [beq_eq_false_iff_ne, hz]
    cases p with
    | nil => exact absurd rfl hne
    | cons a p => simp; omega
  have HU : Hid (Calls Tryd.prog 31 #[.int .i64 z.length] w fun e w' => e = .returned (.bool false) ∧ w' = w) := by
    have := useSet_any z.length (Nat.le_trans hA.1 hA.2.1) w
    rw [decide_eq_false (by omega)] at this
    exact this
  have HZ : Hid (z = p ++ d :: r ∧ p.all inWord = true ∧ isDelim d = true) := ⟨hz, hp, hd⟩
  have HM : Hid (∀ x, isDelim x = true → 0 ≤ Lib.indexByte dels.data.toList x) := indexByte_dels
  have HN : Hid (∀ x, isDelim x = false → ¬ 0 ≤ Lib.indexByte dels.data.toList x) := indexByte_other
  have hd1 : dels.size = 6 := rfl
  have hd2 : dels.toList.isEmpty = false := by rw [toList_is]; rfl
  clear hz hp hd hne
  generalize dels = D at *
  go_enter Tryd.func27, Tryd.ntmps27
  go_wp2_with fail
  refine HU.out.mono ?_
  rintro e w' ⟨rfl, rfl⟩
  clear HU
  go_wp2
  go_loop [11, 12] (fun a j => ∃ (k : Nat) (p' : List UInt8), k ≤ z.length ∧ j = .int .i64 k ∧ Hid (z.drop k = p' ++ d :: r ∧ p'.all inWord = true ∧ k + p'.length = p.length)) (fun a j => z.length - (intOf j).toNat)
  case atStart => exact ⟨0, p, Nat.zero_le _, rfl, by rw [List.drop_zero]; exact HZ.out.1, HZ.out.2.1, by omega⟩
  case round =>
    obtain ⟨k, p', hk, rfl, HK⟩ := hrel
    cases p' with
    | nil =>
      obtain ⟨hlt, b, o, rfl, e2⟩ := hA.head (k := k) (a := d) (t := r) HK.out.1
      have hlt' : (k : Int) < z.length := by omega
      have hsum := HK.out.2.2
      have hasc := delim_ascii HZ.out.2.2
      have hge := HM.out d HZ.out.2.2
      clear HK HZ HM HN
      have hasc' : (d.toNat : Int) < 128 := by omega
      go_wp2
      rw [run_callFunc_extern Tryd.func29 (by kernel_rfl) (by kernel_rfl) (by kernel_rfl) (e := Extern.BytealgIndexByte.indexByte) (by kernel_rfl), Lib.run_indexByteString]
      simp only [Result.andThen]
      rw [Oper.upon_value]
      have hge' : 0 ≤ Lib.indexByte D.data.toList (Int.toNat (d.toNat : Int)).toUInt8 := by simpa using hge
      go_wp2
      go_ret
      refine ⟨?_, Below.refl _ _⟩
      simp at hsum
      rw [← hsum]
      rfl
    | cons x p' =>
      obtain ⟨hlt, b, o, rfl, e2⟩ := hA.head (k := k) (a := x) (t := p' ++ d :: r) HK.out.1
      obtain ⟨_, _, hd2⟩ := drop_at HK.out.1
      obtain ⟨hx1, hx2, hx3⟩ := inWord_of HK.out.2.1
      have hsum := HK.out.2.2
      have HK' : Hid (z.drop (k + 1) = p' ++ d :: r ∧ p'.all inWord = true ∧ k + 1 + p'.length = p.length) := ⟨hd2, hx3, by simp at hsum; omega⟩
      have hlt' : (k : Int) < z.length := by omega
      have hge := HN.out x hx1
      clear HK HM HN hsum hd2 hx3
      have hasc' : (x.toNat : Int) < 128 := by omega
      go_wp2
      rw [run_callFunc_extern Tryd.func29 (by kernel_rfl) (by kernel_rfl) (by kernel_rfl) (e := Extern.BytealgIndexByte.indexByte) (by kernel_rfl), Lib.run_indexByteString]
      simp only [Result.andThen]
      rw [Oper.upon_value]
      have hge' : ¬ 0 ≤ Lib.indexByte D.data.toList (Int.toNat (x.toNat : Int)).toUInt8 := by simpa using hge
      go_wp2
      go_round
      case rel => exact ⟨k + 1, p', by omega, by go_num, HK'⟩
      case measure => simp [intOf]; omega

set_option maxHeartbeats 2000000 in
set_option maxRecDepth 1000000 in
theorem indexAny_long (w : World) (pa : Option Addr) (c : Nat) (z p r : List UInt8) (d : UInt8) (hA : BytesAt w pa c z) (hz : z = p ++ d :: r) (hp : p.all inWord = true) (hd : isDelim d = true) (h8 : 8 < z.length) :
    Calls Tryd.prog 27 #[.slice pa z.length c, .string dels] w (AnyIdxPost p.length w) := by
  have h2 : ((z.length : Int) == 1) = false := by rw [beq_eq_false_iff_ne]; omega
  have hl : z.length ≤ maxLen := Nat.le_trans hA.1 hA.2.1
  have HU : Hid (Calls Tryd.prog 31 #[.int .i64 z.length] w fun e w' => e = .returned (.bool true) ∧ w' = w) := by
    have := useSet_any z.length hl w
    rw [decide_eq_true (by omega)] at this
    exact this
  unfold maxLen at hl
  have HZ : Hid (z = p ++ d :: r ∧ p.all inWord = true ∧ isDelim d = true) := ⟨hz, hp, hd⟩
  have HS : Hid (Calls Tryd.prog 32 #[.string dels] w fun e w' => e = .returned (.tuple #[.agg (Lib.setCells dels.data.toList), .bool true]) ∧ w' = w.alloc (.cells (Lib.setCells dels.data.toList) 39)) :=
    makeSet_any dels w (by decide) (fun j b hb => by
      have : b ∈ dels.data.toList := List.mem_of_getElem? hb
      have h := (isDelim_iff b).2 this
      exact delim_ascii h)
  have HC : Hid (∀ x : UInt8, (Lib.setCells dels.data.toList)[x.toNat]? = some (.bool (isDelim x))) := fun x => by rw [Lib.setCells_at, dels_contains]
  have HV : Hid ((Lib.setCells dels.data.toList).size = 256 ∧ (Lib.setCells dels.data.toList).all (·.oneCell') = true) := ⟨Lib.setCells_size _, Lib.setCells_one _⟩
  have hd1 : dels.size = 6 := rfl
  have hd2 : dels.toList.isEmpty = false := by rw [toList_is]; rfl
  clear hz hp hd
  generalize Lib.setCells dels.data.toList = S at *
  generalize dels = D at *
  have hz := zero39
  go_enter Tryd.func27, Tryd.ntmps27
  go_wp2_with fail
  refine HU.out.mono ?_
  rintro e w' ⟨rfl, rfl⟩
  clear HU
  go_wp2_with fail
  refine HS.out.mono ?_
  rintro e w' ⟨rfl, rfl⟩
  clear HS
  have hsz := HV.out.1
  have hsc := run_storeCells_new (P := Tryd.prog) (w'.alloc (.cells S 39)) 39 (Array.replicate 256 (.bool false)) S (by rw [hsz]; exact info39) (by rw [hsz]; simp) HV.out.2
  rw [show (w'.alloc (.cells S 39)).heap.size = w'.heap.size + 1 by simp] at hsc
  have hW : SetRel w' pa c (w'.heap.size + 1) z ((w'.alloc (.cells S 39)).alloc (.cells S 39)) := by
    have hb := ((Below.refl w'.heap.size w').alloc (Nat.le_refl _) (.cells S 39)).alloc (by simp) (.cells S 39)
    refine ⟨hA.below hb, hb, fun x => ?_⟩
    have := HC.out x
    go_simp
  have HW : Hid (SetRel w' pa c (w'.heap.size + 1) z ((w'.alloc (.cells S 39)).alloc (.cells S 39))) := hW
  clear hW hA HC HV
  go_wp2_with fail
  clear hsc hz
  go_loopw [62] (fun j wr => ∃ (k : Nat) (p' : List UInt8), k ≤ z.length ∧ j = .int .i64 k ∧ Hid (SetRel w' pa c (w'.heap.size + 1) z wr) ∧ Hid (z.drop k = p' ++ d :: r ∧ p'.all inWord = true ∧ k + p'.length = p.length)) (fun j _ => z.length - (intOf j).toNat)
  case atStart => exact ⟨0, p, Nat.zero_le _, rfl, HW, by rw [List.drop_zero]; exact HZ.out.1, HZ.out.2.1, by omega⟩
  case round =>
    clear HW
    obtain ⟨k, p', hk, rfl, HR, HK⟩ := hrel
    cases p' with
    | nil =>
      obtain ⟨hlt, b, o, rfl, e2⟩ := HR.out.1.head (k := k) (a := d) (t := r) HK.out.1
      have hlt' : (k : Int) < z.length := by omega
      have hsum := HK.out.2.2
      have hcall := contains_any (w'.heap.size + 1) d true wr (by rw [HR.out.2.2 d, HZ.out.2.2])
      clear HK HZ
      go_wp2_with fail
      refine hcall.mono ?_
      rintro e w'' ⟨rfl, rfl⟩
      go_wp2
      go_ret
      refine ⟨?_, HR.out.2.1⟩
      simp at hsum
      rw [← hsum]
      rfl
    | cons x p' =>
      obtain ⟨hlt, b, o, rfl, e2⟩ := HR.out.1.head (k := k) (a := x) (t := p' ++ d :: r) HK.out.1
      obtain ⟨_, _, hd2⟩ := drop_at HK.out.1
      obtain ⟨hx1, hx2, hx3⟩ := inWord_of HK.out.2.1
      have hsum := HK.out.2.2
      have HK' : Hid (z.drop (k + 1) = p' ++ d :: r ∧ p'.all inWord = true ∧ k + 1 + p'.length = p.length) := ⟨hd2, hx3, by simp at hsum; omega⟩
      have hlt' : (k : Int) < z.length := by omega
      have hcall := contains_any (w'.heap.size + 1) x false wr (by rw [HR.out.2.2 x, hx1])
      clear HK hsum hd2 hx3
      go_wp2_with fail
      refine hcall.mono ?_
      rintro e w'' ⟨rfl, rfl⟩
      clear hcall
      go_wp2
      go_roundw
      case rel => exact ⟨k + 1, p', by omega, by go_num, HR, HK'⟩
      case measure => simp [intOf]; omega

theorem indexAny_any (w : World) (pa : Option Addr) (c : Nat) (z p r : List UInt8) (d : UInt8) (hA : BytesAt w pa c z) (hz : z = p ++ d :: r) (hne : p ≠ []) (hp : p.all inWord = true) (hd : isDelim d = true) :
    Calls Tryd.prog 27 #[.slice pa z.length c, .string dels] w (AnyIdxPost p.length w) := by
  rcases Nat.lt_or_ge 8 z.length with h | h
  · exact indexAny_long w pa c z p r d hA hz hp hd h
  · exact indexAny_short w pa c z p r d hA hz hne hp hd h
end Go.Proofs.Qxb6000022aDoor
