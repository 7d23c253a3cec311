import Derived.Test.Qxb6003569aDoorFits
import Derived.Deep.OwnRows
import Derived.Deep.AppendLies
import Derived.Lib.AppendStr
import Derived.Laws.AppendOwnNone
import Derived.OwnWalk
set_option linter.unusedSimpArgs false
set_option linter.unusedVariables false
namespace Go.Proofs.Qxb6003569aDoor
open Go.RowKit

def enc (x : UInt8) : Value := .int .u8 (x.toNat : Int)
theorem info5 : (Tryd.prog.info? 5).map (fun i => (i.zero, i.size, i.bytes)) = some (some (.int .u8 0), 1, 1) := by kernel_rfl

/-- The bytes that the call has written, at or behind block B. -/
def OutRel (B : Nat) (pb : Option Addr) (cb : Nat) (w : World) (L : List UInt8) : Prop :=
  w.ownsRow B 5 1 (.slice pb L.length cb) L.length (L.map enc) ∧ B ≤ w.heap.size

theorem own_form {w : World} {B n : Nat} {v : Value} {xs : List Value} (h : w.ownsRow B 5 1 v n xs) : ∃ pb cb, v = .slice pb n cb := by
  rcases h.2 with ⟨h1, h2⟩ | ⟨g, cap, cur, h1, _⟩
  · exact ⟨none, 0, by rw [h1, h2]⟩
  · exact ⟨_, _, h1⟩
theorem OutRel.alloc {B : Nat} {pb : Option Addr} {cb : Nat} {w : World} {L : List UInt8} (h : OutRel B pb cb w L) (o : Obj) : OutRel B pb cb (w.alloc o) L :=
  ⟨h.1.alloc o, by have := h.2; simp; omega⟩

theorem wpList_app_str {ops : Array Oper} {rest : List Oper} {o : Oper} {a : Act} {Q : Exit → Act → World → Prop} (w : World) (hgd : o.guard = none) (s x : Operand)
    (ho : o.op = .call { callee := .builtin .append, args := #[s, x], argTypes := #[35, 9] })
    (B : Nat) (pb : Option Addr) (cb : Nat) (L : List UInt8) (hs : a.eval s = .slice pb L.length cb) (hrel : OutRel B pb cb w L) (g : ByteArray) (hx : a.eval x = .string g) (hb : L.length + g.size ≤ 16777216)
    (h : ∀ pb' cb' w', OutRel B pb' cb' w' (L ++ g.data.toList) → Below B w w' → wpList Tryd.prog ops Q rest (a.put o.dst (.slice pb' (L.length + g.size) cb')) w') : wpList Tryd.prog ops Q (o :: rest) a w := by
  obtain ⟨i, hi, hzz⟩ := Option.map_eq_some_iff.1 info5
  simp only [Prod.mk.injEq] at hzz
  obtain ⟨hz, hsz, hby⟩ := hzz
  refine Lib.wpList_append_own_string w hgd s x 35 9 ho B 5 i Tryd.underlying35 Tryd.underlying9 hi hz hsz hby _ L.length (L.map enc) hs hrel.1 g hx (by unfold maxLen; omega) (by omega) hrel.2 ?_
  intro v' w' hown hg _
  obtain ⟨pb', cb', rfl⟩ := own_form hown
  refine h pb' cb' w' ⟨?_, Nat.le_trans hrel.2 hg.size⟩ ((Below.refl _ _).grown hg hrel.2 (fun k hk => (hrel.1.lt k hk).1))
  rw [List.map_append, List.length_append, ← Lib.size_eq]
  exact hown

theorem wpList_app_byte {ops : Array Oper} {rest : List Oper} {o : Oper} {a : Act} {Q : Exit → Act → World → Prop} (w : World) (hgd : o.guard = none) (s x : Operand)
    (ho : o.op = .call { callee := .builtin .append, args := #[s, x], argTypes := #[35, 35] })
    (B : Nat) (pb : Option Addr) (cb : Nat) (L : List UInt8) (hs : a.eval s = .slice pb L.length cb) (c : UInt8) (cv : Int) (hcv : cv = (c.toNat : Int)) (hrel : OutRel B pb cb w L) (hx : a.eval x = .slice (some ⟨w.heap.size, 0, none⟩) 1 1) (hb : L.length + 1 ≤ 16777216)
    (h : ∀ pb' cb' w', OutRel B pb' cb' w' (L ++ [c]) → Below B w w' → wpList Tryd.prog ops Q rest (a.put o.dst (.slice pb' (L.length + 1) cb')) w') : wpList Tryd.prog ops Q (o :: rest) a (w.alloc (.cells #[.int .u8 cv] 5)) := by
  subst hcv
  obtain ⟨i, hi, hzz⟩ := Option.map_eq_some_iff.1 info5
  simp only [Prod.mk.injEq] at hzz
  obtain ⟨hz, hsz, hby⟩ := hzz
  have hrel' := hrel.alloc (.cells #[.int .u8 (c.toNat : Int)] 5)
  refine wpList_append_own _ hgd s x 35 ho B 5 i (.int .u8 0) 1 1 Tryd.underlying35 hi hz hsz hby rfl (by decide) _ L.length (L.map enc) hs hrel'.1 ⟨w.heap.size, 0, none⟩ 1 1 [enc c] hx rfl ?_ ?_ (by unfold maxLen; omega) (by omega) hrel'.2 ?_
  · intro j u hu
    cases j with
    | zero => cases hu; simp [Addr.add, enc]
    | succ j => cases hu
  · intro u hu
    simp at hu
    subst hu
    rfl
  · intro v' w' hown hg _
    obtain ⟨pb', cb', rfl⟩ := own_form hown
    refine h pb' cb' w' ⟨?_, Nat.le_trans hrel'.2 hg.size⟩ (((Below.refl B w).alloc hrel.2 _).grown hg hrel'.2 (fun k hk => (hrel.1.lt k hk).1))
    rw [List.map_append, List.length_append]
    exact hown

def UnsegPost (B : Nat) (L g : List UInt8) (w : World) (e : Ending) (w' : World) : Prop :=
  ∃ pb cb, e = .returned (.slice pb (L ++ Pl.unseg g).length cb) ∧ OutRel B pb cb w' (L ++ Pl.unseg g) ∧ Below B w w'

theorem ret_slice {p : Option Addr} {n n' c : Nat} (h : n' = n) : Ending.returned (.slice p n' c) = .returned (.slice p n c) := by rw [h]

set_option maxHeartbeats 2000000 in
theorem unseg_plain (B : Nat) (pb : Option Addr) (cb : Nat) (L : List UInt8) (g : ByteArray) (w : World) (hrel : OutRel B pb cb w L) (hb : L.length + g.size ≤ 8388608)
    (hne : g.size < 2 ∨ (∃ h : 0 < g.size, 2 ≤ g.size ∧ g[0] ≠ 123) ∨ (∃ h : g.size - 1 < g.size, ∃ h0 : 0 < g.size, 2 ≤ g.size ∧ g[0] = 123 ∧ g[g.size - 1] ≠ 125)) (hid : Pl.unseg g.data.toList = g.data.toList) :
    Calls Tryd.prog 16 #[.slice pb L.length cb, .string g] w (UnsegPost B L g.data.toList w) := by
  have HR : Hid (OutRel B pb cb w L) := hrel
  have HID : Hid (Pl.unseg g.data.toList = g.data.toList ∧ g.data.toList.length = g.size) := ⟨hid, by rw [← Lib.size_eq]⟩
  clear hrel hid
  rcases hne with h1 | ⟨h0, h2, h3⟩ | ⟨hl, h0, h2, h3, h4⟩
  · have h1' : ¬ (2 : Int) ≤ g.size := by omega
    go_enter Tryd.func16, Tryd.ntmps16
    go_wp2_with (at_builtin; refine wpList_app_str w rfl (.tmp 54) (.tmp 55) rfl B pb cb L rfl HR.out g rfl (by omega) ?_; intro p1 c1 w1 ho hb1; have HO : Hid (OutRel B p1 c1 w1 (L ++ g.data.toList) ∧ Below B w w1) := ⟨ho, hb1⟩; clear ho hb1)
    go_ret
    exact ⟨p1, c1, ret_slice (by rw [HID.out.1, List.length_append, HID.out.2]), by rw [HID.out.1]; exact HO.out.1, HO.out.2⟩
  · have h2' : (2 : Int) ≤ g.size := by omega
    have q1 : ((g[0].toNat : Int) == 123) = false := byte_ne _ 123 (by decide) h3
    clear h3
    go_enter Tryd.func16, Tryd.ntmps16
    go_wp2_with (at_builtin; refine wpList_app_str w rfl (.tmp 54) (.tmp 55) rfl B pb cb L rfl HR.out g rfl (by omega) ?_; intro p1 c1 w1 ho hb1; have HO : Hid (OutRel B p1 c1 w1 (L ++ g.data.toList) ∧ Below B w w1) := ⟨ho, hb1⟩; clear ho hb1)
    go_ret
    exact ⟨p1, c1, ret_slice (by rw [HID.out.1, List.length_append, HID.out.2]), by rw [HID.out.1]; exact HO.out.1, HO.out.2⟩
  · have h2' : (2 : Int) ≤ g.size := by omega
    have q1 : ((g[0].toNat : Int) == 123) = true := byte_is _ 123 (by decide) h3
    have q2 : ((g[g.size - 1].toNat : Int) == 125) = false := byte_ne _ 125 (by decide) h4
    clear h3 h4
    go_enter Tryd.func16, Tryd.ntmps16
    go_wp2_with (at_builtin; refine wpList_app_str w rfl (.tmp 54) (.tmp 55) rfl B pb cb L rfl HR.out g rfl (by omega) ?_; intro p1 c1 w1 ho hb1; have HO : Hid (OutRel B p1 c1 w1 (L ++ g.data.toList) ∧ Below B w w1) := ⟨ho, hb1⟩; clear ho hb1)
    go_ret
    exact ⟨p1, c1, ret_slice (by rw [HID.out.1, List.length_append, HID.out.2]), by rw [HID.out.1]; exact HO.out.1, HO.out.2⟩

set_option maxHeartbeats 2000000 in
theorem unseg_brace_walk (B : Nat) (pb : Option Addr) (cb : Nat) (L : List UInt8) (g n : ByteArray) (w : World) (hrel : OutRel B pb cb w L) (hb : L.length + g.size ≤ 8388608)
    (h2 : 2 ≤ g.size) (h0 : 0 < g.size) (hl : g.size - 1 < g.size) (h3 : g[0] = 123) (h4 : g[g.size - 1] = 125) (hn : g.extract 1 (g.size - 1) = n) (hns : n.size = g.size - 2) (hun : Pl.unseg g.data.toList = Pl.unin n.data.toList) :
    Calls Tryd.prog 16 #[.slice pb L.length cb, .string g] w (UnsegPost B L g.data.toList w) := by
  have HR : Hid (OutRel B pb cb w L) := hrel
  have HUN : Hid (Pl.unseg g.data.toList = Pl.unin n.data.toList) := hun
  have h2' : (2 : Int) ≤ g.size := by omega
  have q1 : ((g[0].toNat : Int) == 123) = true := byte_is _ 123 (by decide) h3
  have q2 : ((g[g.size - 1].toNat : Int) == 125) = true := byte_is _ 125 (by decide) h4
  have q3 : (1 : Int) ≤ (g.size : Int) - 1 := by omega
  have HNS : Hid (n.size = g.size - 2 ∧ n.data.toList.length = n.size) := ⟨hns, by rw [← Lib.size_eq]⟩
  have hnb : n.size ≤ 8388608 := by omega
  clear h3 h4 hrel hun hns
  by_cases c3 : (3 : Int) ≤ n.size
  · cases cd : ((n.extract (n.size - 3) n.size).toList == [46, 46, 46])
    · have HF : Hid (Pl.unin n.data.toList = 58 :: n.data.toList) := by
        show Pl.unin n.data.toList = _
        unfold Pl.unin
        rw [if_neg]
        rintro ⟨_, h⟩
        rw [beq_eq_false_iff_ne, Lib.toList_data, Lib.extract_to_end] at cd
        rw [← Lib.size_eq] at h
        exact cd h
      go_enter Tryd.func16, Tryd.ntmps16
      go_wp2_with (first
        | (at_builtin; refine wpList_app_byte w rfl (.tmp 48) (.tmp 49) rfl B pb cb L rfl 58 58 rfl HR.out rfl (by omega) ?_; intro p1 c1 w1 ho hb1; have HO : Hid (OutRel B p1 c1 w1 (L ++ [58]) ∧ Below B w w1) := ⟨ho, hb1⟩; clear ho hb1)
        | (at_builtin; refine wpList_app_str w1 rfl (.tmp 51) (.tmp 52) rfl B p1 c1 (L ++ [58]) (by rw [List.length_append]; rfl) HO.out.1 n rfl (by rw [List.length_append]; simp; have := HNS.out.1; omega) ?_; intro p2 c2 w2 ho2 hb2; have HO2 : Hid (OutRel B p2 c2 w2 (L ++ [58] ++ n.data.toList) ∧ Below B w1 w2) := ⟨ho2, hb2⟩; clear ho2 hb2; rw [List.length_append]))
      go_ret
      have e : L ++ Pl.unseg g.data.toList = L ++ [58] ++ n.data.toList := by rw [HUN.out, HF.out]; simp
      refine ⟨p2, c2, ret_slice (n' := L.length + 1 + n.size) ?_, ?_, HO.out.2.trans HO2.out.2⟩
      · rw [e, List.length_append, List.length_append, HNS.out.2]; rfl
      · rw [e]; exact HO2.out.1
    · have HF : Hid (Pl.unin n.data.toList = 42 :: (n.extract 0 (n.size - 3)).data.toList) := by
        show Pl.unin n.data.toList = _
        unfold Pl.unin
        rw [beq_iff_eq, Lib.toList_data, Lib.extract_to_end] at cd
        rw [if_pos ⟨by rw [← Lib.size_eq]; omega, by rw [← Lib.size_eq]; exact cd⟩, ← Lib.size_eq, Lib.extract_data]
        simp
      have hes : (n.extract 0 (n.size - 3)).size = n.size - 3 := by
        rw [Lib.size_eq, Lib.extract_data, List.length_take, List.length_drop, ← Lib.size_eq]; omega
      have HES : Hid ((n.extract 0 (n.size - 3)).size = n.size - 3) := hes
      have z1 : (0 : Int) ≤ (n.size : Int) - 3 := by omega
      clear hes
      go_enter Tryd.func16, Tryd.ntmps16
      go_wp2_with (first
        | (at_builtin; refine wpList_app_byte w rfl (.tmp 38) (.tmp 39) rfl B pb cb L rfl 42 42 rfl HR.out rfl (by omega) ?_; intro p1 c1 w1 ho hb1; have HO : Hid (OutRel B p1 c1 w1 (L ++ [42]) ∧ Below B w w1) := ⟨ho, hb1⟩; clear ho hb1)
        | (at_builtin; refine wpList_app_str w1 rfl (.tmp 41) (.tmp 46) rfl B p1 c1 (L ++ [42]) (by rw [List.length_append]; rfl) HO.out.1 (n.extract 0 (n.size - 3)) rfl (by rw [HES.out, List.length_append]; simp; omega) ?_; intro p2 c2 w2 ho2 hb2; have HO2 : Hid (OutRel B p2 c2 w2 (L ++ [42] ++ (n.extract 0 (n.size - 3)).data.toList) ∧ Below B w1 w2) := ⟨ho2, hb2⟩; clear ho2 hb2; rw [List.length_append]))
      go_ret
      have e : L ++ Pl.unseg g.data.toList = L ++ [42] ++ (n.extract 0 (n.size - 3)).data.toList := by rw [HUN.out, HF.out]; simp
      refine ⟨p2, c2, ret_slice (n' := L.length + 1 + (n.size - 3)) ?_, ?_, HO.out.2.trans HO2.out.2⟩
      · rw [e, List.length_append, List.length_append, ← Lib.size_eq, HES.out]; rfl
      · rw [e]; exact HO2.out.1
  · have HF : Hid (Pl.unin n.data.toList = 58 :: n.data.toList) := by
      show Pl.unin n.data.toList = _
      unfold Pl.unin
      rw [if_neg]
      rintro ⟨h, _⟩
      rw [← Lib.size_eq] at h
      omega
    go_enter Tryd.func16, Tryd.ntmps16
    go_wp2_with (first
      | (at_builtin; refine wpList_app_byte w rfl (.tmp 48) (.tmp 49) rfl B pb cb L rfl 58 58 rfl HR.out rfl (by omega) ?_; intro p1 c1 w1 ho hb1; have HO : Hid (OutRel B p1 c1 w1 (L ++ [58]) ∧ Below B w w1) := ⟨ho, hb1⟩; clear ho hb1)
      | (at_builtin; refine wpList_app_str w1 rfl (.tmp 51) (.tmp 52) rfl B p1 c1 (L ++ [58]) (by rw [List.length_append]; rfl) HO.out.1 n rfl (by rw [List.length_append]; simp; have := HNS.out.1; omega) ?_; intro p2 c2 w2 ho2 hb2; have HO2 : Hid (OutRel B p2 c2 w2 (L ++ [58] ++ n.data.toList) ∧ Below B w1 w2) := ⟨ho2, hb2⟩; clear ho2 hb2; rw [List.length_append]))
    go_ret
    have e : L ++ Pl.unseg g.data.toList = L ++ [58] ++ n.data.toList := by rw [HUN.out, HF.out]; simp
    refine ⟨p2, c2, ret_slice (n' := L.length + 1 + n.size) ?_, ?_, HO.out.2.trans HO2.out.2⟩
    · rw [e, List.length_append, List.length_append, HNS.out.2]; rfl
    · rw [e]; exact HO2.out.1

theorem unseg_any (B : Nat) (pb : Option Addr) (cb : Nat) (L : List UInt8) (g : ByteArray) (w : World) (hrel : OutRel B pb cb w L) (hb : L.length + g.size ≤ 8388608) :
    Calls Tryd.prog 16 #[.slice pb L.length cb, .string g] w (UnsegPost B L g.data.toList w) := by
  have hlen : g.data.toList.length = g.size := by rw [← Lib.size_eq]
  by_cases h2 : g.size < 2
  · exact unseg_plain B pb cb L g w hrel hb (.inl h2) (by unfold Pl.unseg; rw [if_neg]; rintro ⟨h, _⟩; omega)
  have h0 : 0 < g.size := by omega
  have hl : g.size - 1 < g.size := by omega
  have g0 : g.data.toList.head? = some g[0] := by
    have := Lib.data_getElem? g 0 h0
    cases hh : g.data.toList with
    | nil => rw [hh] at this; cases this
    | cons y r => rw [hh] at this; simpa using this
  have g9 : g.data.toList[g.data.toList.length - 1]? = some g[g.size - 1] := by rw [hlen]; exact Lib.data_getElem? g (g.size - 1) hl
  by_cases h3 : g[0] = 123
  · by_cases h4 : g[g.size - 1] = 125
    · refine unseg_brace_walk B pb cb L g _ w hrel hb (by omega) h0 hl h3 h4 rfl ?_ ?_
      · rw [Lib.size_eq, Lib.extract_data, List.length_take, List.length_drop, hlen]; omega
      · unfold Pl.unseg
        rw [if_pos ⟨by omega, by rw [g0, h3], by rw [g9, h4]⟩, Lib.extract_data, hlen, show g.size - 1 - 1 = g.size - 2 by omega]
    · exact unseg_plain B pb cb L g w hrel hb (.inr (.inr ⟨hl, h0, by omega, h3, h4⟩)) (by
        unfold Pl.unseg; rw [if_neg]; rintro ⟨_, _, h⟩; rw [g9] at h; exact h4 (Option.some.inj h))
  · exact unseg_plain B pb cb L g w hrel hb (.inr (.inl ⟨h0, by omega, h3⟩)) (by
      unfold Pl.unseg; rw [if_neg]; rintro ⟨_, h, _⟩; rw [g0] at h; exact h3 (Option.some.inj h))
end Go.Proofs.Qxb6003569aDoor
