import Derived.Test.Qxb6003569aDoorUnseg
import Derived.Laws.IdiomStrings
set_option linter.unusedSimpArgs false
set_option linter.unusedVariables false
namespace Go.Proofs.Qxb6003569aDoor
open Go.RowKit

theorem addr_add (b o j : Nat) : (⟨b, o, none⟩ : Addr).add j = ⟨b, o + j, none⟩ := by
  unfold Addr.add
  split
  · rename_i h; rw [h]; rfl
  · rfl

theorem out_string {B : Nat} {pb : Option Addr} {cb : Nat} {w : World} {O : List UInt8} (h : OutRel B pb cb w O) : (convert 35 9 (.slice pb O.length cb)).run Tryd.prog w = .ok (.string ⟨O.toArray⟩) w := by
  obtain ⟨⟨h1, h2⟩, _⟩ := h
  rcases h2 with ⟨e, hn⟩ | ⟨g, cap, cur, e, hb, hg, hnc, hcm, hcs, hx⟩
  · injection e with e1 e2 e3
    have : O = [] := List.length_eq_zero_iff.1 hn
    subst e1 e3 this
    show (convert 35 9 (.slice none 0 0)).run Tryd.prog w = _
    rw [run_convert_bytes_string w 35 9 5 none 0 0 Tryd.underlying35 Tryd.underlying5 Tryd.underlying9]
    rfl
  · injection e with e1 e2 e3
    subst e1 e3
    refine run_convert_bytes_back (P := Tryd.prog) w 35 9 5 ⟨g, 0, none⟩ cb O Tryd.underlying35 Tryd.underlying5 Tryd.underlying9 (fun j hj => ?_)
    rw [addr_add, Nat.zero_add]
    have : (O.map enc)[j]? = some (enc O[j]) := by rw [List.getElem?_map, List.getElem?_eq_getElem hj]; rfl
    rw [← hx, List.getElem?_take, if_pos (by omega)] at this
    simp only [World.cell?, hg]
    simpa [enc] using this

def URel (l : List UInt8) (s i : Nat) (O : List UInt8) : Prop :=
  (i ≤ l.length ∧ O.length ≤ s ∧ Pl.Clean l s i ∧ O ++ Pl.jn ((Pl.segs (l.drop s)).map Pl.unseg) = Pl.unpat l) ∨ (i = l.length + 1 ∧ O = Pl.unpat l)

theorem URel.over {l : List UInt8} {s i : Nat} {O : List UInt8} {x : UInt8} (hO : O.length ≤ s) (h : Pl.Clean l s i) (he : O ++ Pl.jn ((Pl.segs (l.drop s)).map Pl.unseg) = Pl.unpat l) (hx : l[i]? = some x) (h47 : x ≠ 47) : URel l s (i + 1) O := by
  have := h.next hx h47
  exact .inl ⟨this.2.1, hO, this, he⟩
theorem URel.hit {l : List UInt8} {s i : Nat} {O : List UInt8} (hO : O.length ≤ s) (h : Pl.Clean l s i) (he : O ++ Pl.jn ((Pl.segs (l.drop s)).map Pl.unseg) = Pl.unpat l) (hx : l[i]? = some 47) :
    URel l (i + 1) (i + 1) (O ++ Pl.unseg ((l.drop s).take (i - s)) ++ [47]) := by
  have hi := (List.getElem?_eq_some_iff.1 hx).1
  have hsi := h.1
  refine .inl ⟨hi, ?_, Pl.Clean.start l (i + 1) hi, ?_⟩
  · have := Pl.unseg_len ((l.drop s).take (i - s))
    rw [List.length_take] at this
    simp only [List.length_append, List.length_cons, List.length_nil]
    omega
  · rw [h.hit hx, List.map_cons, Pl.jn_cons _ (by simpa using Pl.segs_ne _)] at he
    rw [← he]
    simp
theorem URel.last {l : List UInt8} {s : Nat} {O : List UInt8} (h : Pl.Clean l s l.length) (he : O ++ Pl.jn ((Pl.segs (l.drop s)).map Pl.unseg) = Pl.unpat l) :
    URel l (l.length + 1) (l.length + 1) (O ++ Pl.unseg ((l.drop s).take (l.length - s))) := by
  refine .inr ⟨rfl, ?_⟩
  rw [h.last, List.map_singleton, Pl.jn_one] at he
  exact he

def UnpatPost (t : ByteArray) (w : World) (e : Ending) (w' : World) : Prop := e = .returned (.string ⟨(Pl.unpat t.data.toList).toArray⟩) ∧ Below w.heap.size w w'

def UR (w : World) (t : ByteArray) (s i : Nat) (pb : Option Addr) (cb : Nat) (O : List UInt8) (wr : World) : Prop := URel t.data.toList s i O ∧ OutRel w.heap.size pb cb wr O ∧ Below w.heap.size w wr

set_option maxHeartbeats 600000 in
theorem unpat_any (t : ByteArray) (w : World) (hs : t.size ≤ 6291456) : Calls Tryd.prog 10 #[.string t] w (UnpatPost t w) := by
  obtain ⟨i0, hi0, hzz⟩ := Option.map_eq_some_iff.1 info5
  simp only [Prod.mk.injEq] at hzz
  have HI : Hid (Tryd.prog.info? 5 = some i0 ∧ i0.zero = some (.int .u8 0) ∧ i0.size = 1 ∧ i0.bytes = 1) := ⟨hi0, hzz⟩
  clear hi0 hzz
  go_enter Tryd.func10, Tryd.ntmps10
  go_wp2_with (refine wpList_make_own w rfl _ _ 35 rfl w.heap.size 5 i0 (.int .u8 0) 1 Tryd.underlying35 HI.out.1 HI.out.2.1 HI.out.2.2.1 .i64 .i64 _ t.size rfl rfl (by simp) (by have := HI.out.2.2.2; rw [this]; omega) (by unfold maxLen; omega) (Nat.le_refl _) ?_; intro w1 hmk hgm; have HST : Hid (UR w t 0 0 (some ⟨w.heap.size, 0, none⟩) t.size [] w1) := ⟨.inl ⟨Nat.zero_le _, Nat.le_refl _, Pl.Clean.start _ 0 (Nat.zero_le _), by rw [List.drop_zero]; rfl⟩, ⟨hmk, hgm.size⟩, (Below.refl _ _).grown hgm (Nat.le_refl _) (fun k hk => by cases hk)⟩; clear hmk hgm)
  go_loopw [3, 4, 5] (fun s3 s4 s5 wr => ∃ (s i : Nat) (pb : Option Addr) (cb : Nat) (O : List UInt8), s3 = .slice pb O.length cb ∧ s4 = .int .i64 s ∧ s5 = .int .i64 i ∧ s ≤ i ∧ i ≤ t.size + 1 ∧ Hid (UR w t s i pb cb O wr)) (fun s3 s4 s5 _ => t.size + 1 - (intOf s5).toNat)
  case atStart => exact ⟨0, 0, _, _, [], rfl, rfl, rfl, Nat.le_refl _, by omega, HST⟩
  case round =>
    clear HST
    obtain ⟨s, i, pb, cb, O, rfl, rfl, rfl, hsi, hi1, HR⟩ := hrel
    by_cases hi : i ≤ t.size
    · have hcl : O.length ≤ s ∧ Pl.Clean t.data.toList s i ∧ O ++ Pl.jn ((Pl.segs (t.data.toList.drop s)).map Pl.unseg) = Pl.unpat t.data.toList := by
        rcases HR.out.1 with ⟨_, h2, h3, h4⟩ | ⟨h1, _⟩
        · exact ⟨h2, h3, h4⟩
        · rw [← Lib.size_eq] at h1; omega
      have hgd : (t.extract s i).data.toList = (t.data.toList.drop s).take (i - s) := by
        rw [Lib.extract_data]
      have hgs : (t.extract s i).size = i - s := by
        rw [Lib.size_eq, hgd, List.length_take, List.length_drop, ← Lib.size_eq]; omega
      have hle : (i : Int) ≤ t.size := by omega
      have hsi' : (s : Int) ≤ i := by omega
      have hun := unseg_any w.heap.size pb cb O (t.extract s i) wr HR.out.2.1 (by rw [hgs]; have := hcl.1; omega)
      have HUN : Hid (Calls Tryd.prog 16 #[.slice pb O.length cb, .string (t.extract s i)] wr (UnsegPost w.heap.size O (t.extract s i).data.toList wr)) := hun
      clear hun
      by_cases he : i = t.size
      · have HEND : Hid (URel t.data.toList (i + 1) (i + 1) (O ++ Pl.unseg (t.extract s i).data.toList)) := by
          have hil : i = t.data.toList.length := by rw [← Lib.size_eq]; exact he
          rw [hgd]
          have h1 := hcl.2.1
          rw [hil] at h1 ⊢
          exact URel.last h1 hcl.2.2
        have q0 : ((i : Int) == t.size) = true := by rw [he]; simp
        have q1 : ¬ (i : Int) < t.size := by omega
        have HB : Hid (Below w.heap.size w wr) := HR.out.2.2
        clear he hcl hgd hgs HR
        go_wp2_with fail
        refine HUN.out.mono ?_
        clear HUN
        generalize t.extract s i = g at *
        rintro e w2 ⟨p2, c2, rfl, hor, hb2⟩
        generalize Pl.unseg g.data.toList = U at *
        have HN : Hid (UR w t (i + 1) (i + 1) p2 c2 (O ++ U) w2) := ⟨HEND.out, hor, HB.out.trans hb2⟩
        clear hor hb2 HEND HB
        rw [List.length_append]
        go_wp2_with fail
        go_roundw
        case rel => exact ⟨i + 1, i + 1, p2, c2, O ++ U, by rw [List.length_append], by go_num, by go_num, Nat.le_refl _, by omega, HN⟩
        case measure => simp [intOf]; omega
      · have hlt : i < t.size := by omega
        have hlt' : (i : Int) < t.size := by omega
        have HX : Hid (t.data.toList[i]? = some t[i]) := Lib.data_getElem? t i hlt
        have q0 : ((i : Int) == t.size) = false := by rw [beq_eq_false_iff_ne]; omega
        clear he
        by_cases h47 : t[i] = 47
        · have q1 : ((t[i].toNat : Int) == 47) = true := byte_is _ 47 (by decide) h47
          have HEND : Hid (URel t.data.toList (i + 1) (i + 1) (O ++ Pl.unseg (t.extract s i).data.toList ++ [47]) ∧ (O ++ Pl.unseg (t.extract s i).data.toList).length ≤ i) := ⟨by
            rw [hgd]
            exact URel.hit hcl.1 hcl.2.1 hcl.2.2 (by rw [HX.out, h47]), by
            have h1 := Pl.unseg_len (t.extract s i).data.toList
            rw [← Lib.size_eq (t.extract s i), hgs] at h1
            have h2 := hcl.1
            rw [List.length_append]
            omega⟩
          have HB : Hid (Below w.heap.size w wr) := HR.out.2.2
          clear h47 HX hcl hgd hgs HR
          go_wp2_with fail
          refine HUN.out.mono ?_
          clear HUN
          generalize t.extract s i = g at *
          rintro e w2 ⟨p2, c2, rfl, hor, hb2⟩
          generalize Pl.unseg g.data.toList = U at *
          have HO : Hid (OutRel w.heap.size p2 c2 w2 (O ++ U) ∧ Below w.heap.size w w2) := ⟨hor, HB.out.trans hb2⟩
          clear hor hb2 HB
          rw [List.length_append]
          go_wp2_with (at_builtin; refine wpList_app_byte w2 rfl (.tmp 35) (.tmp 36) rfl w.heap.size p2 c2 (O ++ U) (by rw [List.length_append]; rfl) 47 47 rfl HO.out.1 rfl (by have := HEND.out.2; omega) ?_; intro p3 c3 w3 ho3 hb3; have HN : Hid (UR w t (i + 1) (i + 1) p3 c3 (O ++ U ++ [47]) w3) := ⟨HEND.out.1, ho3, HO.out.2.trans hb3⟩; clear ho3 hb3; rw [List.length_append])
          go_roundw
          case rel => exact ⟨i + 1, i + 1, p3, c3, O ++ U ++ [47], by rw [List.length_append, List.length_append]; rfl, by go_num, by go_num, Nat.le_refl _, by omega, HN⟩
          case measure => simp [intOf]; omega
        · have q1 : ((t[i].toNat : Int) == 47) = false := byte_ne _ 47 (by decide) h47
          have HO : Hid (UR w t s (i + 1) pb cb O wr) := ⟨URel.over hcl.1 hcl.2.1 hcl.2.2 HX.out h47, HR.out.2⟩
          clear h47 HX hcl hgd hgs HUN HR
          go_wp2_with fail
          go_roundw
          case rel => exact ⟨s, i + 1, pb, cb, O, rfl, rfl, by go_num, by omega, by omega, HO⟩
          case measure => simp [intOf]; omega
    · have hall : O = Pl.unpat t.data.toList := by
        rcases HR.out.1 with ⟨h1, _⟩ | ⟨_, h2⟩
        · rw [← Lib.size_eq] at h1; omega
        · exact h2
      have HALL : Hid (O = Pl.unpat t.data.toList) := hall
      have hni : ¬ (i : Int) ≤ t.size := by omega
      have hconv := out_string HR.out.2.1
      clear hall
      go_wp2
      go_ret
      exact ⟨by rw [← HALL.out]; rfl, HR.out.2.2⟩
end Go.Proofs.Qxb6003569aDoor
