import Derived.Test.Qxb6003569aDoorPat
import Derived.Test.Qxb6003569aDoorPlain2
set_option linter.unusedSimpArgs false
set_option linter.unusedVariables false
namespace Go.Proofs.Qxb6003569aDoor
open Go.RowKit

def AllFit (l : List UInt8) : Prop := ∀ g ∈ Pl.segs l, Pl.Fits g
def FRel (l : List UInt8) (s i : Nat) : Prop := (i ≤ l.length ∧ Pl.Clean l s i ∧ (AllFit (l.drop s) → AllFit l)) ∨ (i = l.length + 1 ∧ AllFit l)

theorem FRel.over {l : List UInt8} {s i : Nat} {x : UInt8} (h : Pl.Clean l s i) (hA : AllFit (l.drop s) → AllFit l) (hx : l[i]? = some x) (h47 : x ≠ 47) : FRel l s (i + 1) := by
  have := h.next hx h47
  exact .inl ⟨this.2.1, this, hA⟩
theorem FRel.hit {l : List UInt8} {s i : Nat} (h : Pl.Clean l s i) (hA : AllFit (l.drop s) → AllFit l) (hx : l[i]? = some 47) (hg : Pl.Fits ((l.drop s).take (i - s))) : FRel l (i + 1) (i + 1) := by
  have hi := (List.getElem?_eq_some_iff.1 hx).1
  refine .inl ⟨hi, Pl.Clean.start l (i + 1) hi, fun hr => hA ?_⟩
  unfold AllFit
  rw [h.hit hx]
  intro g hgm
  rcases List.mem_cons.1 hgm with rfl | hm
  · exact hg
  · exact hr g hm
theorem FRel.last {l : List UInt8} {s : Nat} (h : Pl.Clean l s l.length) (hA : AllFit (l.drop s) → AllFit l) (hg : Pl.Fits ((l.drop s).take (l.length - s))) : FRel l (l.length + 1) (l.length + 1) := by
  refine .inr ⟨rfl, hA ?_⟩
  unfold AllFit
  rw [h.last]
  intro g hgm
  simp at hgm
  rw [hgm]; simpa using hg

theorem fits_nil {g : List UInt8} (h : g.length = 0) : Pl.Fits g := by
  have : g = [] := List.length_eq_zero_iff.1 h
  subst this
  exact ⟨by simp, fun h => by simp at h⟩
theorem fits_of {g : List UInt8} {x : UInt8} (h0 : g[0]? = some x) (h : x ≠ 123) (h2 : ¬ (4 ≤ g.length ∧ x = 58 ∧ g.drop (g.length - 3) = Pl.dots)) : Pl.Fits g := by
  have e : g.head? = some x := by cases g with | nil => cases h0 | cons y g => simpa using h0
  refine ⟨by rw [e]; simpa using h, ?_⟩
  rw [e]
  rintro ⟨a, b, c⟩
  exact h2 ⟨a, by simpa using b, c⟩

theorem fits_byc (g : ByteArray) (h : ∀ h0 : 0 < g.size, ((g[0].toNat : Int) == 123) = false ∧ (4 ≤ g.size → (g[0].toNat : Int) = 58 → ((g.extract (g.size - 3) g.size).toList == [46, 46, 46]) = false)) : Pl.Fits g.data.toList := by
  by_cases h0 : 0 < g.size
  · obtain ⟨h1, h2⟩ := h h0
    refine fits_of (x := g[0]) (Lib.data_getElem? g 0 h0) ?_ ?_
    · intro e; rw [e] at h1; cases h1
    · rintro ⟨a, b, c⟩
      rw [← Lib.size_eq] at a c
      have h3 := h2 a (by rw [b]; rfl)
      rw [beq_eq_false_iff_ne, Lib.toList_data, Lib.extract_to_end] at h3
      exact h3 c
  · exact fits_nil (by rw [← Lib.size_eq]; omega)

def FitPost (t : ByteArray) (w : World) (e : Ending) (w' : World) : Prop := ∃ v : Bool, e = .returned (.bool v) ∧ (v = true → AllFit t.data.toList) ∧ w' = w

set_option maxHeartbeats 2000000 in
theorem fits_any (t : ByteArray) (w : World) (hs : t.size ≤ 1048576) : Calls Tryd.prog 9 #[.string t] w (FitPost t w) := by
  go_enter Tryd.func9, Tryd.ntmps9
  go_wp2
  go_loop [3, 4] (fun s3 s4 => ∃ s i : Nat, s3 = .int .i64 s ∧ s4 = .int .i64 i ∧ s ≤ i ∧ i ≤ t.size + 1 ∧ Hid (FRel t.data.toList s i)) (fun s3 s4 => t.size + 1 - (intOf s4).toNat)
  case atStart => exact ⟨0, 0, rfl, rfl, Nat.le_refl _, by omega, .inl ⟨Nat.zero_le _, Pl.Clean.start _ 0 (Nat.zero_le _), fun h => by rwa [List.drop_zero] at h⟩⟩
  case round =>
    obtain ⟨s, i, rfl, rfl, hsi, hi1, HR⟩ := hrel
    by_cases hi : i ≤ t.size
    · have hcl : Pl.Clean t.data.toList s i ∧ (AllFit (t.data.toList.drop s) → AllFit t.data.toList) := by
        rcases HR.out with ⟨_, h2, h3⟩ | ⟨h1, _⟩
        · exact ⟨h2, h3⟩
        · rw [← Lib.size_eq] at h1; omega
      clear HR
      have hgd : (t.extract s i).data.toList = (t.data.toList.drop s).take (i - s) := by
        rw [Lib.extract_data]
      have hgs : (t.extract s i).size = i - s := by
        rw [Lib.size_eq, hgd, List.length_take, List.length_drop, ← Lib.size_eq]; omega
      have hle : (i : Int) ≤ t.size := by omega
      have hsi' : (s : Int) ≤ i := by omega
      have ways : (((i : Int) == t.size) = true ∧ (Pl.Fits (t.extract s i).data.toList → FRel t.data.toList (i + 1) (i + 1))) ∨ (((i : Int) == t.size) = false ∧ i < t.size) := by
        by_cases he : i = t.size
        · refine .inl ⟨by rw [he]; simp, fun hg => ?_⟩
          have hil : i = t.data.toList.length := by rw [← Lib.size_eq]; exact he
          rw [hgd] at hg
          have h1 := hcl.1
          rw [hil] at h1 hg
          have := FRel.last h1 hcl.2 hg
          rw [← hil] at this
          exact this
        · exact .inr ⟨by rw [beq_eq_false_iff_ne]; omega, by omega⟩
      rcases ways with ⟨q0, hend⟩ | ⟨q0, hlt⟩
      rotate_left
      · have HX : Hid (t.data.toList[i]? = some t[i]) := Lib.data_getElem? t i hlt
        have hlt' : (i : Int) < t.size := by omega
        by_cases h47 : t[i] = 47
        · have q1 : ((t[i].toNat : Int) == 47) = true := byte_is _ 47 (by decide) h47
          have HEND : Hid (Pl.Fits (t.extract s i).data.toList → FRel t.data.toList (i + 1) (i + 1)) := fun hg => by
            rw [hgd] at hg
            exact FRel.hit hcl.1 hcl.2 (by rw [HX.out, h47]) hg
          clear h47 HX hcl hgd
          go_wp2
          all_goals first
            | (go_ret; exact ⟨false, rfl, fun h => (by cases h), rfl⟩)
            | (go_round
               case rel =>
                 refine ⟨i + 1, i + 1, by go_num, by go_num, Nat.le_refl _, by omega, HEND.out (fits_byc _ (fun h0 => ⟨?_, fun h4 h58 => ?_⟩))⟩
                 · first
                     | assumption
                     | (exfalso; rw [hgs] at h0; omega)
                 · rw [hgs] at h4 ⊢
                   first
                     | assumption
                     | (exfalso; omega)
               case measure => simp [intOf]; omega)
        · have q1 : ((t[i].toNat : Int) == 47) = false := byte_ne _ 47 (by decide) h47
          have HO : Hid (FRel t.data.toList s (i + 1)) := FRel.over hcl.1 hcl.2 HX.out h47
          clear h47 HX hcl hgd hgs
          go_wp2
          go_round
          case rel => exact ⟨s, i + 1, rfl, by go_num, by omega, by omega, HO⟩
          case measure => simp [intOf]; omega
      · have HEND : Hid (Pl.Fits (t.extract s i).data.toList → FRel t.data.toList (i + 1) (i + 1)) := hend
        clear hend hcl hgd
        go_wp2
        all_goals first
          | (go_ret; exact ⟨false, rfl, fun h => (by cases h), rfl⟩)
          | (go_round
             case rel =>
               refine ⟨i + 1, i + 1, by go_num, by go_num, Nat.le_refl _, by omega, HEND.out (fits_byc _ (fun h0 => ⟨?_, fun h4 h58 => ?_⟩))⟩
               · first
                   | assumption
                   | (exfalso; rw [hgs] at h0; omega)
               · rw [hgs] at h4 ⊢
                 first
                   | assumption
                   | (exfalso; omega)
             case measure => simp [intOf]; omega)
    · have hall : AllFit t.data.toList := by
        rcases HR.out with ⟨h1, _⟩ | ⟨_, h2⟩
        · rw [← Lib.size_eq] at h1; omega
        · exact h2
      have HALL : Hid (AllFit t.data.toList) := hall
      have hni : ¬ (i : Int) ≤ t.size := by omega
      clear hall HR
      go_wp2
      go_ret
      exact ⟨true, rfl, fun _ => HALL.out, rfl⟩
end Go.Proofs.Qxb6003569aDoor
