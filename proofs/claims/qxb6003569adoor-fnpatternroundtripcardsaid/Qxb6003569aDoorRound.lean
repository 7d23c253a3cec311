import Derived.Test.Qxb6003569aDoorLen
import Derived.Test.Qxb6003569aDoorUnpat
set_option linter.unusedSimpArgs false
set_option linter.unusedVariables false
namespace Go.Proofs.Qxb6003569aDoor
open Go.RowKit

set_option maxHeartbeats 400000 in
theorem bytes8_any (q p : ByteArray) (w : World) (hq : q.size ≤ maxLen) (hp : p.size ≤ maxLen) : Calls Tryd.prog 8 #[.string q, .string p] w (SizePost q p w) := by
  unfold maxLen at hq hp
  go_enter Tryd.func8, Tryd.ntmps8
  go_wp2
  all_goals
    go_ret
    exact ⟨_, rfl, fun h => (by first | (cases h; done) | omega), rfl⟩

set_option maxHeartbeats 1000000 in
theorem round_walk (q p : ByteArray) (m : Int) (w : World) (hq : q.size ≤ maxLen) (hp : p.size ≤ maxLen) (hG : 0 < w.heap.size) (hm : w.cell? ⟨0, 0, none⟩ = some (.int .i64 m)) :
    Calls Tryd.prog 4 #[.string q, .string p] w (TruePost w) := by
  have hb := bytes8_any q p w hq hp
  clear hq hp
  have HM : Hid (0 < w.heap.size ∧ w.cell? ⟨0, 0, none⟩ = some (.int .i64 m)) := ⟨hG, hm⟩
  clear hG hm
  go_enter Tryd.func4, Tryd.ntmps4
  go_wp2_with fail
  refine hb.mono ?_
  rintro e w' ⟨v, rfl, hsz, hw⟩
  subst hw
  clear hb
  cases v
  · go_wp2
    go_ret
    exact ⟨rfl, Below.refl _ _⟩
  have hsz' := hsz rfl
  clear hsz
  have g0 : ¬ (1048576 : Int) < (q.size : Int) + p.size := by omega
  have hft := fits_any p w' (by omega)
  have hpt := pattern_any q p m w' (by omega) HM.out.1 HM.out.2
  have HPT : Hid (Calls Tryd.prog 7 #[.agg #[.string q, .string p]] w' (PatPost p w')) := hpt
  clear hpt HM
  go_wp2_with fail
  refine hft.mono ?_
  rintro e w2 ⟨v, rfl, hall, hw⟩
  subst hw
  clear hft
  cases v
  · go_wp2
    go_ret
    exact ⟨rfl, Below.refl _ _⟩
  have HR : Hid (Pl.unpat (Pl.pat p.data.toList) = p.toList) := by
    show _ = _
    rw [Pl.round _ (hall rfl), Lib.toList_data]
  clear hall
  have hpl : (Pl.pat p.data.toList).length ≤ 6291456 := by
    have := pat_len p.data.toList
    rw [← Lib.size_eq] at this
    omega
  go_wp2_with fail
  refine HPT.out.mono ?_
  rintro e w1 ⟨rfl, hb1⟩
  clear HPT
  have HB : Hid (Below w2.heap.size w2 w1) := hb1
  clear hb1
  have hun := unpat_any ⟨(Pl.pat p.data.toList).toArray⟩ w1 (by show (Pl.pat p.data.toList).toArray.size ≤ _; rw [List.size_toArray]; exact hpl)
  unfold UnpatPost at hun
  rw [show (⟨(Pl.pat p.data.toList).toArray⟩ : ByteArray).data.toList = Pl.pat p.data.toList from rfl, HR.out] at hun
  clear hpl HR
  generalize Pl.pat p.data.toList = L at *
  go_wp2_with fail
  refine hun.mono ?_
  rintro e w3 ⟨rfl, hb3⟩
  clear hun
  have HB3 : Hid (Below w2.heap.size w2 w3) := HB.out.trans (hb3.mono HB.out.size)
  clear hb3 HB
  have t1 : (p.toList == p.toList) = true := by simp
  go_wp2
  go_ret
  exact ⟨rfl, HB3.out⟩
end Go.Proofs.Qxb6003569aDoor
