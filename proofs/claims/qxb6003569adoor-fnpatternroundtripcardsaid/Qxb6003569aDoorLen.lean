import Derived.Test.Qxb6003569aDoorPat
set_option linter.unusedSimpArgs false
set_option linter.unusedVariables false
namespace Go.Proofs.Qxb6003569aDoor
open Go.RowKit

def SizePost (q p : ByteArray) (w : World) (e : Ending) (w' : World) : Prop :=
  ∃ v : Bool, e = .returned (.bool v) ∧ (v = true → q.size + p.size ≤ 1048576) ∧ w' = w

set_option maxHeartbeats 400000 in
theorem bytes11_any (q p : ByteArray) (w : World) (hq : q.size ≤ maxLen) (hp : p.size ≤ maxLen) : Calls Tryd.prog 11 #[.string q, .string p] w (SizePost q p w) := by
  unfold maxLen at hq hp
  go_enter Tryd.func11, Tryd.ntmps11
  go_wp2
  all_goals
    go_ret
    exact ⟨_, rfl, fun h => (by first | (cases h; done) | omega), rfl⟩

def TruePost (w : World) (e : Ending) (w' : World) : Prop := e = .returned (.bool true) ∧ Below w.heap.size w w'

set_option maxHeartbeats 1000000 in
theorem len_walk (q p : ByteArray) (m : Int) (w : World) (hq : q.size ≤ maxLen) (hp : p.size ≤ maxLen) (hG : 0 < w.heap.size) (hm : w.cell? ⟨0, 0, none⟩ = some (.int .i64 m)) :
    Calls Tryd.prog 5 #[.string q, .string p] w (TruePost w) := by
  have hb := bytes11_any q p w hq hp
  clear hq hp
  have HM : Hid (0 < w.heap.size ∧ w.cell? ⟨0, 0, none⟩ = some (.int .i64 m)) := ⟨hG, hm⟩
  clear hG hm
  go_enter Tryd.func5, Tryd.ntmps5
  go_wp2_with fail
  refine hb.mono ?_
  rintro e w' ⟨v, rfl, hsz, hw⟩
  subst hw
  clear hb
  cases v
  · go_wp2
    go_ret
    exact ⟨rfl, Below.refl _ _⟩
  have hsz' := hsz rfl
  clear hsz
  have hpt := pattern_any q p m w' (by omega) HM.out.1 HM.out.2
  have g0 : ¬ (1048576 : Int) < (q.size : Int) + p.size := by omega
  go_wp2_with fail
  refine hpt.mono ?_
  rintro e w1 ⟨rfl, hb1⟩
  clear hpt
  have HB : Hid (Below w'.heap.size w' w1) := hb1
  clear hb1
  have hlaw := Pl.law p.data.toList
  have hpl : (Pl.pat p.data.toList).length ≤ 6 * 1048576 := by
    have := pat_len p.data.toList
    rw [← Lib.size_eq] at this
    omega
  have hbd := Pl.stat_bound p.data.toList
  rw [← Lib.size_eq] at hbd
  have hs1 := stats_any p w1 (by omega)
  have hs2 := stats_any ⟨(Pl.pat p.data.toList).toArray⟩ w1 (by show (Pl.pat p.data.toList).toArray.size ≤ _; rw [List.size_toArray]; omega)
  unfold StatPost at hs1 hs2
  rw [show (⟨(Pl.pat p.data.toList).toArray⟩ : ByteArray).data.toList = Pl.pat p.data.toList from rfl] at hs2
  rw [show p.data.toList.length = p.size from (Lib.size_eq p).symm] at hlaw
  generalize hst : Pl.stat p.data.toList = S at *
  obtain ⟨n1, n2, n3, a⟩ := S
  generalize hst2 : Pl.stat (Pl.pat p.data.toList) = S2 at *
  obtain ⟨k1, k2, k3, a2⟩ := S2
  simp only at hlaw hbd hs1 hs2
  obtain ⟨rfl, hlen, hsame⟩ := hlaw
  have HS2 : Hid (Calls Tryd.prog 12 #[.string ⟨(Pl.pat p.data.toList).toArray⟩] w1 fun e w' => e = .returned (.tuple #[.int .i64 k1, .int .i64 k2, .int .i64 k3]) ∧ w' = w1) := hs2
  have HSAME : Hid (n2 = 0 → n3 = 0 → Pl.pat p.data.toList = p.toList) := fun h1 h2 => by rw [hsame h1 h2, Lib.toList_data]
  have HLEN : Hid ((Pl.pat p.data.toList).length = p.size + n2 + 4 * n3) := hlen
  clear hst hst2 hs2 hsame hlen
  generalize Pl.pat p.data.toList = L at *
  go_wp2_with fail
  refine hs1.mono ?_
  rintro e w2 ⟨rfl, hw⟩
  subst hw
  clear hs1
  go_wp2_with fail
  refine HS2.out.mono ?_
  rintro e w2 ⟨rfl, hw⟩
  subst hw
  clear HS2
  have hl2 := HLEN.out
  have t1 : ((L.length : Int) == (p.size : Int) + n2 + 4 * n3) = true := by rw [beq_iff_eq]; omega
  have t2 : ((L.length : Int) != (p.size : Int) + n2 + 4 * n3) = false := by rw [bne, t1]; rfl
  clear hl2
  cases q1 : ((n2 : Int) == 0)
  · go_wp2
    go_ret
    exact ⟨rfl, HB.out⟩
  · cases q2 : ((n3 : Int) == 0)
    · go_wp2
      go_ret
      exact ⟨rfl, HB.out⟩
    · have he := HSAME.out (by simp at q1; omega) (by simp at q2; omega)
      have t3 : (L == p.toList) = true := by rw [he]; simp
      have t4 : (L != p.toList) = false := by rw [bne, t3]; rfl
      clear he
      go_wp2
      go_ret
      exact ⟨rfl, HB.out⟩
end Go.Proofs.Qxb6003569aDoor
