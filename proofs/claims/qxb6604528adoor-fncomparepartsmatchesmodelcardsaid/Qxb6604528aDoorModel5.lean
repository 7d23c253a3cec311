import Derived.Test.Qxb6604528aDoorModel4
set_option linter.unusedSimpArgs false
set_option linter.unusedVariables false
namespace Go.Proofs.Qxb6604528aDoor
open Go.RowKit

def mcRest (r : Bool) (LA LB : List (ByteArray × Bool)) (k : Nat) : Int := Pl.mcmp r (lp (LA.drop k)) (lp (LB.drop k))
theorem mc_step {r : Bool} {LA LB : List (ByteArray × Bool)} {k : Nat} {x1 x2 : ByteArray} {y1 y2 : Bool} (h1 : LA[k]? = some (x1, y1)) (h2 : LB[k]? = some (x2, y2)) :
    mcRest r LA LB k = if Pl.mpart (x1.data.toList, y1) (x2.data.toList, y2) ≠ 0 then Pl.mpart (x1.data.toList, y1) (x2.data.toList, y2) else mcRest r LA LB (k + 1) := by
  unfold mcRest
  rw [lp_drop LA k x1 y1 h1, lp_drop LB k x2 y2 h2]
  rfl

theorem PartsAt.drop {w : World} {b o c m : Nat} {L : List (ByteArray × Bool)} {pa : Option Addr} (h : PartsAt w (some ⟨b, o, none⟩) c L) (hm : m ≤ L.length) (hp : m < c → pa = some ⟨b, o + m * 2, none⟩) : PartsAt w pa (c - m) (L.drop m) := by
  obtain ⟨h1, h2, h3⟩ := h
  refine ⟨by rw [List.length_drop]; omega, by omega, fun hL => ?_⟩
  have hlt : m < L.length := by
    rcases Nat.lt_or_ge m L.length with h | h
    · exact h
    · exact absurd (List.drop_eq_nil_of_le h) hL
  obtain ⟨b', o', hb, hbl, hc⟩ := h3 (by intro e; rw [e] at hlt; cases hlt)
  cases hb
  refine ⟨b, o + m * 2, hp (by omega), hbl, fun i x hx => ?_⟩
  have := hc (m + i) x (by rw [List.getElem?_drop] at hx; exact hx)
  rw [show o + m * 2 + 2 * i = o + 2 * (m + i) by omega]
  exact this

theorem SzL.drop {L : List (ByteArray × Bool)} (h : SzL L) (m : Nat) : SzL (L.drop m) := fun x hx => h x (List.mem_of_mem_drop hx)
theorem anyNonzero_nil (w : World) (pa : Option Addr) (c : Nat) (hc : c ≤ maxLen) : Calls Tryd.prog 24 #[.slice pa 0 c] w fun e w' => e = .returned (.bool false) ∧ w' = w :=
  anyNonzero_any w pa c [] ⟨Nat.zero_le _, hc, fun h => absurd rfl h⟩ (fun _ h => by cases h)
theorem anyNonzero_drop (w : World) (b o c m : Nat) (L : List (ByteArray × Bool)) (hP : PartsAt w (some ⟨b, o, none⟩) c L) (hz : SzL L) (hm : m < L.length) (v : Bool) (hv : Pl.anyNZ (lp (L.drop m)) = v) :
    Calls Tryd.prog 24 #[.slice (some ⟨b, o + m * 2, none⟩) (L.length - m) (c - m)] w fun e w' => e = .returned (.bool v) ∧ w' = w := by
  have := anyNonzero_any w (some ⟨b, o + m * 2, none⟩) (c - m) (L.drop m) (hP.drop (by omega) (fun _ => rfl)) (hz.drop m)
  rw [List.length_drop, hv] at this
  exact this
theorem mc_left {r : Bool} {LA LB : List (ByteArray × Bool)} (h : LB.length < LA.length) : mcRest r LA LB LB.length = if r then (if Pl.anyNZ (lp (LA.drop LB.length)) then 1 else 0) else 1 := by
  unfold mcRest
  have e : lp (LB.drop LB.length) = [] := by rw [List.drop_eq_nil_of_le (Nat.le_refl _)]; rfl
  rw [e, Pl.mcmp_end r _ _ (.inr rfl)]
  have hn : (lp (LA.drop LB.length)).isEmpty = false := by
    cases hq : LA.drop LB.length with
    | nil => have := congrArg List.length hq; simp at this; omega
    | cons => rfl
  rw [hn]
  cases r <;> rfl
theorem mc_right {r : Bool} {LA LB : List (ByteArray × Bool)} (h : LA.length ≤ LB.length) : mcRest r LA LB LA.length = if r then (if Pl.anyNZ (lp (LB.drop LA.length)) then -1 else 0) else (if LA.length < LB.length then -1 else 0) := by
  unfold mcRest
  have e : lp (LA.drop LA.length) = [] := by rw [List.drop_eq_nil_of_le (Nat.le_refl _)]; rfl
  rw [e, Pl.mcmp_end r _ _ (.inl rfl)]
  have hn : (!(lp (LB.drop LA.length)).isEmpty) = decide (LA.length < LB.length) := by
    cases hq : LB.drop LA.length with
    | nil => have := congrArg List.length hq; simp at this; simp [lp]; omega
    | cons => have := congrArg List.length hq; simp at this; simp [lp]; omega
  rw [hn]
  cases r
  · simp
  · rfl

set_option maxHeartbeats 1000000 in
theorem modelCompare_any (w : World) (pa pb : Option Addr) (ca cb : Nat) (LA LB : List (ByteArray × Bool)) (r : Bool) (hPA : PartsAt w pa ca LA) (hPB : PartsAt w pb cb LB) (hza : SzL LA) (hzb : SzL LB)
    (ha : (pa = none ∧ LA = [] ∧ ca = 0) ∨ ∃ b o, pa = some ⟨b, o, none⟩) (hb : (pb = none ∧ LB = [] ∧ cb = 0) ∨ ∃ b o, pb = some ⟨b, o, none⟩) :
    Calls Tryd.prog 12 #[.slice pa LA.length ca, .slice pb LB.length cb, .bool r] w fun e w' => e = .returned (.int .i64 (Pl.mcmp r (lp LA) (lp LB))) ∧ Below w.heap.size w w' := by
  have hLA : LA.length ≤ maxLen := Nat.le_trans hPA.1 hPA.2.1
  have hLB : LB.length ≤ maxLen := Nat.le_trans hPB.1 hPB.2.1
  unfold maxLen at hLA hLB
  have hr : mcRest r LA LB 0 = Pl.mcmp r (lp LA) (lp LB) := rfl
  generalize Pl.mcmp r (lp LA) (lp LB) = res at hr
  have HR : Hid (mcRest r LA LB 0 = res) := hr
  clear hr
  by_cases hm : LB.length < LA.length
  · go_enter Tryd.func12, Tryd.ntmps12
    go_wp2
    go_loopw [8] (fun i wr => ∃ k : Nat, k ≤ LB.length ∧ i = .int .i64 k ∧ Below w.heap.size w wr ∧ Hid (mcRest r LA LB k = res)) (fun i _ => LB.length - (intOf i).toNat)
    case atStart => exact ⟨0, Nat.zero_le _, rfl, Below.refl _ _, HR⟩
    case round =>
      obtain ⟨k, hk, rfl, hbel, hrest⟩ := hrel
      by_cases hlt : k < LB.length
      · have hltA : k < LA.length := by omega
        obtain ⟨b1, o1, x1, y1, hx1, rfl, p0, p1, hs1⟩ := (hPA.below hbel).at2 hza hltA
        obtain ⟨b2, o2, x2, y2, hx2, rfl, q0, q1, hs2⟩ := (hPB.below hbel).at2 hzb hlt
        have hst := mc_step (r := r) hx1 hx2
        rw [hrest.out] at hst
        have HST : Hid (res = if Pl.mpart (x1.data.toList, y1) (x2.data.toList, y2) ≠ 0 then Pl.mpart (x1.data.toList, y1) (x2.data.toList, y2) else mcRest r LA LB (k + 1)) := hst
        have hcon := fun W => modelPart_any x1 x2 y1 y2 W hs1 hs2
        generalize Pl.mpart (x1.data.toList, y1) (x2.data.toList, y2) = cp at HST hcon
        have HCON : Hid (∀ W, Calls Tryd.prog 23 #[.agg #[.string x1, .bool y1], .agg #[.string x2, .bool y2]] W fun e w' => e = .returned (.int .i64 cp) ∧ Below W.heap.size W w') := hcon
        clear hst hcon hx1 hx2
        by_cases hcp : cp = 0
        · subst hcp
          go_wp2_with fail
          go_region_with ((go_at_call 23; refine (HCON.out _).mono ?_; rintro e w2 ⟨rfl, hb2⟩; have HB2 : Hid (Below wr.heap.size wr w2) := below_undrew hb2; clear hb2))
          all_goals
            go_wp2_with fail
            go_roundw
            case rel => exact ⟨k + 1, by omega, by go_num, hbel.trans (HB2.out.mono hbel.size), by show mcRest r LA LB (k + 1) = res; rw [HST.out]; rfl⟩
            case measure => simp [intOf]; omega
        have hcp' : (cp != 0) = true := by simpa using hcp
        have HF : Hid (res = cp) := by show res = cp; rw [HST.out, if_pos hcp]
        clear hcp
        go_wp2_with fail
        go_region_with ((go_at_call 23; refine (HCON.out _).mono ?_; rintro e w2 ⟨rfl, hb2⟩; have HB2 : Hid (Below wr.heap.size wr w2) := below_undrew hb2; clear hb2))
        all_goals
          go_wp2_with fail
          go_ret
          exact ⟨by rw [HF.out]; rfl, hbel.trans (HB2.out.mono hbel.size)⟩
      · obtain ⟨b1, o1, rfl⟩ : ∃ b o, pa = some ⟨b, o, none⟩ := by
          rcases ha with ⟨_, e, _⟩ | h
          · rw [e] at hm; cases hm
          · exact h
        have hca := hPA.1
        have hcb := hPB.1
        obtain rfl : k = LB.length := by omega
        have hcm := hPB.2.1
        have hre := mc_left (r := r) hm
        rw [hrest.out] at hre
        cases r
        · have HF : Hid (res = 1) := hre
          clear hre
          go_wp2_with fail
          go_ret
          exact ⟨by rw [HF.out]; rfl, hbel⟩
        · have h24 := fun v => anyNonzero_drop wr b1 o1 ca LB.length LA (hPA.below hbel) hza hm v
          cases hnz : Pl.anyNZ (lp (LA.drop LB.length))
          · have h24' := h24 _ hnz
            have HF : Hid (res = 0) := by show res = 0; rw [hre, hnz]; rfl
            clear hnz hre h24
            rcases hb with ⟨rfl, rfl, rfl⟩ | ⟨b2, o2, rfl⟩
            · go_wp2_with fail
              refine h24'.mono ?_
              rintro e w2 ⟨rfl, hw⟩
              subst hw
              clear h24'
              go_wp2_with fail
              refine (anyNonzero_nil _ _ _ (Nat.zero_le _)).mono ?_
              rintro e w3 ⟨rfl, hw⟩
              subst hw
              go_wp2_with fail
              go_ret
              exact ⟨by rw [HF.out]; rfl, hbel⟩
            · go_wp2_with fail
              refine h24'.mono ?_
              rintro e w2 ⟨rfl, hw⟩
              subst hw
              clear h24'
              go_wp2_with fail
              all_goals
                refine (anyNonzero_nil _ _ _ (by omega)).mono ?_
                rintro e w3 ⟨rfl, hw⟩
                subst hw
                go_wp2_with fail
                go_ret
                exact ⟨by rw [HF.out]; rfl, hbel⟩
          · have h24' := h24 _ hnz
            have HF : Hid (res = 1) := by show res = 1; rw [hre, hnz]; rfl
            clear hnz hre h24
            go_wp2_with fail
            refine h24'.mono ?_
            rintro e w2 ⟨rfl, hw⟩
            subst hw
            clear h24'
            go_wp2_with fail
            go_ret
            exact ⟨by rw [HF.out]; rfl, hbel⟩
  · go_enter Tryd.func12, Tryd.ntmps12
    go_wp2
    go_loopw [8] (fun i wr => ∃ k : Nat, k ≤ LA.length ∧ i = .int .i64 k ∧ Below w.heap.size w wr ∧ Hid (mcRest r LA LB k = res)) (fun i _ => LA.length - (intOf i).toNat)
    case atStart => exact ⟨0, Nat.zero_le _, rfl, Below.refl _ _, HR⟩
    case round =>
      obtain ⟨k, hk, rfl, hbel, hrest⟩ := hrel
      by_cases hltA : k < LA.length
      · have hlt : k < LB.length := by omega
        obtain ⟨b1, o1, x1, y1, hx1, rfl, p0, p1, hs1⟩ := (hPA.below hbel).at2 hza hltA
        obtain ⟨b2, o2, x2, y2, hx2, rfl, q0, q1, hs2⟩ := (hPB.below hbel).at2 hzb hlt
        have hst := mc_step (r := r) hx1 hx2
        rw [hrest.out] at hst
        have HST : Hid (res = if Pl.mpart (x1.data.toList, y1) (x2.data.toList, y2) ≠ 0 then Pl.mpart (x1.data.toList, y1) (x2.data.toList, y2) else mcRest r LA LB (k + 1)) := hst
        have hcon := fun W => modelPart_any x1 x2 y1 y2 W hs1 hs2
        generalize Pl.mpart (x1.data.toList, y1) (x2.data.toList, y2) = cp at HST hcon
        have HCON : Hid (∀ W, Calls Tryd.prog 23 #[.agg #[.string x1, .bool y1], .agg #[.string x2, .bool y2]] W fun e w' => e = .returned (.int .i64 cp) ∧ Below W.heap.size W w') := hcon
        clear hst hcon hx1 hx2
        by_cases hcp : cp = 0
        · subst hcp
          go_wp2_with fail
          go_region_with ((go_at_call 23; refine (HCON.out _).mono ?_; rintro e w2 ⟨rfl, hb2⟩; have HB2 : Hid (Below wr.heap.size wr w2) := below_undrew hb2; clear hb2))
          all_goals
            go_wp2_with fail
            go_roundw
            case rel => exact ⟨k + 1, by omega, by go_num, hbel.trans (HB2.out.mono hbel.size), by show mcRest r LA LB (k + 1) = res; rw [HST.out]; rfl⟩
            case measure => simp [intOf]; omega
        have hcp' : (cp != 0) = true := by simpa using hcp
        have HF : Hid (res = cp) := by show res = cp; rw [HST.out, if_pos hcp]
        clear hcp
        go_wp2_with fail
        go_region_with ((go_at_call 23; refine (HCON.out _).mono ?_; rintro e w2 ⟨rfl, hb2⟩; have HB2 : Hid (Below wr.heap.size wr w2) := below_undrew hb2; clear hb2))
        all_goals
          go_wp2_with fail
          go_ret
          exact ⟨by rw [HF.out]; rfl, hbel.trans (HB2.out.mono hbel.size)⟩
      · have hca := hPA.1
        have hcb := hPB.1
        have hcm := hPA.2.1
        obtain rfl : k = LA.length := by omega
        have hre := mc_right (r := r) (LA := LA) (LB := LB) (by omega)
        rw [hrest.out] at hre
        cases r
        · by_cases hab : LA.length < LB.length
          · have HF : Hid (res = -1) := by show res = -1; rw [hre, if_pos hab]; rfl
            clear hre
            go_wp2_with fail
            go_ret
            exact ⟨by rw [HF.out]; rfl, hbel⟩
          · have HF : Hid (res = 0) := by show res = 0; rw [hre, if_neg hab]; rfl
            clear hre
            go_wp2_with fail
            go_ret
            exact ⟨by rw [HF.out]; rfl, hbel⟩
        · by_cases hab : LA.length < LB.length
          · obtain ⟨b2, o2, rfl⟩ : ∃ b o, pb = some ⟨b, o, none⟩ := by
              rcases hb with ⟨_, e, _⟩ | h
              · rw [e] at hab; cases hab
              · exact h
            have h24 := fun v => anyNonzero_drop wr b2 o2 cb LA.length LB (hPB.below hbel) hzb hab v
            cases hnz : Pl.anyNZ (lp (LB.drop LA.length))
            all_goals
              have h24' := h24 _ hnz
              rw [hnz] at hre
              have HF : Hid (res = _) := hre
              clear hnz hre h24
              rcases ha with ⟨rfl, rfl, rfl⟩ | ⟨b1, o1, rfl⟩
              · simp only [List.length_nil, Nat.zero_mul, Nat.add_zero, Nat.sub_zero] at h24'
                go_wp2_with fail
                refine (anyNonzero_nil _ _ _ (by omega)).mono ?_
                rintro e w2 ⟨rfl, hw⟩
                subst hw
                go_wp2_with fail
                refine h24'.mono ?_
                rintro e w3 ⟨rfl, hw⟩
                subst hw
                clear h24'
                go_wp2_with fail
                go_ret
                exact ⟨by rw [HF.out]; rfl, hbel⟩
              · go_wp2_with fail
                all_goals
                  refine (anyNonzero_nil _ _ _ (by omega)).mono ?_
                  rintro e w2 ⟨rfl, hw⟩
                  subst hw
                  go_wp2_with fail
                  refine h24'.mono ?_
                  rintro e w3 ⟨rfl, hw⟩
                  subst hw
                  clear h24'
                  go_wp2_with fail
                  go_ret
                  exact ⟨by rw [HF.out]; rfl, hbel⟩
          · have hnz : Pl.anyNZ (lp (LB.drop LA.length)) = false := by rw [List.drop_eq_nil_of_le (by omega)]; rfl
            have HF : Hid (res = 0) := by show res = 0; rw [hre, hnz]; rfl
            have e0 : LB.length - LA.length = 0 := by omega
            have HE : Hid (LB.length - LA.length = 0) := e0
            have hcb2 := hPB.2.1
            clear hre hnz e0
            rcases ha with ⟨rfl, rfl, rfl⟩ | ⟨b1, o1, rfl⟩
            · have hLB0 : LB = [] := List.eq_nil_of_length_eq_zero (by simpa using HE.out)
              subst hLB0
              rcases hb with ⟨rfl, _, rfl⟩ | ⟨b2, o2, rfl⟩
              all_goals
                go_wp2_with fail
                refine (anyNonzero_nil _ _ _ (by omega)).mono ?_
                rintro e w2 ⟨rfl, hw⟩
                subst hw
                go_wp2_with fail
                refine (anyNonzero_nil _ _ _ (by omega)).mono ?_
                rintro e w3 ⟨rfl, hw⟩
                subst hw
                go_wp2_with fail
                go_ret
                exact ⟨by rw [HF.out]; rfl, hbel⟩
            · rcases hb with ⟨rfl, rfl, rfl⟩ | ⟨b2, o2, rfl⟩
              · have hLA0 : LA = [] := by simpa using hm
                subst hLA0
                go_wp2_with fail
                all_goals
                  refine (anyNonzero_nil _ _ _ (by omega)).mono ?_
                  rintro e w2 ⟨rfl, hw⟩
                  subst hw
                  go_wp2_with fail
                  refine (anyNonzero_nil _ _ _ (by omega)).mono ?_
                  rintro e w3 ⟨rfl, hw⟩
                  subst hw
                  go_wp2_with fail
                  go_ret
                  exact ⟨by rw [HF.out]; rfl, hbel⟩
              · go_wp2_with fail
                all_goals
                  refine (anyNonzero_nil _ _ _ (by omega)).mono ?_
                  rintro e w2 ⟨rfl, hw⟩
                  subst hw
                  go_wp2_with fail
                  all_goals
                    rw [HE.out]
                    refine (anyNonzero_nil _ _ _ (by omega)).mono ?_
                    rintro e w3 ⟨rfl, hw⟩
                    subst hw
                    go_wp2_with fail
                    go_ret
                    exact ⟨by rw [HF.out]; rfl, hbel⟩
end Go.Proofs.Qxb6604528aDoor
