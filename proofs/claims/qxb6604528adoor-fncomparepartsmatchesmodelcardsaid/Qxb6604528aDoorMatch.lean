import Derived.Test.Qxb6604528aDoorModel6
import Derived.Test.Qxb6604528aDoorExt
set_option linter.unusedSimpArgs false
set_option linter.unusedVariables false
namespace Go.Proofs.Qxb6604528aDoor
open Go.RowKit

set_option maxHeartbeats 1000000 in
theorem bytes6_any (w : World) (pa pb : Option Addr) (ca cb : Nat) (LA LB : List (ByteArray × Bool)) (s t : ByteArray) (r : Bool) (hPA : PartsAt w pa ca LA) (hPB : PartsAt w pb cb LB) :
    Calls Tryd.prog 6 #[.slice pa LA.length ca, .string s, .slice pb LB.length cb, .string t, .bool r] w (SomeBool w) := by
  have hLA : LA.length ≤ maxLen := Nat.le_trans hPA.1 hPA.2.1
  have hLB : LB.length ≤ maxLen := Nat.le_trans hPB.1 hPB.2.1
  unfold maxLen at hLA hLB
  by_cases hn : LA.length ≤ 1048576
  · go_enter Tryd.func6, Tryd.ntmps6
    go_wp2
    go_loop [11, 12] (fun t i => ∃ (v : Int) (k : Nat), k ≤ LA.length ∧ i = .int .i64 k ∧ t = .int .i64 v) (fun _ i => LA.length - (intOf i).toNat)
    case atStart => exact ⟨_, 0, Nat.zero_le _, rfl, rfl⟩
    case round =>
      obtain ⟨v, k, hk, rfl, rfl⟩ := hrel
      by_cases hlt : k < LA.length
      · obtain ⟨b, o, x, y, hx, rfl, e0, e1⟩ := hPA.at hlt
        clear hx e1 hPA hPB
        go_wp2
        all_goals first
          | (go_ret; exact ⟨_, rfl, rfl⟩)
          | (go_round
             case rel => exact ⟨_, k + 1, by omega, by go_num, rfl⟩
             case measure => simp [intOf]; omega)
      · clear hPA
        go_wp2
        all_goals first
          | (go_ret; exact ⟨_, rfl, rfl⟩)
          | skip
        all_goals
          go_loop [11, 13] (fun t i => ∃ (v : Int) (k : Nat), k ≤ LB.length ∧ i = .int .i64 k ∧ t = .int .i64 v) (fun _ i => LB.length - (intOf i).toNat)
          case atStart => exact ⟨_, 0, Nat.zero_le _, rfl, rfl⟩
          case round =>
            obtain ⟨v, k, hk, rfl, rfl⟩ := hrel
            by_cases hlt : k < LB.length
            · obtain ⟨b, o, x, y, hx, rfl, e0, e1⟩ := hPB.at hlt
              clear hx e1 hPB
              go_wp2
              all_goals first
                | (go_ret; exact ⟨_, rfl, rfl⟩)
                | (go_round
                   case rel => exact ⟨_, k + 1, by omega, by go_num, rfl⟩
                   case measure => simp [intOf]; omega)
            · clear hPB
              go_wp2
              all_goals (go_ret; exact ⟨_, rfl, rfl⟩)
  · go_enter Tryd.func6, Tryd.ntmps6
    go_wp2
    go_ret
    exact ⟨_, rfl, rfl⟩

theorem SeqOwn.parts {w wr : World} {v : Value} {Q : List (ByteArray × Bool)} (h : SeqOwn w wr v Q) : ∃ pb cb, v = .slice pb Q.length cb ∧ PartsAt wr pb cb Q ∧ ((pb = none ∧ Q = [] ∧ cb = 0) ∨ ∃ b o, pb = some ⟨b, o, none⟩) := by
  rcases h.1.2 with ⟨rfl, hn⟩ | ⟨g, cap, cur, rfl, hb, hg, hc, hm, hsz, htk⟩
  · have hQ : Q = [] := List.eq_nil_of_length_eq_zero hn
    subst hQ
    exact ⟨none, 0, rfl, ⟨Nat.le_refl _, Nat.zero_le _, fun h => absurd rfl h⟩, .inl ⟨rfl, rfl, rfl⟩⟩
  · refine ⟨some ⟨g, 0, none⟩, cap, rfl, ⟨hc, hm, fun hQ => ⟨g, 0, rfl, ?_, fun i x hx => ?_⟩⟩, .inr ⟨g, 0, rfl⟩⟩
    · rcases Nat.lt_or_ge g wr.heap.size with hlt | hge
      · exact hlt
      · rw [Array.getElem?_eq_none hge] at hg; cases hg
    · have hi : i < Q.length := (List.getElem?_eq_some_iff.1 hx).1
      obtain ⟨e0, e1⟩ := flat_get Q i x hx
      have g0 := h.1.cellAt (2 * i) (by omega)
      have g1 := h.1.cellAt (2 * i + 1) (by omega)
      rw [e0] at g0
      rw [e1] at g1
      simp only [Nat.zero_add]
      exact ⟨g0, g1⟩

theorem pieces_short : ∀ (t p : List UInt8), p ∈ Pl.pieces t → p.length ≤ t.length
  | [], p, h => by cases h
  | c :: r, p, h => by
    by_cases hc : c = 46
    · simp only [Pl.pieces, hc, if_true, List.mem_cons] at h
      rcases h with rfl | h
      · simp
      · have := pieces_short r p h; simp; omega
    · simp only [Pl.pieces, hc, if_false] at h
      cases hq : Pl.pieces r with
      | nil =>
        rw [hq] at h
        simp at h
        subst h
        simp
      | cons q qs =>
        rw [hq] at h
        simp only [List.mem_cons] at h
        rcases h with rfl | h
        · have := pieces_short r q (by rw [hq]; exact List.mem_cons_self)
          simp; omega
        · have := pieces_short r p (by rw [hq]; exact List.mem_cons_of_mem _ h)
          simp; omega
theorem seq_small {r : Bool} {L Q : List (ByteArray × Bool)} {t : ByteArray} (h : lp Q = Pl.seqM r (lp L) t.data.toList) (hz : SzL L) (ht : t.size ≤ maxLen) : SzL Q := by
  intro x hx
  have hm : (x.1.data.toList, x.2) ∈ lp Q := List.mem_map.2 ⟨x, hx, rfl⟩
  rw [h] at hm
  rw [Lib.size_eq]
  rcases List.mem_append.1 hm with hm | hm
  · obtain ⟨y, hy, e⟩ := List.mem_map.1 hm
    have := hz y hy
    rw [Lib.size_eq] at this
    have e1 : y.1.data.toList = x.1.data.toList := congrArg Prod.fst e
    rw [← e1]; exact this
  · obtain ⟨p, hp, e⟩ := List.mem_map.1 hm
    have := pieces_short _ p hp
    have e1 : p = x.1.data.toList := congrArg Prod.fst e
    rw [← e1]
    rw [← Lib.size_eq] at this
    omega

theorem res_model {r : Bool} {LA LB QA QB : List (ByteArray × Bool)} {s t : ByteArray} (ha : Pl.fitL r (lp LA) = true) (hb : Pl.fitL r (lp LB) = true) (hd : r = true → Pl.digDots s.data.toList = true ∧ Pl.digDots t.data.toList = true)
    (hA : lp QA = Pl.seqM r (lp LA) s.data.toList) (hB : lp QB = Pl.seqM r (lp LB) t.data.toList) : resS r LA s LB t = Pl.mcmp r (lp QA) (lp QB) := by
  have := Pl.matches_model r (lp LA) (lp LB) s.data.toList t.data.toList ha hb hd
  unfold resS
  rw [hA, hB, ← this]
  simp [lp]

set_option maxHeartbeats 1000000 in
theorem match_walk (w : World) (pa pb : Option Addr) (ca cb : Nat) (LA LB : List (ByteArray × Bool)) (s t : ByteArray) (r : Bool) (hPA : PartsAt w pa ca LA) (hPB : PartsAt w pb cb LB) (hpa : pa = none → LA = [] ∧ ca = 0) (hpb : pb = none → LB = [] ∧ cb = 0)
    (hza : SzL LA) (hzb : SzL LB) (hs : s.size ≤ maxLen) (ht : t.size ≤ maxLen) :
    Calls Tryd.prog 3 #[.slice pa LA.length ca, .string s, .slice pb LB.length cb, .string t, .bool r] w (LawPost w) := by
  have hLA : LA.length ≤ maxLen := Nat.le_trans hPA.1 hPA.2.1
  have hLB : LB.length ≤ maxLen := Nat.le_trans hPB.1 hPB.2.1
  have h6 := bytes6_any w pa pb ca cb LA LB s t r hPA hPB
  have hfa := listFits_any w pa ca LA r hPA hza
  have hfb := listFits_any w pb cb LB r hPB hzb
  have hds := digitsDots_any s w hs
  have hdt := digitsDots_any t w ht
  unfold maxLen at hLA hLB hs ht
  have HA : Hid (PartsAt w pa ca LA ∧ (pa = none → LA = [] ∧ ca = 0) ∧ SzL LA) := ⟨hPA, hpa, hza⟩
  have HB : Hid (PartsAt w pb cb LB ∧ (pb = none → LB = [] ∧ cb = 0) ∧ SzL LB) := ⟨hPB, hpb, hzb⟩
  clear hPA hPB hpa hpb hza hzb
  have fin : Pl.fitL r (lp LA) = true → Pl.fitL r (lp LB) = true → (r = true → Pl.digDots s.data.toList = true ∧ Pl.digDots t.data.toList = true) → ∀ QA QB, lp QA = Pl.seqM r (lp LA) s.data.toList → lp QB = Pl.seqM r (lp LB) t.data.toList → resS r LA s LB t = Pl.mcmp r (lp QA) (lp QB) :=
    fun h1 h2 h3 QA QB h4 h5 => res_model h1 h2 h3 h4 h5
  have FIN : Hid (Pl.fitL r (lp LA) = true → Pl.fitL r (lp LB) = true → (r = true → Pl.digDots s.data.toList = true ∧ Pl.digDots t.data.toList = true) → ∀ QA QB, lp QA = Pl.seqM r (lp LA) s.data.toList → lp QB = Pl.seqM r (lp LB) t.data.toList → resS r LA s LB t = Pl.mcmp r (lp QA) (lp QB)) := fin
  clear fin
  have H6 : Hid (Calls Tryd.prog 6 #[.slice pa LA.length ca, .string s, .slice pb LB.length cb, .string t, .bool r] w (SomeBool w)) := h6
  clear h6
  generalize hva : Pl.fitL r (lp LA) = va at hfa
  generalize hvb : Pl.fitL r (lp LB) = vb at hfb
  generalize hvs : Pl.digDots s.data.toList = vs at hds
  generalize hvt : Pl.digDots t.data.toList = vt at hdt
  have HV : Hid (Pl.fitL r (lp LA) = va ∧ Pl.fitL r (lp LB) = vb ∧ Pl.digDots s.data.toList = vs ∧ Pl.digDots t.data.toList = vt) := ⟨hva, hvb, hvs, hvt⟩
  clear hva hvb hvs hvt
  go_enter Tryd.func3, Tryd.ntmps3
  go_wp2_with fail
  refine H6.out.mono ?_
  rintro e w' ⟨v, rfl, hw⟩
  subst hw
  cases v
  · go_wp2_with fail
    go_ret
    exact ⟨rfl, Below.refl _ _⟩
  by_cases hn : LA.length ≤ 65536 ∧ LB.length ≤ 65536 ∧ s.size ≤ 1048576 ∧ t.size ≤ 1048576
  · obtain ⟨hn1, hn2, hn3, hn4⟩ := hn
    go_wp2_with fail
    refine (partsBytes_any w' pa ca LA HA.out.1 hn1).mono ?_
    rintro e w2 ⟨v1, rfl, hw⟩
    subst hw
    go_wp2_with fail
    refine (partsBytes_any w2 pb cb LB HB.out.1 hn2).mono ?_
    rintro e w3 ⟨v2, rfl, hw⟩
    subst hw
    go_wp2_with fail
    · go_ret
      exact ⟨rfl, Below.refl _ _⟩
    refine hfa.mono ?_
    rintro e w4 ⟨rfl, hw⟩
    subst hw
    cases va
    · go_wp2_with fail
      go_ret
      exact ⟨rfl, Below.refl _ _⟩
    go_wp2_with fail
    refine hfb.mono ?_
    rintro e w5 ⟨rfl, hw⟩
    subst hw
    cases vb
    · go_wp2_with fail
      go_ret
      exact ⟨rfl, Below.refl _ _⟩
    clear hfa hfb
    cases r
    · have HE := fun QA QB => FIN.out HV.out.1 HV.out.2.1 (fun h => by cases h) QA QB
      clear hds hdt FIN HV
      have HEH : Hid (∀ QA QB, lp QA = Pl.seqM false (lp LA) s.data.toList → lp QB = Pl.seqM false (lp LB) t.data.toList → resS false LA s LB t = Pl.mcmp false (lp QA) (lp QB)) := HE
      clear HE
      go_wp2_with fail
      refine (toParts_any _ pa ca LA s HA.out.1 HA.out.2.1 (by omega)).mono ?_
      rintro e wa ⟨qa, da, rfl, hp1, hb1⟩
      have HP1 : Hid (PartsAt wa qa da LA ∧ Below _ _ wa) := ⟨hp1, hb1⟩
      clear hp1 hb1
      go_wp2_with fail
      refine (toParts_any wa pb cb LB t (HB.out.1.below HP1.out.2) HB.out.2.1 (by omega)).mono ?_
      rintro e wb ⟨qb, db, rfl, hp2, hb2⟩
      have HP2 : Hid (PartsAt wb qa da LA ∧ PartsAt wb qb db LB ∧ Below _ _ wb) := ⟨HP1.out.1.below hb2, hp2, HP1.out.2.trans (hb2.mono HP1.out.2.size)⟩
      clear hp2 hb2 HP1
      go_wp2_with fail
      refine (zzCompareParts_any wb qa qb da db LA LB s t _ HP2.out.1 HP2.out.2.1 (by unfold maxLen; omega) (by unfold maxLen; omega)).mono ?_
      rintro e wc ⟨rfl, hb3⟩
      have HBc : Hid (Below _ _ wc) := HP2.out.2.2.trans (hb3.mono HP2.out.2.2.size)
      clear hb3 HP2
      generalize hres : resS _ LA s LB t = res
      have HRES : Hid (resS _ LA s LB t = res) := hres
      clear hres
      go_wp2_with fail
      refine (modelSeq_any wc pa ca LA s _ (HA.out.1.below HBc.out) hn1 hn3).mono ?_
      rintro e wd ⟨v, QA, rfl, hQA, heA⟩
      obtain ⟨pq, cq, rfl, hpq, hoq⟩ := hQA.parts
      have HQA : Hid (PartsAt wd pq cq QA ∧ ((pq = none ∧ QA = [] ∧ cq = 0) ∨ ∃ b o, pq = some ⟨b, o, none⟩) ∧ SzL QA ∧ lp QA = _ ∧ Below _ _ wd) := ⟨hpq, hoq, seq_small heA HA.out.2.2 (by unfold maxLen; omega), heA, HBc.out.trans (hQA.2.mono HBc.out.size)⟩
      clear hQA heA hpq hoq HBc
      go_wp2_with fail
      refine (modelSeq_any wd pb cb LB t _ (HB.out.1.below HQA.out.2.2.2.2) hn2 hn4).mono ?_
      rintro e we ⟨v, QB, rfl, hQB, heB⟩
      obtain ⟨pz, cz, rfl, hpz, hoz⟩ := hQB.parts
      have HQB : Hid (PartsAt we pq cq QA ∧ PartsAt we pz cz QB ∧ ((pz = none ∧ QB = [] ∧ cz = 0) ∨ ∃ b o, pz = some ⟨b, o, none⟩) ∧ SzL QB ∧ lp QB = _ ∧ Below _ _ we) := ⟨HQA.out.1.below hQB.2, hpz, hoz, seq_small heB HB.out.2.2 (by unfold maxLen; omega), heB, HQA.out.2.2.2.2.trans (hQB.2.mono HQA.out.2.2.2.2.size)⟩
      clear hQB heB hpz hoz
      go_wp2_with fail
      refine (modelCompare_any we pq pz cq cz QA QB _ HQB.out.1 HQB.out.2.1 HQA.out.2.2.1 HQB.out.2.2.2.1 HQA.out.2.1 HQB.out.2.2.1).mono ?_
      rw [← HEH.out QA QB HQA.out.2.2.2.1 HQB.out.2.2.2.2.1, HRES.out]
      rintro e wf ⟨rfl, hbf⟩
      have HBf : Hid (Below _ _ wf) := HQB.out.2.2.2.2.2.trans (hbf.mono HQB.out.2.2.2.2.2.size)
      clear hbf
      have hself : (res == res) = true := beq_self_eq_true res
      go_wp2_with fail
      go_ret
      exact ⟨rfl, HBf.out⟩
    · go_wp2_with fail
      refine hds.mono ?_
      rintro e w6 ⟨rfl, hw⟩
      subst hw
      cases vs
      · go_wp2_with fail
        go_ret
        exact ⟨rfl, Below.refl _ _⟩
      go_wp2_with fail
      refine hdt.mono ?_
      rintro e w7 ⟨rfl, hw⟩
      subst hw
      cases vt
      · go_wp2_with fail
        go_ret
        exact ⟨rfl, Below.refl _ _⟩
      have HE := fun QA QB => FIN.out HV.out.1 HV.out.2.1 (fun h => ⟨HV.out.2.2.1, HV.out.2.2.2⟩) QA QB
      clear hds hdt FIN HV
      have HEH : Hid (∀ QA QB, lp QA = Pl.seqM true (lp LA) s.data.toList → lp QB = Pl.seqM true (lp LB) t.data.toList → resS true LA s LB t = Pl.mcmp true (lp QA) (lp QB)) := HE
      clear HE
      go_wp2_with fail
      refine (toParts_any _ pa ca LA s HA.out.1 HA.out.2.1 (by omega)).mono ?_
      rintro e wa ⟨qa, da, rfl, hp1, hb1⟩
      have HP1 : Hid (PartsAt wa qa da LA ∧ Below _ _ wa) := ⟨hp1, hb1⟩
      clear hp1 hb1
      go_wp2_with fail
      refine (toParts_any wa pb cb LB t (HB.out.1.below HP1.out.2) HB.out.2.1 (by omega)).mono ?_
      rintro e wb ⟨qb, db, rfl, hp2, hb2⟩
      have HP2 : Hid (PartsAt wb qa da LA ∧ PartsAt wb qb db LB ∧ Below _ _ wb) := ⟨HP1.out.1.below hb2, hp2, HP1.out.2.trans (hb2.mono HP1.out.2.size)⟩
      clear hp2 hb2 HP1
      go_wp2_with fail
      refine (zzCompareParts_any wb qa qb da db LA LB s t _ HP2.out.1 HP2.out.2.1 (by unfold maxLen; omega) (by unfold maxLen; omega)).mono ?_
      rintro e wc ⟨rfl, hb3⟩
      have HBc : Hid (Below _ _ wc) := HP2.out.2.2.trans (hb3.mono HP2.out.2.2.size)
      clear hb3 HP2
      generalize hres : resS _ LA s LB t = res
      have HRES : Hid (resS _ LA s LB t = res) := hres
      clear hres
      go_wp2_with fail
      refine (modelSeq_any wc pa ca LA s _ (HA.out.1.below HBc.out) hn1 hn3).mono ?_
      rintro e wd ⟨v, QA, rfl, hQA, heA⟩
      obtain ⟨pq, cq, rfl, hpq, hoq⟩ := hQA.parts
      have HQA : Hid (PartsAt wd pq cq QA ∧ ((pq = none ∧ QA = [] ∧ cq = 0) ∨ ∃ b o, pq = some ⟨b, o, none⟩) ∧ SzL QA ∧ lp QA = _ ∧ Below _ _ wd) := ⟨hpq, hoq, seq_small heA HA.out.2.2 (by unfold maxLen; omega), heA, HBc.out.trans (hQA.2.mono HBc.out.size)⟩
      clear hQA heA hpq hoq HBc
      go_wp2_with fail
      refine (modelSeq_any wd pb cb LB t _ (HB.out.1.below HQA.out.2.2.2.2) hn2 hn4).mono ?_
      rintro e we ⟨v, QB, rfl, hQB, heB⟩
      obtain ⟨pz, cz, rfl, hpz, hoz⟩ := hQB.parts
      have HQB : Hid (PartsAt we pq cq QA ∧ PartsAt we pz cz QB ∧ ((pz = none ∧ QB = [] ∧ cz = 0) ∨ ∃ b o, pz = some ⟨b, o, none⟩) ∧ SzL QB ∧ lp QB = _ ∧ Below _ _ we) := ⟨HQA.out.1.below hQB.2, hpz, hoz, seq_small heB HB.out.2.2 (by unfold maxLen; omega), heB, HQA.out.2.2.2.2.trans (hQB.2.mono HQA.out.2.2.2.2.size)⟩
      clear hQB heB hpz hoz
      go_wp2_with fail
      refine (modelCompare_any we pq pz cq cz QA QB _ HQB.out.1 HQB.out.2.1 HQA.out.2.2.1 HQB.out.2.2.2.1 HQA.out.2.1 HQB.out.2.2.1).mono ?_
      rw [← HEH.out QA QB HQA.out.2.2.2.1 HQB.out.2.2.2.2.1, HRES.out]
      rintro e wf ⟨rfl, hbf⟩
      have HBf : Hid (Below _ _ wf) := HQB.out.2.2.2.2.2.trans (hbf.mono HQB.out.2.2.2.2.2.size)
      clear hbf
      have hself : (res == res) = true := beq_self_eq_true res
      go_wp2_with fail
      go_ret
      exact ⟨rfl, HBf.out⟩
  · go_wp2_with fail
    all_goals first
      | (go_ret; exact ⟨rfl, Below.refl _ _⟩)
      | (exfalso; omega)
end Go.Proofs.Qxb6604528aDoor
