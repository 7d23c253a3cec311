import Derived.Test.Qxb6604528aDoorModel5
import Derived.Deep.AppendLies
import Derived.Deep.RegionHeld3
set_option linter.unusedSimpArgs false
set_option linter.unusedVariables false
namespace Go.Proofs.Qxb6604528aDoor
open Go.RowKit

theorem info54 : (Tryd.prog.info? 54).map (fun i => (i.zero, i.size, i.bytes)) = some (some (.agg #[.string ⟨#[]⟩, .bool false]), 2, 24) := by kernel_rfl
theorem own_below {w w' : World} {B e size n : Nat} {v : Value} {xs : List Value} (h : w.ownsRow B e size v n xs) (hb : Below w.heap.size w w') : w'.ownsRow B e size v n xs := by
  refine ⟨h.1, ?_⟩
  rcases h.2 with h | ⟨g, cap, cur, h1, h2, h3, h4⟩
  · exact .inl h
  · have hlt : g < w.heap.size := by
      rcases Nat.lt_or_ge g w.heap.size with hlt | hge
      · exact hlt
      · rw [Array.getElem?_eq_none hge] at h3; cases h3
    exact .inr ⟨g, cap, cur, h1, h2, (hb.block g hlt).trans h3, h4⟩

/-- The cells of a list of parts. -/
def flat (Q : List (ByteArray × Bool)) : List Value := Q.flatMap fun x => [.string x.1, .bool x.2]
theorem flat_snoc (Q : List (ByteArray × Bool)) (x : ByteArray) (y : Bool) : flat (Q ++ [(x, y)]) = flat Q ++ [.string x, .bool y] := by simp [flat]
theorem flat_get (Q : List (ByteArray × Bool)) (i : Nat) (x : ByteArray × Bool) (h : Q[i]? = some x) : (flat Q)[2 * i]? = some (.string x.1) ∧ (flat Q)[2 * i + 1]? = some (.bool x.2) := by
  induction Q generalizing i with
  | nil => cases h
  | cons q Q ih =>
    cases i with
    | zero =>
      obtain rfl : q = x := Option.some.inj h
      exact ⟨rfl, rfl⟩
    | succ i =>
      have := ih i (by simpa using h)
      have e : flat (q :: Q) = .string q.1 :: .bool q.2 :: flat Q := rfl
      rw [e, show 2 * (i + 1) = 2 * i + 1 + 1 by omega]
      simp only [List.getElem?_cons_succ]
      exact this

/-- A slice of parts that the call itself has built. -/
def SeqOwn (w wr : World) (v : Value) (Q : List (ByteArray × Bool)) : Prop := wr.ownsRow w.heap.size 54 2 v Q.length (flat Q) ∧ Below w.heap.size w wr

theorem SeqOwn.step {w wr w1 : World} {v : Value} {Q : List (ByteArray × Bool)} {x : ByteArray} {y : Bool} {g cap : Nat} (h : SeqOwn w wr v Q) {o : Obj} {n : Nat}
    (ho : w1.ownsRow w.heap.size 54 2 (.slice (some ⟨g, 0, none⟩) (Q.length + 1) cap) (Q.length + 1) (flat Q ++ [.string x, .bool y])) (hg : ((wr.alloc o).drewN n).grownBy w1 v.ownBlock) :
    SeqOwn w w1 (.slice (some ⟨g, 0, none⟩) (Q.length + 1) cap) (Q ++ [(x, y)]) := by
  refine ⟨?_, ?_⟩
  · rw [flat_snoc, List.length_append]
    exact ho
  · have hb : Below w.heap.size w ((wr.alloc o).drewN n) := below_drewN (h.2.alloc h.2.size _) n
    exact hb.grown hg hb.size (fun k hk => (h.1.lt k hk).1)

/-- What is still to come, behind position s of the text. -/
def SeqRest (w : World) (L : List (ByteArray × Bool)) (t : ByteArray) (r : Bool) (s k : Nat) (v : Value) (wr : World) : Prop :=
  ∃ Q, SeqOwn w wr v Q ∧ s ≤ k ∧ k ≤ t.size ∧ Q.length ≤ L.length + s ∧ lp Q ++ (Pl.pieces (t.data.toList.drop s)).map (fun p => (p, r || Pl.allDig p)) = Pl.seqM r (lp L) t.data.toList ∧
    ((t.data.toList.drop s).take (k - s)).all (· != 46) = true

theorem rest_next {w wr : World} {L : List (ByteArray × Bool)} {t : ByteArray} {r : Bool} {s k : Nat} {v : Value} (h : SeqRest w L t r s k v wr) (hk : k < t.size) (hc : ¬ t[k] = 46) : SeqRest w L t r s (k + 1) v wr := by
  obtain ⟨Q, h1, h2, h3, h4, h5, h6⟩ := h
  refine ⟨Q, h1, by omega, by omega, h4, h5, ?_⟩
  rw [show k + 1 - s = (k - s) + 1 by omega, List.take_add_one, List.all_append, h6, List.getElem?_drop, show s + (k - s) = k by omega]
  rw [List.getElem?_eq_getElem (by simpa using hk)]
  have : (t.data.toList[k]'(by simpa using hk)) = t[k] := rfl
  rw [this]
  simpa using hc
theorem rest_cut {t : ByteArray} {s k : Nat} (hs : s ≤ k) (hk : k < t.size) (hc : t[k] = 46) (h6 : ((t.data.toList.drop s).take (k - s)).all (· != 46) = true) :
    Pl.pieces (t.data.toList.drop s) = (t.data.toList.drop s).take (k - s) :: Pl.pieces (t.data.toList.drop (k + 1)) := by
  have hl : k - s < (t.data.toList.drop s).length := by
    rw [List.length_drop, ← Lib.size_eq]; omega
  have hg : (t.data.toList.drop s)[k - s] = 46 := by
    rw [List.getElem_drop]
    have e : s + (k - s) = k := by omega
    simp only [e]
    exact hc
  obtain ⟨e1, e2⟩ := Pl.cut_hit _ _ hl h6 hg
  rw [List.drop_drop] at e2
  rw [show s + (k - s + 1) = k + 1 by omega] at e2
  rw [Pl.pieces_cut _ (by intro e; rw [e] at hl; cases hl), ← e1, ← e2]
theorem rest_last {t : ByteArray} {s k : Nat} (hs : s < t.size) (hk : ¬ k < t.size) (h6 : ((t.data.toList.drop s).take (k - s)).all (· != 46) = true) : Pl.pieces (t.data.toList.drop s) = [t.data.toList.drop s] := by
  rw [List.take_of_length_le (by rw [List.length_drop, ← Lib.size_eq]; omega)] at h6
  have hne : t.data.toList.drop s ≠ [] := by
    intro e
    have := congrArg List.length e
    rw [List.length_drop, ← Lib.size_eq] at this
    simp at this
    omega
  obtain ⟨e1, e2⟩ := Pl.cut_miss _ h6
  rw [Pl.pieces_cut _ hne, ← e1, ← e2]
  rfl

theorem seq_far {w wr w1 : World} {v : Value} {Q : List (ByteArray × Bool)} {o : Obj} {b k : Nat} {u : Value} (h : SeqOwn w wr v Q) (hb : b < w.heap.size) (hg : (wr.alloc o).drew.grownBy w1 v.ownBlock)
    (hc : wr.cell? ⟨b, k, none⟩ = some u) : w1.cell? ⟨b, k, none⟩ = some u := by
  have hsz : w.heap.size ≤ wr.heap.size := h.2.size
  rw [hg.cell_far ⟨b, k, none⟩ (by simp [World.drew]; omega) (fun e => by have := (h.1.lt b e.symm).1; omega)]
  show (wr.alloc o).cell? _ = _
  rw [World.cell?_alloc_lt _ _ _ (by show b < wr.heap.size; omega)]
  exact hc

def SeqPost (w : World) (M : List Pl.Part) (e : Ending) (w' : World) : Prop := ∃ v Q, e = .returned v ∧ SeqOwn w w' v Q ∧ lp Q = M
theorem own_piece {w wr w2 : World} {v : Value} {Q : List (ByteArray × Bool)} (h : SeqOwn w wr v Q) (hb : Below wr.heap.size wr w2) : SeqOwn w w2 v Q := ⟨own_below h.1 hb, h.2.trans (hb.mono h.2.size)⟩
theorem ext_data (t : ByteArray) (s k : Nat) : (t.extract s k).data.toList = (t.data.toList.drop s).take (k - s) := Lib.extract_data t s k

set_option maxHeartbeats 1000000 in
theorem modelSeq_any (w : World) (pa : Option Addr) (c : Nat) (L : List (ByteArray × Bool)) (t : ByteArray) (r : Bool) (hP : PartsAt w pa c L) (hn : L.length ≤ 65536) (ht : t.size ≤ 1048576) :
    Calls Tryd.prog 13 #[.slice pa L.length c, .string t, .bool r] w (SeqPost w (Pl.seqM r (lp L) t.data.toList)) := by
  obtain ⟨i0, hi, hzz⟩ := Option.map_eq_some_iff.1 info54
  simp only [Prod.mk.injEq] at hzz
  obtain ⟨hz0, hz1, hz2⟩ := hzz
  have HI : Hid (Tryd.prog.info? 54 = some i0 ∧ i0.zero = some (.agg #[.string ⟨#[]⟩, .bool false]) ∧ i0.size = 2 ∧ i0.bytes = 24) := ⟨hi, hz0, hz1, hz2⟩
  clear hi hz0 hz1 hz2
  go_enter Tryd.func13, Tryd.ntmps13
  go_wp2
  go_loopw [7, 8] (fun v i wr => ∃ k : Nat, k ≤ L.length ∧ i = .int .i64 k ∧ Hid (SeqOwn w wr v (L.take k))) (fun _ i _ => L.length - (intOf i).toNat)
  case atStart => exact ⟨0, Nat.zero_le _, rfl, World.ownsRow_nil _ _ _ _, Below.refl _ _⟩
  case round =>
    obtain ⟨k, hk, rfl, hown⟩ := hrel
    by_cases hlt : k < L.length
    · obtain ⟨b, o, x, y, hx, rfl, e0, e1⟩ := (hP.below hown.out.2).at hlt
      have HX : Hid (L[k]? = some (x, y)) := hx
      have hb := World.block_lt_of_cell? _ _ e0
      simp only at hb
      have hblow : b < w.heap.size := by
        obtain ⟨b', o', x', y', _, hb', c0, _⟩ := hP.at hlt
        cases hb'
        exact World.block_lt_of_cell? _ _ c0
      clear hx
      have HO : Hid ((wr.alloc (.cells #[.string x, .bool y] 54)).drew.ownsRow w.heap.size 54 2 u7 k (flat (L.take k))) := by
        have h := (hown.out.1.alloc (.cells #[.string x, .bool y] 54)).drew
        rw [List.length_take, Nat.min_eq_left hk] at h
        exact h
      have HN : Hid (∀ j u, ([.string x, .bool y] : List Value)[j]? = some u → (wr.alloc (.cells #[.string x, .bool y] 54)).drew.cell? ((⟨wr.heap.size, 0, none⟩ : Addr).add j) = some u) :=
        World.news_of_block (cs := #[.string x, .bool y]) (t := 54) (fr := (0, 0)) (by show (wr.heap.push _)[wr.heap.size]? = some _; simp)
      have H1 : Hid (∀ u ∈ ([.string x, .bool y] : List Value), u.oneCell' = true) := by
        intro u hu
        simp at hu
        rcases hu with rfl | rfl <;> rfl
      have hbase : w.heap.size ≤ wr.heap.size := hown.out.2.size
      go_wp2_with fail
      go_region_held3 (fun w' => w'.cell? ⟨b, o + k * 2, none⟩ = some (.string x) ∧ w'.cell? ⟨b, o + k * 2 + 1, none⟩ = some (.bool y)) (go_keep)
        (first | (refine step_append_lies _ rfl (.tmp 17) (.tmp 29) 33 rfl w.heap.size 54 i0 (.agg #[.string ⟨#[]⟩, .bool false]) 2 24 Tryd.underlying33 HI.out.1 HI.out.2.1 HI.out.2.2.1 HI.out.2.2.2 rfl (by decide) u7 k (flat (L.take k)) rfl HO.out ⟨wr.heap.size, 0, none⟩ 1 1 [.string x, .bool y] rfl rfl HN.out H1.out (by decide) (by unfold maxLen; omega) (by omega) (by simp; omega) _ rfl ?_; intro g cap w1 hown1 hgrow hat hlt1; have HW1 : Hid (w1.ownsRow w.heap.size 54 2 (.slice (some ⟨g, 0, none⟩) (k + 1) cap) (k + 1) (flat (L.take k) ++ [.string x, .bool y]) ∧ (wr.alloc (.cells #[.string x, .bool y] 54)).drew.grownBy w1 u7.ownBlock) := ⟨hown1, hgrow⟩; have z0 := seq_far hown.out hblow hgrow e0; have z1 := seq_far hown.out hblow hgrow e1; clear hown1 hgrow hat))
      go_wp2_with fail
      go_roundw
      case rel => exact ⟨k + 1, by omega, by go_num, by
        have h := SeqOwn.step (n := 1) hown.out (g := g) (cap := cap) (x := x) (y := y) (o := .cells #[.string x, .bool y] 54) (w1 := w1) (by rw [List.length_take, Nat.min_eq_left hk]; exact HW1.out.1) HW1.out.2
        rw [List.length_take, Nat.min_eq_left hk] at h
        show SeqOwn w w1 _ (L.take (k + 1))
        rw [List.take_add_one, HX.out]
        exact h⟩
      case measure => simp [intOf]; omega
    · have hst : SeqRest w L t r 0 0 u7 wr := by
        have h := hown.out
        rw [List.take_of_length_le (by omega)] at h
        exact ⟨L, h, Nat.le_refl _, Nat.zero_le _, by omega, rfl, rfl⟩
      have HST : Hid (SeqRest w L t r 0 0 u7 wr) := hst
      clear hst hown
      go_wp2_with fail
      go_loopw [7, 9, 10] (fun v a i wr => ∃ s k : Nat, a = .int .i64 s ∧ i = .int .i64 k ∧ s ≤ k ∧ k ≤ t.size ∧ Hid (SeqRest w L t r s k v wr)) (fun _ _ i _ => t.size - (intOf i).toNat)
      case atStart => exact ⟨0, 0, rfl, rfl, Nat.le_refl _, Nat.zero_le _, HST⟩
      case round =>
        clear HST
        obtain ⟨s, k, rfl, rfl, hsk, hkt, hrest⟩ := hrel
        by_cases hlt : k < t.size
        · by_cases hc : t[k] = 46
          · have hb : ((t[k].toNat : Int) == 46) = true := by rw [hc]; rfl
            have HC : Hid (t[k] = 46) := hc
            clear hc
            obtain ⟨Q, hQ, _, _, hQl, hQe, h6⟩ := hrest.out
            have hcut := rest_cut hsk hlt HC.out h6
            rw [hcut, List.map_cons, ← ext_data] at hQe
            have hp25 := fun W => piece_any (t.extract s k) r W (by rw [Lib.size_eq, ext_data]; have := List.length_take_le (k - s) (t.data.toList.drop s); unfold maxLen; omega)
            generalize hd : (r || Pl.allDig (t.extract s k).data.toList) = d at hp25 hQe
            have HQe : Hid (lp Q ++ ((t.extract s k).data.toList, d) :: (Pl.pieces (t.data.toList.drop (k + 1))).map (fun p => (p, r || Pl.allDig p)) = Pl.seqM r (lp L) t.data.toList) := hQe
            clear hcut h6 hQe hrest
            go_wp2_with fail
            refine (hp25 _).mono ?_
            rintro e w2 ⟨rfl, hb2⟩
            clear hp25
            have HO : Hid ((w2.alloc (.cells #[.string (t.extract s k), .bool d] 54)).ownsRow w.heap.size 54 2 u7 Q.length (flat Q)) := (own_piece hQ hb2).1.alloc _
            have HNW : Hid (∀ j u, ([.string (t.extract s k), .bool d] : List Value)[j]? = some u → (w2.alloc (.cells #[.string (t.extract s k), .bool d] 54)).cell? ((⟨w2.heap.size, 0, none⟩ : Addr).add j) = some u) :=
              World.news_of_block (cs := #[.string (t.extract s k), .bool d]) (t := 54) (fr := (0, 0)) (by show (w2.heap.push _)[w2.heap.size]? = some _; simp)
            have H1 : Hid (∀ u ∈ ([.string (t.extract s k), .bool d] : List Value), u.oneCell' = true) := by
              intro u hu
              simp at hu
              rcases hu with rfl | rfl <;> rfl
            have HQ2 : Hid (SeqOwn w w2 u7 Q) := own_piece hQ hb2
            have hbase : w.heap.size ≤ w2.heap.size := HQ2.out.2.size
            clear hQ hb2 hd
            go_wp2_with (at_builtin; refine wpList_append_lies _ rfl (.tmp 41) (.tmp 48) 33 rfl w.heap.size 54 i0 (.agg #[.string ⟨#[]⟩, .bool false]) 2 24 Tryd.underlying33 HI.out.1 HI.out.2.1 HI.out.2.2.1 HI.out.2.2.2 rfl (by decide) u7 Q.length (flat Q) rfl HO.out ⟨w2.heap.size, 0, none⟩ 1 1 [.string (t.extract s k), .bool d] rfl rfl HNW.out H1.out (by decide) (by unfold maxLen; omega) (by omega) (by simp; omega) _ rfl ?_; intro g cap w1 hown1 hgrow hat hlt1; have HW1 : Hid (w1.ownsRow w.heap.size 54 2 (.slice (some ⟨g, 0, none⟩) (Q.length + 1) cap) (Q.length + 1) (flat Q ++ [.string (t.extract s k), .bool d]) ∧ (w2.alloc (.cells #[.string (t.extract s k), .bool d] 54)).grownBy w1 u7.ownBlock) := ⟨hown1, hgrow⟩; clear hown1 hgrow hat)
            have hS := SeqOwn.step (n := 0) HQ2.out (g := g) (cap := cap) (x := (t.extract s k)) (y := d) (o := .cells #[.string (t.extract s k), .bool d] 54) (w1 := w1) HW1.out.1 HW1.out.2
            go_roundw
            case rel => exact ⟨k + 1, k + 1, by go_num, by go_num, Nat.le_refl _, by omega, Q ++ [(t.extract s k, d)], by simpa using hS, Nat.le_refl _, by omega, by simp; omega, by
              have h := HQe.out
              simp only [lp, List.map_append, List.map_cons, List.map_nil, List.append_assoc, List.singleton_append] at h ⊢
              exact h, by simp⟩
            case measure => simp [intOf]; omega
          · have hb : ((t[k].toNat : Int) == 46) = false := by
              rw [Bool.eq_false_iff]; exact fun h => hc ((byte_eq _ 46 (by decide)).1 h)
            have HN : Hid (SeqRest w L t r s (k + 1) u7 wr) := rest_next hrest.out hlt hc
            clear hc
            go_wp2_with fail
            go_roundw
            case rel => exact ⟨s, k + 1, rfl, by go_num, by omega, by omega, HN⟩
            case measure => simp [intOf]; omega
        · obtain ⟨Q, hQ, _, _, hQl, hQe, h6⟩ := hrest.out
          by_cases hs : s < t.size
          · rw [rest_last hs hlt h6] at hQe
            have hex : (t.extract s t.size).data.toList = t.data.toList.drop s := Lib.extract_to_end t s
            rw [← hex] at hQe
            have hp25 := fun W => piece_any (t.extract s t.size) r W (by rw [Lib.size_eq, hex, List.length_drop, ← Lib.size_eq]; unfold maxLen; omega)
            rw [List.map_cons, List.map_nil] at hQe
            generalize hd : (r || Pl.allDig (t.extract s t.size).data.toList) = d at hp25 hQe
            have HQe : Hid (lp Q ++ [((t.extract s t.size).data.toList, d)] = Pl.seqM r (lp L) t.data.toList) := hQe
            clear hex h6 hQe hrest
            go_wp2_with fail
            refine (hp25 _).mono ?_
            rintro e w2 ⟨rfl, hb2⟩
            clear hp25
            have HO : Hid ((w2.alloc (.cells #[.string (t.extract s t.size), .bool d] 54)).ownsRow w.heap.size 54 2 u7 Q.length (flat Q)) := (own_piece hQ hb2).1.alloc _
            have HNW : Hid (∀ j u, ([.string (t.extract s t.size), .bool d] : List Value)[j]? = some u → (w2.alloc (.cells #[.string (t.extract s t.size), .bool d] 54)).cell? ((⟨w2.heap.size, 0, none⟩ : Addr).add j) = some u) :=
              World.news_of_block (cs := #[.string (t.extract s t.size), .bool d]) (t := 54) (fr := (0, 0)) (by show (w2.heap.push _)[w2.heap.size]? = some _; simp)
            have H1 : Hid (∀ u ∈ ([.string (t.extract s t.size), .bool d] : List Value), u.oneCell' = true) := by
              intro u hu
              simp at hu
              rcases hu with rfl | rfl <;> rfl
            have HQ2 : Hid (SeqOwn w w2 u7 Q) := own_piece hQ hb2
            have hbase : w.heap.size ≤ w2.heap.size := HQ2.out.2.size
            clear hQ hb2 hd
            go_wp2_with (at_builtin; refine wpList_append_lies _ rfl (.tmp 56) (.tmp 62) 33 rfl w.heap.size 54 i0 (.agg #[.string ⟨#[]⟩, .bool false]) 2 24 Tryd.underlying33 HI.out.1 HI.out.2.1 HI.out.2.2.1 HI.out.2.2.2 rfl (by decide) u7 Q.length (flat Q) rfl HO.out ⟨w2.heap.size, 0, none⟩ 1 1 [.string (t.extract s t.size), .bool d] rfl rfl HNW.out H1.out (by decide) (by unfold maxLen; omega) (by omega) (by simp; omega) _ rfl ?_; intro g cap w1 hown1 hgrow hat hlt1; have HW1 : Hid (w1.ownsRow w.heap.size 54 2 (.slice (some ⟨g, 0, none⟩) (Q.length + 1) cap) (Q.length + 1) (flat Q ++ [.string (t.extract s t.size), .bool d]) ∧ (w2.alloc (.cells #[.string (t.extract s t.size), .bool d] 54)).grownBy w1 u7.ownBlock) := ⟨hown1, hgrow⟩; clear hown1 hgrow hat)
            have hS := SeqOwn.step (n := 0) HQ2.out (g := g) (cap := cap) (x := (t.extract s t.size)) (y := d) (o := .cells #[.string (t.extract s t.size), .bool d] 54) (w1 := w1) HW1.out.1 HW1.out.2
            go_ret
            exact ⟨_, Q ++ [(t.extract s t.size, d)], rfl, by simpa using hS, by rw [← HQe.out]; simp [lp]⟩
          · have e : t.data.toList.drop s = [] := List.drop_eq_nil_of_le (by rw [← Lib.size_eq]; omega)
            rw [e] at hQe
            have HQe : Hid (lp Q = Pl.seqM r (lp L) t.data.toList) := by
              show lp Q = _
              rw [← hQe]
              simp [Pl.pieces]
            have HQ : Hid (SeqOwn w wr u7 Q) := hQ
            clear e hQe hQ h6 hrest
            go_wp2_with fail
            go_ret
            exact ⟨_, Q, rfl, HQ.out, HQe.out⟩
end Go.Proofs.Qxb6604528aDoor
