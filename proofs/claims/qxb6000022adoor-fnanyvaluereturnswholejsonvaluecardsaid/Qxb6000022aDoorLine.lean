import Derived.Test.Qxb6000022aDoorAval
import Derived.Deep.OwnRows
import Derived.Laws.AppendOwnNone
import Derived.OwnWalk
set_option linter.unusedSimpArgs false
set_option linter.unusedVariables false
namespace Go.Proofs.Qxb6000022aDoor
open Go.RowKit

def enc (x : UInt8) : Value := .int .u8 (x.toNat : Int)

/-- The line that the law builds, behind the world wm. -/
def LineRel (wm : World) (pb : Option Addr) (cb : Nat) (w : World) (L : List UInt8) : Prop :=
  w.ownsRow wm.heap.size 5 1 (.slice pb L.length cb) L.length (L.map enc) ∧ Below wm.heap.size wm w

theorem own_below {w w' : World} {B e size n : Nat} {v : Value} {xs : List Value} (h : w.ownsRow B e size v n xs) (hb : Below w.heap.size w w') : w'.ownsRow B e size v n xs := by
  refine ⟨h.1, ?_⟩
  rcases h.2 with h | ⟨g, cap, cur, h1, h2, h3, h4⟩
  · exact .inl h
  · have hlt : g < w.heap.size := by
      rcases Nat.lt_or_ge g w.heap.size with hlt | hge
      · exact hlt
      · rw [Array.getElem?_eq_none hge] at h3; cases h3
    exact .inr ⟨g, cap, cur, h1, h2, (hb.block g hlt).trans h3, h4⟩

theorem own_form {w : World} {B n : Nat} {v : Value} {xs : List Value} (h : w.ownsRow B 5 1 v n xs) : ∃ pb cb, v = .slice pb n cb := by
  rcases h.2 with ⟨h1, h2⟩ | ⟨g, cap, cur, h1, _⟩
  · exact ⟨none, 0, by rw [h1, h2]⟩
  · exact ⟨_, _, h1⟩

theorem LineRel.bytes {wm w : World} {pb : Option Addr} {cb : Nat} {L : List UInt8} (h : LineRel wm pb cb w L) : BytesAt w pb cb L := by
  obtain ⟨⟨h1, h2⟩, h3⟩ := h
  rcases h2 with ⟨e, hn⟩ | ⟨g, cap, cur, e, hb, hg, hnc, hcm, hcs, hx⟩
  · injection e with e1 e2 e3
    subst e1 e3
    exact ⟨by omega, Nat.zero_le _, fun hL => absurd (List.length_eq_zero_iff.1 hn) hL⟩
  · injection e with e1 e2 e3
    subst e1 e3
    refine ⟨hnc, hcm, fun hL => ⟨g, 0, rfl, ?_, fun i x hi => ?_⟩⟩
    · rcases Nat.lt_or_ge g w.heap.size with hlt | hge
      · exact hlt
      · rw [Array.getElem?_eq_none hge] at hg; cases hg
    · have hlt : i < L.length := (List.getElem?_eq_some_iff.1 hi).1
      have : (L.map enc)[i]? = some (enc x) := by rw [List.getElem?_map, hi]; rfl
      rw [← hx, List.getElem?_take, if_pos (by omega)] at this
      simp only [World.cell?, hg]
      simpa [enc] using this

theorem LineRel.alloc {wm w : World} {pb : Option Addr} {cb : Nat} {L : List UInt8} (h : LineRel wm pb cb w L) (o : Obj) : LineRel wm pb cb (w.alloc o) L :=
  ⟨h.1.alloc o, h.2.alloc h.2.size o⟩
theorem LineRel.below {wm w w' : World} {pb : Option Addr} {cb : Nat} {L : List UInt8} (h : LineRel wm pb cb w L) (hb : Below w.heap.size w w') : LineRel wm pb cb w' L :=
  ⟨own_below h.1 hb, h.2.trans (hb.mono h.2.size)⟩

theorem news_of {w : World} {a : Addr} {c : Nat} {l : List UInt8} (h : BytesAt w (some a) c l) (hn : l ≠ [] → a.spot = none) : ∀ j u, (l.map enc)[j]? = some u → w.cell? (a.add j) = some u := by
  intro j u hu
  rw [List.getElem?_map, Option.map_eq_some_iff] at hu
  obtain ⟨x, hx, rfl⟩ := hu
  have hne : l ≠ [] := by rintro rfl; cases hx
  obtain ⟨b, o, e, hlt, hc⟩ := h.2.2 hne
  cases e
  rw [addr_add]
  exact hc j x hx

theorem wpList_append_line {ops : Array Oper} {rest : List Oper} {o : Oper} {a : Act} {Q : Exit → Act → World → Prop} (w : World) (hgd : o.guard = none) (s x : Operand)
    (ho : o.op = .call { callee := .builtin .append, args := #[s, x], argTypes := #[22, 22] })
    (wm : World) (pb : Option Addr) (cb : Nat) (L : List UInt8) (hs : a.eval s = .slice pb L.length cb) (hrel : LineRel wm pb cb w L)
    (pa : Option Addr) (c : Nat) (l : List UInt8) (hx : a.eval x = .slice pa l.length c) (hl : BytesAt w pa c l) (hpa : pa = none → l = [] ∧ c = 0) (hb : L.length + l.length ≤ 16777216)
    (h : ∀ pb' cb' w', LineRel wm pb' cb' w' (L ++ l) → wpList Tryd.prog ops Q rest (a.put o.dst (.slice pb' (L.length + l.length) cb')) w') : wpList Tryd.prog ops Q (o :: rest) a w := by
  obtain ⟨i, hi, hzz⟩ := Option.map_eq_some_iff.1 info5
  simp only [Prod.mk.injEq] at hzz
  obtain ⟨hz, hsz, hby⟩ := hzz
  cases pa with
  | none =>
    obtain ⟨rfl, rfl⟩ := hpa rfl
    refine wpList_append_own_none hgd s x 22 ho wm.heap.size 5 i 1 Tryd.underlying22 hi _ L.length (L.map enc) hs hrel.1 hx ?_
    have := h pb cb w (by rw [List.append_nil]; exact hrel)
    simpa using this
  | some ad =>
    refine wpList_append_own w hgd s x 22 ho wm.heap.size 5 i (.int .u8 0) 1 1 Tryd.underlying22 hi hz hsz hby rfl (by decide) _ L.length (L.map enc) hs hrel.1 ad l.length c (l.map enc) hx (by simp) (news_of hl ?_) ?_ (by unfold maxLen; omega) (by omega) hrel.2.size ?_
    · intro hne
      obtain ⟨b, o, e, _⟩ := hl.2.2 hne
      cases e; rfl
    · intro u hu
      obtain ⟨y, _, rfl⟩ := List.mem_map.1 hu
      rfl
    · intro v' w' hown hg _
      obtain ⟨pb', cb', rfl⟩ := own_form hown
      refine h pb' cb' w' ⟨?_, ?_⟩
      · rw [List.map_append, List.length_append]; exact hown
      · exact hrel.2.grown hg hrel.2.size (fun k hk => (hrel.1.lt k hk).1)

theorem line_made {wm w' : World} {n : Nat} (h : w'.ownsRow wm.heap.size 5 1 (.slice (some ⟨wm.heap.size, 0, none⟩) 0 n) 0 []) (hg : wm.grownBy w' none) : LineRel wm (some ⟨wm.heap.size, 0, none⟩) n w' [] :=
  ⟨h, (Below.refl _ _).grown hg (Nat.le_refl _) (fun k hk => by cases hk)⟩
theorem line_one {wm w : World} {pb : Option Addr} {cb : Nat} {L : List UInt8} (h : LineRel wm pb cb w L) (d : UInt8) : BytesAt (w.alloc (.cells #[.int .u8 (d.toNat : Int)] 5)) (some ⟨w.heap.size, 0, none⟩) 1 [d] := by
  refine ⟨Nat.le_refl _, by decide, fun _ => ⟨w.heap.size, 0, rfl, by simp, fun i x hx => ?_⟩⟩
  cases i with
  | zero => cases hx; go_simp
  | succ i => cases hx

set_option maxHeartbeats 400000 in
/-- The bound on the bytes: some answer. -/
theorem bytes11_any (w : World) (p1 p2 p3 : Option Addr) (c1 c2 c3 n1 n2 n3 : Nat) (d : UInt8) (h1 : n1 ≤ maxLen) (h2 : n2 ≤ maxLen) (h3 : n3 ≤ maxLen) :
    Calls Tryd.prog 11 #[.slice p1 n1 c1, .slice p2 n2 c2, .int .u8 (d.toNat : Int), .slice p3 n3 c3] w fun e w' => (∃ v : Bool, e = .returned (.bool v) ∧ SameW w w') := by
  unfold maxLen at h1 h2 h3
  go_enter Tryd.func11, Tryd.ntmps11
  go_wp2
  all_goals
    go_ret
    exact ⟨_, rfl, rfl⟩
end Go.Proofs.Qxb6000022aDoor
