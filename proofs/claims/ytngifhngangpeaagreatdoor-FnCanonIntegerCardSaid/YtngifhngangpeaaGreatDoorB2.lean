/- strings.Builder, not read yet: WriteByte, with the row that it keeps apart from. -/
import Derived.Test.YtngifhngangpeaaGreatDoorB1
import Derived.Maps.AppendAt
open Go Go.RowKit
namespace Go.Proofs.YtngifhngangpeaaGreatDoor

/-- The block of a Builder's buffer. -/
def bRow (w : World) (b : Nat) : Option Nat := match w.heap[b]? with
  | some (.cells c _ _) => (c.getD 1 undef).ownBlock
  | _ => none
/-- A Builder that was not read. -/
def PB (R b : Nat) (l : List UInt8) (w : World) : Prop :=
  ∃ p v, w.heap[b]? = some (.cells #[p, v] 123 (0, 0)) ∧ (p = .pointer none ∨ p = .pointer (some ⟨b, 0, none⟩)) ∧
    w.ownsRow R 5 1 v l.length (Lib.byteCells l) ∧ v.ownBlock ≠ some b ∧ R ≤ w.heap.size
theorem PB.to {R b : Nat} {l : List UInt8} {w : World} (h : PB R b l w) : SB R b l w := by
  obtain ⟨p, v, h1, h2, h3, h4, h5⟩ := h
  exact ⟨p, v, h1, h2, World.ownsRowF_of h3, h4, h5⟩
theorem PB.new {R b : Nat} {w : World} (hb : w.heap[b]? = some (.cells #[.pointer none, .slice none 0 0] 123 (0, 0))) (hR : R ≤ w.heap.size) : PB R b [] w :=
  ⟨_, _, hb, Or.inl rfl, ⟨by simp [Lib.byteCells], .inl ⟨rfl, rfl⟩⟩, by simp [Value.ownBlock], hR⟩
/-- The blocks that a Builder's writing keeps. -/
def Kp (b : Nat) (w w' : World) : Prop := w.heap.size ≤ w'.heap.size ∧ ∀ X, X < w.heap.size → X ≠ b → bRow w b ≠ some X → w'.heap[X]? = w.heap[X]? ∧ bRow w' b ≠ some X
theorem Kp.trans {b : Nat} {w w1 w2 : World} (h : Kp b w w1) (k : Kp b w1 w2) : Kp b w w2 :=
  ⟨Nat.le_trans h.1 k.1, fun X hX hb hr => by
    obtain ⟨h1, h2⟩ := h.2 X hX hb hr
    obtain ⟨k1, k2⟩ := k.2 X (Nat.lt_of_lt_of_le hX h.1) hb h2
    exact ⟨k1.trans h1, k2⟩⟩
theorem Kp.refl (b : Nat) (w : World) : Kp b w w := ⟨Nat.le_refl _, fun _ _ _ h => ⟨rfl, h⟩⟩
/-- A Builder that is used and was not read. -/
def PBU (R b : Nat) (v : Value) (l : List UInt8) (w : World) : Prop :=
  w.heap[b]? = some (.cells #[.pointer (some ⟨b, 0, none⟩), v] 123 (0, 0)) ∧ w.ownsRow R 5 1 v l.length (Lib.byteCells l) ∧ v.ownBlock ≠ some b ∧ R ≤ w.heap.size
theorem ownsRow_same {w w' : World} {R : Nat} {e : TypeId} {v : Value} {n : Nat} {xs : List Value} (h : w.ownsRow R e 1 v n xs) (hs : ∀ k, v.ownBlock = some k → w'.heap[k]? = w.heap[k]?) : w'.ownsRow R e 1 v n xs := by
  refine ⟨h.1, ?_⟩
  rcases h.2 with hn | ⟨g, cap, cur, rfl, hb, hg, rest⟩
  · exact .inl hn
  · exact .inr ⟨g, cap, cur, rfl, hb, by rw [hs g rfl]; exact hg, rest⟩
theorem PBU.sbu {R b : Nat} {v : Value} {l : List UInt8} {w : World} (h : PBU R b v l w) : SBU R b v l w := ⟨h.1, World.ownsRowF_of h.2.1, h.2.2.1, h.2.2.2⟩
theorem bRow_of {w : World} {b : Nat} {p v : Value} {T : TypeId} {f : Nat × Nat} (h : w.heap[b]? = some (.cells #[p, v] T f)) : bRow w b = v.ownBlock := by simp [bRow, h]
theorem copyCheck_pb {R b : Nat} {l : List UInt8} {w : World} (h : PB R b l w) :
    Calls Tryz.prog 85 #[.pointer (some ⟨b, 0, none⟩)] w fun e w' => e = .returned (.tuple #[]) ∧ FrR R b w w' ∧ Kp b w w' ∧ ∃ v, PBU R b v l w' := by
  obtain ⟨p, v, hb, hp, hown, hne, hR⟩ := h
  rcases hp with rfl | rfl
  · refine (copyCheck_new b v w hb).mono ?_
    rintro e w' ⟨rfl, rfl⟩
    have hb' : (w.setCell ⟨b, 0, none⟩ (.pointer (some ⟨b, 0, none⟩))).heap[b]? = some (.cells #[.pointer (some ⟨b, 0, none⟩), v] 123 (0, 0)) := by
      simp [World.setCell, Array.getElem?_modify, hb]
    refine ⟨rfl, (FrR.refl R b w).setCell (p := ⟨b, 0, none⟩) (Or.inl rfl) _, ⟨by rw [World.size_setCell']; exact Nat.le_refl _, fun X hX hXb hr => ⟨Below.heap_setCell _ _ _ _ hXb, ?_⟩⟩, v, hb', ownsRow_same hown (fun k e => ?_), hne, by rw [World.size_setCell']; exact hR⟩
    · rw [bRow_of hb']; rw [bRow_of hb] at hr; exact hr
    · exact Below.heap_setCell _ _ _ _ (by intro e2; exact hne (by rw [e, e2]))
  · refine (copyCheck_used b v w hb).mono ?_
    rintro e w' ⟨rfl, rfl⟩
    exact ⟨rfl, FrR.refl _ _ _, Kp.refl _ _, v, hb, hown, hne, hR⟩

theorem PB.lt {R b : Nat} {l : List UInt8} {w : World} (h : PB R b l w) : b < w.heap.size := h.to.lt
theorem PB.below {R b : Nat} {l : List UInt8} {w w' : World} (h : PB R b l w) (hb : Below w.heap.size w w') : PB R b l w' := by
  have hlt := h.lt
  obtain ⟨p, v, h1, h2, h3, h4, h5⟩ := h
  refine ⟨p, v, by rw [hb.block b hlt]; exact h1, h2, ownsRow_same h3 (fun k e => hb.block k ?_), h4, Nat.le_trans h5 hb.size⟩
  exact ((World.ownsRowF_of h3).lt k e).2
theorem Kp.below {b : Nat} {w w' : World} (hl : b < w.heap.size) (hb : Below w.heap.size w w') : Kp b w w' :=
  ⟨hb.size, fun X hX _ hr => ⟨hb.block X hX, by unfold bRow at *; rw [hb.block b hl]; exact hr⟩⟩
theorem PB.rowlt {R b : Nat} {l : List UInt8} {w : World} (h : PB R b l w) (X : Nat) (hX : w.heap.size ≤ X) : bRow w b ≠ some X := by
  obtain ⟨p, v, h1, h2, h3, h4, h5⟩ := h
  rw [bRow_of h1]
  intro e
  have := ((World.ownsRowF_of h3).lt X e).2
  omega

set_option maxRecDepth 100000 in
set_option maxHeartbeats 1000000 in
theorem writeByte_pb {R b : Nat} {l : List UInt8} {w : World} (c : UInt8) (h : PB R b l w) (hlen : l.length + 1 ≤ 140737488355328) :
    Calls Tryz.prog 99 #[.pointer (some ⟨b, 0, none⟩), .int .u8 c.toNat] w fun e w' => e = .returned .nilIface ∧ FrR R b w w' ∧ Kp b w w' ∧ PB R b (l ++ [c]) w' := by
  obtain ⟨i0, hi, hz0, hz1, hz2⟩ := info_parts info_u8
  go_enter Tryz.func99, Tryz.ntmps99
  go_wp2_with (go_at_call 85; refine (copyCheck_pb h).mono ?_)
  rintro e w1 ⟨rfl, hf1, hk1, v, hS⟩
  have hSS := Lib.hid hS
  obtain ⟨hbk, hown, hne, hR⟩ := hS
  have c1 : w1.cell? ⟨b, 1, none⟩ = some v := by simp [World.cell?, hbk]
  clear hbk hne
  go_wp2_with (at_builtin; refine wpList_append_own_at _ rfl _ _ 22 rfl R 5 i0 (.int .u8 0) 1 1 Tryz.underlying22 hi hz0 hz1 hz2 rfl (by decide) _ _ _ rfl (hown.alloc _) ⟨w1.heap.size, 0, none⟩ 1 1 [.int .u8 c.toNat] rfl rfl ?c1 ?c2 ?c3 ?c4 ?c5 ?_)
  case c1 =>
    intro j u hj
    match j, hj with
    | 0, hj => simp at hj; subst hj; simp [Addr.add]
  case c2 => intro u hu; simp at hu; subst hu; rfl
  case c3 => unfold maxLen; omega
  case c4 => omega
  case c5 => simp; omega
  intro v' w2 hown' hgrow _ hat
  have hA := hSS.out.sbu.app (l' := l ++ [c]) (Or.inr ⟨_, hgrow⟩) (by rw [byteCells_append, List.length_append]; exact World.ownsRowF_of hown')
  have f1 : w2.frozen? ⟨b, 1, none⟩ = false := by simp [World.frozen?, hA.heap]
  have d1 : w2.cell? ⟨b, 1, none⟩ = some v := by simp [World.cell?, hA.heap]
  have hb3 : (w2.setCell ⟨b, 1, none⟩ v').heap[b]? = some (.cells #[.pointer (some ⟨b, 0, none⟩), v'] 123 (0, 0)) := by
    simp [World.setCell, Array.getElem?_modify, hA.heap]
  have hne' : v'.ownBlock ≠ some b := by
    intro e
    rcases hown'.2 with ⟨e2, _⟩ | ⟨g, cap, cur, e2, _, hg, _⟩
    · rw [e2] at e; cases e
    · rw [e2] at e; cases e; rw [hA.heap] at hg; cases hg
  have hP : PB R b (l ++ [c]) (w2.setCell ⟨b, 1, none⟩ v') := by
    refine ⟨_, v', hb3, Or.inr rfl, ownsRow_same (by rw [byteCells_append, List.length_append]; exact hown') (fun k e => ?_), hne', ?_⟩
    · exact Below.heap_setCell _ _ _ _ (by intro e2; exact hne' (by rw [e, e2]))
    · rw [World.size_setCell']; exact Nat.le_trans hR hA.fr.size
  have hK : Kp b w1 (w2.setCell ⟨b, 1, none⟩ v') := by
    refine ⟨by rw [World.size_setCell']; exact hA.fr.size, fun X hX hXb hr => ⟨?_, ?_⟩⟩
    · rw [Below.heap_setCell _ _ _ _ (by exact hXb)]
      rw [bRow_of hSS.out.1] at hr
      rw [hgrow.block X (by simp; omega) (fun e => hr e.symm), Below.heap_alloc w1 _ X hX]
    · rw [bRow_of hb3]
      rw [bRow_of hSS.out.1] at hr
      rcases hat with e | e
      · rw [e]; exact hr
      · rw [e]; simp; omega
  obtain ⟨_, _, hout, a, n, cp, rfl⟩ := hA
  clear hown' hgrow hown hSS hat hb3 hne'
  have HK := Lib.hid (hk1.trans hK)
  have HP := Lib.hid hP
  clear hk1 hK hP
  go_wp2
  go_ret
  exact ⟨rfl, hf1.trans hout.1, HK.out, HP.out⟩
end Go.Proofs.YtngifhngangpeaaGreatDoor
