/- Hashes.Equal: a range over a map of sums. -/
import Derived.Test.YthafpdceknleiaaGreatDoorH2
import Derived.Sort.KeysCollected
open Go Go.RowKit Go.Maps
namespace Go.Proofs.YthafpdceknleiaaGreatDoor
/-- The step of a range over a map of sums. -/
theorem wpList_next_ss (w : World) {ops : Array Oper} {rest : List Oper} {o : Oper} {a : Act} {Q : Exit → Act → World → Prop} (hg : o.guard = none) (it : Operand) (hop : o.op = Op.next it false)
    (b r n : Nat) (D : DataW Value) (left : Go.Lit → Bool) (cnt : Nat) (hit : a.eval it = .pointer (some ⟨r, 0, none⟩)) (h : w.ranges Tryz.prog 9 RV b r n D left cnt)
    (hDone : (∀ kl, left kl = false) → wpList Tryz.prog ops Q rest (a.put o.dst (.tuple #[.bool false])) w)
    (hMore : ∀ (s : ByteArray) (ao : Option Addr) (m c : Nat) (w' : World) (cnt' : Nat), left (.string s.data.toList) = true → (∀ zd, D.atKey (.string s.data.toList) zd = .held (.slice ao m c)) → w'.ranges Tryz.prog 9 RV b r n D (fun z => left z && !z.sameKey (.string s.data.toList)) cnt' → cnt' < cnt →
      s.size ≤ maxLen → w.grownBy w' (some r) → (Instr.entry (.pointer (some ⟨r, 0, none⟩))).run Tryz.prog w' = .ok (.tuple #[.string s, .slice ao m c]) w' → wpList Tryz.prog ops Q rest (a.put o.dst (.tuple #[.bool true, .string s, .slice ao m c])) w') :
    wpList Tryz.prog ops Q (o :: rest) a w :=
  wpList_next_ranges w hg it hop 9 keyed_str RV (fun s : ByteArray => Value.string s) (fun p : Option Addr × Nat × Nat => Value.slice p.1 p.2.1 p.2.2)
    (fun key kl hk => by obtain ⟨x, hx, _⟩ := Maps.keyOf_str Tryz.underlying9 hk; exact ⟨_, hx⟩)
    (fun v y hv => by obtain ⟨a, n, c, rfl, _⟩ := RV_inv hv; exact ⟨(a, n, c), rfl⟩)
    b r n D left cnt hit h (fun _ hl => hDone hl) (fun s p kl y w' cnt' hkey hlk hv hat hrg hlt hgr _ hen => by
      obtain ⟨x, ex, rfl, hxl⟩ := Maps.keyOf_str Tryz.underlying9 hkey
      have e1 : s.data.toList = x := by
        have e0 : s = ⟨x.toArray⟩ := Value.string.inj ex
        rw [e0]
      subst e1
      obtain ⟨a', n', c', e2, e3⟩ := RV_inv hv
      obtain ⟨p1, p2, p3⟩ := p
      injection e2 with e2 e4 e5
      subst e2 e4 e5
      refine hMore s _ _ _ w' cnt' hlk (fun zd => by rw [hat zd, e3]) hrg hlt (by rw [Lib.size_eq]; exact hxl) hgr hen)
/-- A look-up with ok in a map of sums. -/
theorem wpList_lookup_ss (w : World) {ops : Array Oper} {rest : List Oper} {o : Oper} {a : Act} {Q : Exit → Act → World → Prop} (hg : o.guard = none) (m x : Operand) (hop : o.op = Op.lookup 116 m x true)
    (b n : Nat) (D : DataW Value) (hm : a.eval m = .map (some b)) (hown : w.ownsMap Tryz.prog 9 RV b n D) (s : ByteArray) (hx : a.eval x = .string s) (hs : s.size ≤ maxLen)
    (ao : Option Addr) (k c : Nat) (β : Bool) (hat : D.atKey (.string s.data.toList) (.held (.slice none 0 0)) = .held (.slice ao k c)) (hβ : Maps.has D (.string s.data.toList) = β)
    (hK : wpList Tryz.prog ops Q rest (a.put o.dst (.tuple #[.slice ao k c, .bool β])) w) :
    wpList Tryz.prog ops Q (o :: rest) a w :=
  wpList_lookup_own_ok w hg m x 116 hop 9 147 keyed_str Tryz.underlying116 RV (zeroHex w) (.held (.slice none 0 0)) [] rfl b n D hm hown (.string s) (.string s.data.toList) hx (WideMaps.keyOf_string_mk Tryz.underlying9 hs) (fun v ps hv => by
    rw [hat] at hv
    obtain ⟨a', n', c', rfl, e3⟩ := RV_inv hv
    have e4 := congrArg Prod.fst e3
    simp only [DataW.held.injEq] at e4
    rw [← e4, hβ]
    exact hK)
/-- What has been seen of two maps of sums. -/
def HeI (L1 L2 : List (List UInt8 × List UInt8)) (left : Go.Lit → Bool) (β : Bool) : Prop :=
  (β = true ↔ ∃ k x y, lastS L2 k = some x ∧ lastS L1 k = some y ∧ left (.string k) = false) ∧ ∀ k x y, lastS L2 k = some x → lastS L1 k = some y → left (.string k) = false → y = x
theorem left_false {left : Go.Lit → Bool} {s k : List UInt8} : (left (.string k) && !(Go.Lit.string k).sameKey (.string s)) = false ↔ left (.string k) = false ∨ k = s := by
  by_cases h : k = s
  · subst h
    simp [WideAt.sameKey_self (a := Go.Lit.string k) trivial]
  · have : (Go.Lit.string k).sameKey (.string s) = false := Maps.sameKey_ne (fun e => h (by cases e; rfl))
    simp [this, h]
theorem hei_start {w : World} {L1 L2 : List (List UInt8 × List UInt8)} {D2 : DataW Value} (hA : ∀ k, HAt w D2 (lastS L2 k) k) : HeI L1 L2 (Maps.has D2) false := by
  have no : ∀ k x, lastS L2 k = some x → ¬ Maps.has D2 (.string k) = false := fun k x h1 h3 => by
    have := hA k
    rw [h1] at this
    rw [this.1] at h3
    cases h3
  exact ⟨⟨(fun h => by cases h), fun ⟨k, x, y, h1, _, h3⟩ => absurd h3 (no k x h1)⟩, fun k x y h1 _ h3 => absurd h3 (no k x h1)⟩
theorem hei_end {L1 L2 : List (List UInt8 × List UInt8)} {left : Go.Lit → Bool} {β : Bool} (h : HeI L1 L2 left β) (hl : ∀ kl, left kl = false) : β = true ↔ HEqP L1 L2 :=
  ⟨fun hb => ⟨by obtain ⟨k, x, y, h1, h2, _⟩ := h.1.1 hb; exact ⟨k, x, y, h1, h2⟩, fun k x y h1 h2 => h.2 k x y h1 h2 (hl _)⟩, fun ⟨⟨k, x, y, h1, h2⟩, _⟩ => h.1.2 ⟨k, x, y, h1, h2, hl _⟩⟩
theorem hei_none {L1 L2 : List (List UInt8 × List UInt8)} {left : Go.Lit → Bool} {β : Bool} (h : HeI L1 L2 left β) {s : List UInt8} (h1 : lastS L1 s = none) : HeI L1 L2 (fun z => left z && !z.sameKey (.string s)) β := by
  have out : ∀ k y, lastS L1 k = some y → ((left (.string k) && !(Go.Lit.string k).sameKey (.string s)) = false ↔ left (.string k) = false) := fun k y hy => by
    rw [left_false]
    exact ⟨fun h => h.elim id (fun e => by rw [e, h1] at hy; cases hy), .inl⟩
  refine ⟨h.1.trans ⟨?_, ?_⟩, fun k x y h2 h3 h4 => h.2 k x y h2 h3 ((out k y h3).1 h4)⟩
  · rintro ⟨k, x, y, h2, h3, h4⟩
    exact ⟨k, x, y, h2, h3, (out k y h3).2 h4⟩
  · rintro ⟨k, x, y, h2, h3, h4⟩
    exact ⟨k, x, y, h2, h3, (out k y h3).1 h4⟩
theorem hei_same {L1 L2 : List (List UInt8 × List UInt8)} {left : Go.Lit → Bool} {β : Bool} (h : HeI L1 L2 left β) {s x : List UInt8} (h1 : lastS L2 s = some x) (h2 : lastS L1 s = some x) : HeI L1 L2 (fun z => left z && !z.sameKey (.string s)) true := by
  refine ⟨⟨fun _ => ⟨s, x, x, h1, h2, left_false.2 (.inr rfl)⟩, fun _ => rfl⟩, fun k x' y' h3 h4 h5 => ?_⟩
  rcases left_false.1 h5 with h6 | h6
  · exact h.2 k x' y' h3 h4 h6
  · subst h6
    rw [h1] at h3
    rw [h2] at h4
    cases h3; cases h4; rfl
/-- What Equal leaves. -/
def HeP (L1 L2 : List (List UInt8 × List UInt8)) (w : World) (e : Ending) (w' : World) : Prop := ∃ β, e = .returned (.bool β) ∧ (β = true ↔ HEqP L1 L2) ∧ Below w.heap.size w w'
set_option maxRecDepth 100000 in
set_option maxHeartbeats 8000000 in
theorem hEqual_any {a b : Nat} {L1 L2 : List (List UInt8 × List UInt8)} {w : World} (h1 : HM w a L1) (h2 : HM w b L2) :
    Calls Tryz.prog 50 #[.map (some a), .map (some b)] w (HeP L1 L2 w) := by
  obtain ⟨D1, n1, o1, -, A1⟩ := h1
  obtain ⟨D2, n2, o2, -, A2⟩ := h2
  have HO1 := Lib.hid o1
  have HA1 := Lib.hid A1
  have HO2 := Lib.hid o2
  have HA2 := Lib.hid A2
  have HI0 := Lib.hid (hei_start (L1 := L1) A2)
  clear o1 A1 o2 A2
  go_enter Tryz.func50, Tryz.ntmps50
  go_wp2_with (at_range; refine wpList_range_own _ rfl _ 116 rfl 9 147 keyed_str Tryz.underlying116 RV b n2 D2 rfl HO2.out ?_; intro w0 hrg0 hg0 hs0)
  have HR0 := Lib.hid hrg0
  have HB0 : Hid (Below w.heap.size w w0) := ⟨hg0.os, hg0.tape, hg0.output, hg0.size, fun k hk => hg0.block k hk (by simp)⟩
  clear hrg0 hg0 hs0
  go_frame
  go_loopw [5] (fun hc wr => ∃ β left cnt, hc = .bool β ∧ Hid (wr.ranges Tryz.prog 9 RV b w.heap.size n2 D2 left cnt) ∧ Hid (Below w.heap.size w wr) ∧ Hid (HeI L1 L2 left β)) (fun _ wr => wr.rangeLeft b w.heap.size)
  case atStart => exact ⟨false, _, _, rfl, HR0, HB0, HI0⟩
  case round =>
    obtain ⟨β, left, cnt, rfl, HR, HB, HI⟩ := hrel
    go_wp2_with (at_next; refine wpList_next_ss _ rfl _ rfl b w.heap.size n2 D2 left cnt rfl HR.out ?_ ?_)
    · intro hl0
      have HE := Lib.hid (hei_end HI.out hl0)
      clear hl0
      go_wp2_with (fail)
      go_ret
      exact ⟨β, rfl, HE.out, HB.out⟩
    · intro s ao m c w2 cnt2 hlk hat hrg2 hlt hsz hgr hen
      have hb2 : Below w.heap.size w w2 := HB.out.grown hgr HB.out.size (fun k hk => by cases hk; exact Nat.le_refl _)
      have HB2 := Lib.hid hb2
      have HR2 := Lib.hid hrg2
      have HLT := Lib.hid hlt
      have HSZ := Lib.hid hsz
      have HO1' := Lib.hid (ownsMap_below HO1.out hb2)
      obtain ⟨x, hx, hbx⟩ : ∃ x, lastS L2 s.data.toList = some x ∧ BSrc w2 (.slice ao m c) x := by
        have h0 := HA2.out s.data.toList
        cases e : lastS L2 s.data.toList with
        | none =>
          rw [e] at h0
          have h3 := hat .nil
          rw [Maps.atKey_of_not_has h0] at h3
          cases h3
        | some x =>
          rw [e] at h0
          obtain ⟨_, ao', n', c', h3, h4⟩ := h0
          have h5 := hat .nil
          rw [h3] at h5
          cases h5
          exact ⟨x, rfl, h4.stay hb2⟩
      have HX := Lib.hid hx
      have h1 := HA1.out s.data.toList
      cases e1 : lastS L1 s.data.toList with
      | none =>
        rw [e1] at h1
        have HI2 := Lib.hid (hei_none HI.out e1)
        have HAT := Lib.hid (Maps.atKey_of_not_has (k := .string s.data.toList) h1 (.held (.slice none 0 0)))
        have HH : Hid (Maps.has D1 (.string s.data.toList) = false) := h1
        clear h1 e1 hx hbx hlk hat hrg2 hlt hsz hgr hb2
        go_wp2_with (at_lookup; refine wpList_lookup_ss _ rfl _ _ rfl a n1 D1 rfl HO1'.out s rfl HSZ.out none 0 0 false HAT.out HH.out ?_)
        go_roundw
        case rel => exact ⟨β, _, cnt2, rfl, HR2, HB2, HI2⟩
        case measure => rw [HR2.out.left_eq, HR.out.left_eq]; exact HLT.out
      | some y =>
        rw [e1] at h1
        obtain ⟨h3, ao1, m1, c1, h4, h5⟩ := h1
        have HH : Hid (Maps.has D1 (.string s.data.toList) = true) := h3
        have HAT := Lib.hid (h4 (.held (.slice none 0 0)))
        have HEQ := Lib.hid (bytesEqual_any (h5.stay hb2) hbx)
        by_cases hxy : y = x
        · have HI2 := Lib.hid (hei_same HI.out hx (hxy ▸ e1))
          have HE2 : Hid (Calls Tryz.prog 71 #[.slice ao1 m1 c1, .slice ao m c] w2 fun e w' => e = .returned (.bool true) ∧ w2 = w') := HEQ.out.mono fun _ _ h => ⟨by rw [h.1, hxy]; simp, h.2.symm⟩
          clear h3 h4 h5 HEQ e1 hx hbx hlk hat hrg2 hlt hsz hgr hb2 hxy
          go_wp2_with (first
            | (at_lookup; refine wpList_lookup_ss _ rfl _ _ rfl a n1 D1 rfl HO1'.out s rfl HSZ.out ao1 m1 c1 true HAT.out HH.out ?_)
            | (go_at_call 71; refine HE2.out.mono ?_; rintro e w' ⟨rfl, rfl⟩))
          go_roundw
          case rel => exact ⟨true, _, cnt2, rfl, HR2, HB2, HI2⟩
          case measure => rw [HR2.out.left_eq, HR.out.left_eq]; exact HLT.out
        · have HE2 : Hid (Calls Tryz.prog 71 #[.slice ao1 m1 c1, .slice ao m c] w2 fun e w' => e = .returned (.bool false) ∧ w2 = w') := HEQ.out.mono fun _ _ h => ⟨by rw [h.1, show (y == x) = false from beq_eq_false_iff_ne.2 hxy], h.2.symm⟩
          have HN : Hid (¬ HEqP L1 L2) := Lib.hid (fun h => hxy (h.2 _ x y hx e1))
          clear h3 h4 h5 HEQ e1 hx hbx hlk hat hrg2 hlt hsz hgr hb2 hxy
          go_wp2_with (first
            | (at_lookup; refine wpList_lookup_ss _ rfl _ _ rfl a n1 D1 rfl HO1'.out s rfl HSZ.out ao1 m1 c1 true HAT.out HH.out ?_)
            | (go_at_call 71; refine HE2.out.mono ?_; rintro e w' ⟨rfl, rfl⟩))
          go_ret
          exact ⟨false, rfl, ⟨(fun h => by cases h), fun h => absurd h HN.out⟩, HB2.out⟩
set_option maxRecDepth 100000 in
set_option maxHeartbeats 4000000 in
theorem implHashesEqual_any {v u : Value} {l m : List (ByteArray × List UInt8)} {w : World} (h1 : HsR w v l) (h2 : HsR w u m) (hl : l.length ≤ 1000) (hm : m.length ≤ 1000) (hs : ∀ x ∈ l, x.2.length ≤ 1073741824) (ht : ∀ x ∈ m, x.2.length ≤ 1073741824) :
    Calls Tryz.prog 19 #[v, u] w (HeP (toL l) (toL m) w) := by
  have HX1 := Lib.hid (hashesOf_any h1 hl hs)
  have HX2 : Hid (∀ W, Below w.heap.size w W → Calls Tryz.prog 49 #[u] W (HoP m W)) := fun W hb => hashesOf_any (h2.stay hb) hm ht
  clear h1 h2 hl hm hs ht
  go_enter Tryz.func19, Tryz.ntmps19
  go_wp2_with (first
    | (go_at_call 49; refine HX1.out.mono ?_; rintro e w1 ⟨b1, rfl, hm1, hb1⟩
       have HM1 := Lib.hid hm1
       have HB1 := Lib.hid hb1
       have HX3 := Lib.hid (HX2.out w1 hb1)
       clear hm1 hb1 HX1 HX2)
    | (go_at_call 49; refine HX3.out.mono ?_; rintro e w2 ⟨b2, rfl, hm2, hb2⟩
       have HX4 := Lib.hid (hEqual_any (HM1.out.stay hb2) hm2)
       have HB2 := Lib.hid (HB1.out.trans (hb2.mono HB1.out.size))
       clear hm2 hb2 HX3)
    | (go_at_call 50; refine HX4.out.mono ?_; rintro e w3 ⟨β, rfl, hβ, hb3⟩
       have HE := Lib.hid hβ
       have HB3 := Lib.hid (HB2.out.trans (hb3.mono HB2.out.size))
       clear hβ hb3))
  go_ret
  exact ⟨β, rfl, HE.out, HB3.out⟩
end Go.Proofs.YthafpdceknleiaaGreatDoor
