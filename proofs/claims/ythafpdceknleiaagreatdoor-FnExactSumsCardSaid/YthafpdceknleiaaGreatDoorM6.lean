/- spec.HashesEqual. -/
import Derived.Test.YthafpdceknleiaaGreatDoorM5
open Go Go.RowKit Go.Maps
namespace Go.Proofs.YthafpdceknleiaaGreatDoor
/-- The step of a range over a map of texts. -/
theorem wpList_next_tt (w : World) {ops : Array Oper} {rest : List Oper} {o : Oper} {a : Act} {Q : Exit → Act → World → Prop} (hg : o.guard = none) (it : Operand) (hop : o.op = Op.next it false)
    (b r n : Nat) (D : DataW Value) (left : Go.Lit → Bool) (cnt : Nat) (hit : a.eval it = .pointer (some ⟨r, 0, none⟩)) (h : w.ranges Tryz.prog 9 RT b r n D left cnt)
    (hDone : (∀ kl, left kl = false) → wpList Tryz.prog ops Q rest (a.put o.dst (.tuple #[.bool false])) w)
    (hMore : ∀ (s t : ByteArray) (w' : World) (cnt' : Nat), left (.string s.data.toList) = true → (∀ zd, D.atKey (.string s.data.toList) zd = .held (.string t)) → w'.ranges Tryz.prog 9 RT b r n D (fun z => left z && !z.sameKey (.string s.data.toList)) cnt' → cnt' < cnt →
      s.size ≤ maxLen → w.grownBy w' (some r) → (Instr.entry (.pointer (some ⟨r, 0, none⟩))).run Tryz.prog w' = .ok (.tuple #[.string s, .string t]) w' → wpList Tryz.prog ops Q rest (a.put o.dst (.tuple #[.bool true, .string s, .string t])) w') :
    wpList Tryz.prog ops Q (o :: rest) a w :=
  wpList_next_ranges w hg it hop 9 keyed_str RT (fun s : ByteArray => Value.string s) (fun s : ByteArray => Value.string s)
    (fun key kl hk => by obtain ⟨x, hx, _⟩ := Maps.keyOf_str Tryz.underlying9 hk; exact ⟨_, hx⟩)
    (fun v y hv => by obtain ⟨s, rfl, _⟩ := RT_inv hv; exact ⟨s, rfl⟩)
    b r n D left cnt hit h (fun _ hl => hDone hl) (fun s t kl y w' cnt' hkey hlk hv hat hrg hlt hgr _ hen => by
      obtain ⟨x, ex, rfl, hxl⟩ := Maps.keyOf_str Tryz.underlying9 hkey
      have e1 : s.data.toList = x := by
        have e0 : s = ⟨x.toArray⟩ := Value.string.inj ex
        rw [e0]
      subst e1
      obtain ⟨t', e2, e3⟩ := RT_inv hv
      injection e2 with e2
      subst e2
      exact hMore s _ w' cnt' hlk (fun zd => by rw [hat zd, e3]) hrg hlt (by rw [Lib.size_eq]; exact hxl) hgr hen)
/-- A look-up with ok in a map of texts. -/
theorem wpList_lookup_tt (w : World) {ops : Array Oper} {rest : List Oper} {o : Oper} {a : Act} {Q : Exit → Act → World → Prop} (hg : o.guard = none) (m x : Operand) (hop : o.op = Op.lookup 64 m x true)
    (b n : Nat) (D : DataW Value) (hm : a.eval m = .map (some b)) (hown : w.ownsMap Tryz.prog 9 RT b n D) (s : ByteArray) (hx : a.eval x = .string s) (hs : s.size ≤ maxLen)
    (t : ByteArray) (β : Bool) (hat : D.atKey (.string s.data.toList) (.held (.string ⟨#[]⟩)) = .held (.string t)) (hβ : Maps.has D (.string s.data.toList) = β)
    (hK : wpList Tryz.prog ops Q rest (a.put o.dst (.tuple #[.string t, .bool β])) w) :
    wpList Tryz.prog ops Q (o :: rest) a w :=
  wpList_lookup_own_ok w hg m x 64 hop 9 9 keyed_str Tryz.underlying64 RT (zeroStr w) (.held (.string ⟨#[]⟩)) [] rfl b n D hm hown (.string s) (.string s.data.toList) hx (WideMaps.keyOf_string_mk Tryz.underlying9 hs) (fun v ps hv => by
    rw [hat] at hv
    obtain ⟨t', rfl, e3⟩ := RT_inv hv
    have e4 := congrArg Prod.fst e3
    simp only [DataW.held.injEq] at e4
    rw [← e4, hβ]
    exact hK)
theorem heq_symm {a b : List (List UInt8 × List UInt8)} (h : HEqP a b) : HEqP b a := by
  obtain ⟨⟨k, x, y, h1, h2⟩, h3⟩ := h
  exact ⟨⟨k, y, x, h2, h1⟩, fun k x y h1 h2 => (h3 k y x h2 h1).symm⟩
theorem hei_startT {L1 L2 : List (List UInt8 × List UInt8)} {D2 : DataW Value} (hA : ∀ k, TAt D2 (lastS L2 k) k) : HeI L1 L2 (Maps.has D2) false := by
  have no : ∀ k x, lastS L2 k = some x → ¬ Maps.has D2 (.string k) = false := fun k x h1 h3 => by
    have := hA k
    rw [h1] at this
    rw [this.1] at h3
    cases h3
  exact ⟨⟨(fun h => by cases h), fun ⟨k, x, y, h1, _, h3⟩ => absurd h3 (no k x h1)⟩, fun k x y h1 _ h3 => absurd h3 (no k x h1)⟩
/-- What spec.HashesEqual leaves. -/
def ShP (L1 L2 : List (List UInt8 × List UInt8)) (w : World) (e : Ending) (w' : World) : Prop := ∃ β, e = .returned (.tuple #[.bool β, .bool true]) ∧ (β = true ↔ HEqP L1 L2) ∧ Below w.heap.size w w'
set_option maxRecDepth 100000 in
set_option maxHeartbeats 8000000 in
theorem specHashesEqual_any {v u : Value} {l m : List (ByteArray × List UInt8)} {w : World} (h1 : HsR w v l) (h2 : HsR w u m) (hl : l.length ≤ 1000) (hm : m.length ≤ 1000) :
    Calls Tryz.prog 22 #[v, u] w (ShP (toL l) (toL m) w) := by
  have HX1 := Lib.hid (tSums_any h1 hl)
  have HX2 : Hid (∀ W, Below w.heap.size w W → Calls Tryz.prog 51 #[u] W (TsP m W)) := fun W hb => tSums_any (h2.stay hb) hm
  clear h1 h2 hl hm
  go_enter Tryz.func22, Tryz.ntmps22
  go_upto_region 2 with (first
    | (go_at_call 51; refine HX1.out.mono ?_; rintro e w1 ⟨b1, rfl, hm1, hb1⟩
       have HM1 := Lib.hid hm1
       have HB1 := Lib.hid hb1
       have HX3 := Lib.hid (HX2.out w1 hb1)
       clear hm1 hb1 HX1 HX2)
    | (go_at_call 51; refine HX3.out.mono ?_; rintro e w2 ⟨b2, rfl, hm2, hb2⟩
       have HM3 := Lib.hid (HM1.out.stay hb2)
       have HM2 := Lib.hid hm2
       have HB2 := Lib.hid (HB1.out.trans (hb2.mono HB1.out.size))
       clear hm2 hb2 HX3))
  obtain ⟨D2, n2, o2, -, A2⟩ := HM3.out
  obtain ⟨D1, n1, o1, -, A1⟩ := HM2.out
  have HO1 := Lib.hid o1
  have HA1 := Lib.hid A1
  have HO2 := Lib.hid o2
  have HA2 := Lib.hid A2
  have HI0 := Lib.hid (hei_startT (L1 := toL m) A2)
  clear o1 A1 o2 A2
  go_wp2_with (at_range; refine wpList_range_own _ rfl _ 64 rfl 9 9 keyed_str Tryz.underlying64 RT b1 n2 D2 rfl HO2.out ?_; intro w0 hrg0 hg0 hs0)
  have HR0 := Lib.hid hrg0
  have HB0 : Hid (Below w2.heap.size w2 w0) := ⟨hg0.os, hg0.tape, hg0.output, hg0.size, fun k hk => hg0.block k hk (by simp)⟩
  clear hrg0 hg0 hs0
  go_frame
  go_loopw [4] (fun hc wr => ∃ β left cnt, hc = .bool β ∧ Hid (wr.ranges Tryz.prog 9 RT b1 w2.heap.size n2 D2 left cnt) ∧ Hid (Below w2.heap.size w2 wr) ∧ Hid (HeI (toL m) (toL l) left β)) (fun _ wr => wr.rangeLeft b1 w2.heap.size)
  case atStart => exact ⟨false, _, _, rfl, HR0, HB0, HI0⟩
  case round =>
    obtain ⟨β, left, cnt, rfl, HR, HB, HI⟩ := hrel
    go_wp2_with (at_next; refine wpList_next_tt _ rfl _ rfl b1 w2.heap.size n2 D2 left cnt rfl HR.out ?_ ?_)
    · intro hl0
      have HE : Hid (β = true ↔ HEqP (toL l) (toL m)) := Lib.hid ((hei_end HI.out hl0).trans ⟨heq_symm, heq_symm⟩)
      have HBE : Hid (Below w.heap.size w wr) := Lib.hid (HB2.out.trans (HB.out.mono HB2.out.size))
      clear hl0
      go_wp2_with (fail)
      go_ret2
      exact ⟨β, rfl, HE.out, HBE.out⟩
    · intro s t w3 cnt2 hlk hat hrg2 hlt hsz hgr hen
      have hb2 : Below w2.heap.size w2 w3 := HB.out.grown hgr HB.out.size (fun k hk => by cases hk; exact Nat.le_refl _)
      have HB3 := Lib.hid hb2
      have HR2 := Lib.hid hrg2
      have HLT := Lib.hid hlt
      have HSZ := Lib.hid hsz
      have HO1' : Hid (w3.ownsMap Tryz.prog 9 RT b2 n1 D1) := by
        obtain ⟨es, clock, q1, q2⟩ := HO1.out
        exact ⟨es, clock, (hb2.block b2 (HO1.out.lt)).trans q1, q2⟩
      obtain ⟨x, hx, hbx⟩ : ∃ x, lastS (toL l) s.data.toList = some x ∧ t = ⟨x.toArray⟩ := by
        have h0 := HA2.out s.data.toList
        cases e : lastS (toL l) s.data.toList with
        | none =>
          rw [e] at h0
          have h3 := hat .nil
          rw [Maps.atKey_of_not_has h0] at h3
          cases h3
        | some x =>
          rw [e] at h0
          have h5 := hat .nil
          rw [h0.2] at h5
          cases h5
          exact ⟨x, rfl, rfl⟩
      have HX := Lib.hid hx
      have h1 := HA1.out s.data.toList
      cases e1 : lastS (toL m) s.data.toList with
      | none =>
        rw [e1] at h1
        have HI2 := Lib.hid (hei_none HI.out e1)
        have HAT := Lib.hid (Maps.atKey_of_not_has (k := .string s.data.toList) h1 (.held (.string ⟨#[]⟩)))
        have HH : Hid (Maps.has D1 (.string s.data.toList) = false) := h1
        clear h1 e1 hx hbx hlk hat hrg2 hlt hsz hgr hb2
        cases β with
        | true =>
          go_wp2_with (at_lookup; refine wpList_lookup_tt _ rfl _ _ rfl b2 n1 D1 rfl HO1'.out s rfl HSZ.out ⟨#[]⟩ false HAT.out HH.out ?_)
          go_roundw
          case rel => exact ⟨true, _, cnt2, rfl, HR2, HB3, HI2⟩
          case measure => rw [HR2.out.left_eq, HR.out.left_eq]; exact HLT.out
        | false =>
          go_wp2_with (at_lookup; refine wpList_lookup_tt _ rfl _ _ rfl b2 n1 D1 rfl HO1'.out s rfl HSZ.out ⟨#[]⟩ false HAT.out HH.out ?_)
          go_roundw
          case rel => exact ⟨false, _, cnt2, rfl, HR2, HB3, HI2⟩
          case measure => rw [HR2.out.left_eq, HR.out.left_eq]; exact HLT.out
      | some y =>
        rw [e1] at h1
        have HH : Hid (Maps.has D1 (.string s.data.toList) = true) := h1.1
        have hat1 := h1.2 (.held (.string ⟨#[]⟩))
        obtain ⟨t1, ht1⟩ : ∃ t1 : ByteArray, t1 = ⟨y.toArray⟩ := ⟨_, rfl⟩
        rw [← ht1] at hat1
        have HAT := Lib.hid hat1
        by_cases hxy : y = x
        · have HI2 := Lib.hid (hei_same HI.out hx (hxy ▸ e1))
          have i1 : (t1.toList == t.toList) = true := by rw [ht1, hbx, hxy]; simp
          clear h1 e1 hx hbx hlk hat hrg2 hlt hsz hgr hb2 hxy hat1 ht1
          cases β with
          | true =>
            go_wp2_with (at_lookup; refine wpList_lookup_tt _ rfl _ _ rfl b2 n1 D1 rfl HO1'.out s rfl HSZ.out t1 true HAT.out HH.out ?_)
            go_roundw
            case rel => exact ⟨true, _, cnt2, rfl, HR2, HB3, HI2⟩
            case measure => rw [HR2.out.left_eq, HR.out.left_eq]; exact HLT.out
          | false =>
            go_wp2_with (at_lookup; refine wpList_lookup_tt _ rfl _ _ rfl b2 n1 D1 rfl HO1'.out s rfl HSZ.out t1 true HAT.out HH.out ?_)
            go_roundw
            case rel => exact ⟨true, _, cnt2, rfl, HR2, HB3, HI2⟩
            case measure => rw [HR2.out.left_eq, HR.out.left_eq]; exact HLT.out
        · have HN : Hid (¬ HEqP (toL l) (toL m)) := Lib.hid (fun h => hxy (h.2 _ _ _ e1 hx).symm)
          have i1 : (t1.toList == t.toList) = false := by
            rw [ht1, hbx, ByteArray.toList_eq, ByteArray.toList_eq]
            exact beq_eq_false_iff_ne.2 hxy
          have HBE : Hid (Below w.heap.size w w3) := Lib.hid (HB2.out.trans (HB3.out.mono HB2.out.size))
          clear h1 e1 hx hbx hlk hat hrg2 hlt hsz hgr hb2 hxy hat1 ht1
          go_wp2_with (at_lookup; refine wpList_lookup_tt _ rfl _ _ rfl b2 n1 D1 rfl HO1'.out s rfl HSZ.out t1 true HAT.out HH.out ?_)
          go_ret2
          exact ⟨false, rfl, ⟨(fun h => by cases h), fun h => absurd h HN.out⟩, HBE.out⟩
end Go.Proofs.YthafpdceknleiaaGreatDoor
