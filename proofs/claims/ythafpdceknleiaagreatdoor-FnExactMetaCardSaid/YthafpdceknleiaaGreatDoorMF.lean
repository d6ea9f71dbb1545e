/- laws.FnExactMeta. Printed by gen_MF.py. -/
import Derived.Test.YthafpdceknleiaaGreatDoorME
import Derived.Test.YthafpdceknleiaaGreatDoorM3
import Derived.Test.YthafpdceknleiaaGreatDoorM1
open Go Go.RowKit
namespace Go.Proofs.YthafpdceknleiaaGreatDoor
/-- A load of a whole struct under a guard that holds. -/
theorem wpList_load_rowG {P : Program} {ops : Array Oper} {rest : List Oper} {o : Oper} {a : Act} {w : World} {Q : Exit → Act → World → Prop} (hw : Region.wanted o (yielded ops a.tmps) = true) (ty : TypeId) (x : Operand) (ho : o.op = .load ty x)
    (g : Nat) (hx : a.eval x = .pointer (some ⟨g, 0, none⟩)) (t : TypeId) (cs : Array Value) (fr : Nat × Nat) (d : TypeDesc) (hg : w.heap[g]? = some (.cells cs t fr))
    (hu : P.underlying ty = some d) (hd : (match d with | .struct _ | .array _ _ => true | _ => false) = true) (hi : (P.info? ty).map (·.size) = some cs.size)
    (h : wpList P ops Q rest (a.put o.dst (.agg cs)) w) : wpList P ops Q (o :: rest) a w :=
  wpList_step fun K hK => by
    simp only [hw, if_true]
    exact wp_load_row ty x ho g hx t cs fr d hg hu hd hi (hK _ _ h)
theorem su_split {ids : List ByteArray} {kb : Bool} {w : World} {e : Ending} {w' : World} (h : SuP ids kb w e w') : ∃ c : Int, e = .returned (.tuple #[.int .i64 c, .bool kb]) ∧ ((c = 0 ∧ DisT ids ids.length) ∨ (c = 1 ∧ ¬ DisT ids ids.length)) ∧ Below w.heap.size w w' := by
  rcases h.2 with ⟨h1, h2⟩ | ⟨h1, h2⟩
  · exact ⟨0, h1, .inl ⟨rfl, h2⟩, h.1⟩
  · exact ⟨1, h1, .inr ⟨rfl, h2⟩, h.1⟩
theorem un_split {ids : List ByteArray} {w : World} {e : Ending} {w' : World} (h : UnP ids w e w') {c : Int} (hc : (c = 0 ∧ DisT ids ids.length) ∨ (c = 1 ∧ ¬ DisT ids ids.length)) : e = .returned (.int .i64 c) ∧ Below w.heap.size w w' := by
  rcases h.2 with ⟨h1, h2⟩ | ⟨h1, h2⟩
  · rcases hc with ⟨rfl, _⟩ | ⟨_, h3⟩
    · exact ⟨h1, h.1⟩
    · exact absurd h2 h3
  · rcases hc with ⟨_, h3⟩ | ⟨rfl, _⟩
    · exact absurd h3 h2
    · exact ⟨h1, h.1⟩
set_option maxRecDepth 100000 in
set_option maxHeartbeats 16000000 in
theorem fnExactMeta_any {cs : List Value} {now : Int} {w : World} (h : PMeta w cs) (hN : TL w.heap.size w) :
    Calls Tryz.prog 4 #[.agg cs.toArray, .int .i64 now] w fun e w' => e = .returned (.bool true) ∧ Below w.heap.size w w' := by
  obtain ⟨s0, n1, n2, a3, l3, c3, a4, l4, c4, a5, l5, c5, y6, a7, l7, c7, y8, a9, l9, c9, y10, a11, l11, c11, n12, n13, s14, a15, l15, c15, a16, l16, c16, rfl, h0, h1, h2, h3, h4, h5, h7, h9, h11, h12, h13, h14, h15, h16⟩ := h
  obtain ⟨l, hl⟩ := sigR_of h15
  have hn : l15 = l.length := by
    rcases hl with ⟨h1, h2⟩ | ⟨a, c', h1, _⟩
    · injection h1 with _ h1 _; rw [h2, h1]; rfl
    · injection h1
  obtain ⟨B, hB⟩ : ∃ B, B = w.heap.size := ⟨_, rfl⟩
  obtain ⟨W1, hW1⟩ : ∃ W1, W1 = w.alloc (.cells #[.string s0, .int .i64 n1, .int .i64 n2, .slice a3 l3 c3, .slice a4 l4 c4, .slice a5 l5 c5, .bool y6, .slice a7 l7 c7, .bool y8, .slice a9 l9 c9, .bool y10, .slice a11 l11 c11, .int .i64 n12, .int .i64 n13, .string s14, .slice a15 l15 c15, .slice a16 l16 c16] 34) := ⟨_, rfl⟩
  have hb1 : Below w.heap.size w W1 := by rw [hW1]; exact (Below.refl _ _).alloc (Nat.le_refl _) _
  have HS1 : Hid (W1.heap.size = B + 1) := by rw [hW1, World.size_alloc, hB]; exact Lib.hid rfl
  have HH : Hid (∀ W, Below W1.heap.size W1 W → W.heap[B]? = some (.cells #[.string s0, .int .i64 n1, .int .i64 n2, .slice a3 l3 c3, .slice a4 l4 c4, .slice a5 l5 c5, .bool y6, .slice a7 l7 c7, .bool y8, .slice a9 l9 c9, .bool y10, .slice a11 l11 c11, .int .i64 n12, .int .i64 n13, .string s14, .slice a15 l15 c15, .slice a16 l16 c16] 34 (0, 0))) := by
    intro W hb
    rw [hb.block B (by rw [HS1.out]; omega), hW1, hB]
    exact alloc_at _ _
  have st : ∀ W, Below W1.heap.size W1 W → Below w.heap.size w W := fun W hb => hb1.trans (hb.mono hb1.size)
  have HST := Lib.hid st
  have HF : Hid (Calls Tryz.prog 9 #[.agg #[.string s0, .int .i64 n1, .int .i64 n2, .slice a3 l3 c3, .slice a4 l4 c4, .slice a5 l5 c5, .bool y6, .slice a7 l7 c7, .bool y8, .slice a9 l9 c9, .bool y10, .slice a11 l11 c11, .int .i64 n12, .int .i64 n13, .string s14, .slice a15 l15 c15, .slice a16 l16 c16]] W1 (SomeB W1)) := Lib.hid (fits_Meta (n1 := n1) (n2 := n2) (y6 := y6) (y8 := y8) (y10 := y10) (n12 := n12) (n13 := n13) h0 (h3.stay (fun _ => PKey.stay hb1) hb1) (h4.stay (fun _ => PRole.stay hb1) hb1) (h5.stay (fun _ => PFile.stay hb1) hb1) (h7.stay (fun _ => PKey.stay hb1) hb1) (h9.stay (fun _ => PDelRole.stay hb1) hb1) (h11.imp fun _ h => h.stay hb1) h14 (h15.stay (fun _ => PSig.stay hb1) hb1) (h16.imp fun _ h => h.stay hb1))
  have HSM : Hid (∀ W, Below W1.heap.size W1 W → Calls Tryz.prog 14 #[.agg #[.string s0, .int .i64 n1, .int .i64 n2, .slice a3 l3 c3, .slice a4 l4 c4, .slice a5 l5 c5, .bool y6, .slice a7 l7 c7, .bool y8, .slice a9 l9 c9, .bool y10, .slice a11 l11 c11, .int .i64 n12, .int .i64 n13, .string s14, .slice a15 l15 c15, .slice a16 l16 c16]] W (SmallP l15 s0 W)) := fun W hb => small_any (h3.stay (fun _ => PKey.stay (st W hb)) (st W hb)) (h4.stay (fun _ => PRole.stay (st W hb)) (st W hb)) (h5.stay (fun _ => PFile.stay (st W hb)) (st W hb)) (h7.stay (fun _ => PKey.stay (st W hb)) (st W hb)) (h9.stay (fun _ => PDelRole.stay (st W hb)) (st W hb)) (h11.imp fun _ h => h.stay (st W hb)) (h15.stay (fun _ => PSig.stay (st W hb)) (st W hb))
  have HAW : Hid (∀ W, Below W1.heap.size W1 W → Calls Tryz.prog 10 #[] W fun e w' => e = .returned (.bool true) ∧ Below w.heap.size w w') := fun W hb => (awake_true _ W (hN.mono (Nat.le_refl _) (st W hb))).mono fun _ _ h => ⟨h.1, (st W hb).trans (h.2.mono (st W hb).size)⟩
  have HSR := Lib.hid hl
  have HNN := Lib.hid hn
  have HN := Lib.hid hN
  have HW1 := Lib.hid hW1
  have HBS := Lib.hid hB
  clear h0 h1 h2 h3 h4 h5 h7 h9 h11 h12 h13 h14 h15 h16 hl hn hN hW1 hB hb1 st
  go_enter Tryz.func4, Tryz.ntmps4
  go_upto_region 1 with (fail)
  rw [← HW1.out, ← HBS.out]
  go_upto_if 11 with (first
    | (refine wpList_load_row rfl 34 (.tmp 2) rfl B rfl 34 #[.string s0, .int .i64 n1, .int .i64 n2, .slice a3 l3 c3, .slice a4 l4 c4, .slice a5 l5 c5, .bool y6, .slice a7 l7 c7, .bool y8, .slice a9 l9 c9, .bool y10, .slice a11 l11 c11, .int .i64 n12, .int .i64 n13, .string s14, .slice a15 l15 c15, .slice a16 l16 c16] (0, 0) _ (HH.out _ (Below.refl _ _)) Tryz.underlying34 rfl info_meta ?_)
    | (go_at_call 9; refine HF.out.mono ?_; rintro e w3 ⟨b, rfl, hb⟩; have HB3 := Lib.hid hb; clear hb HF; cases b))
  all_goals try (go_wp2_with (fail); go_ret; exact ⟨rfl, HST.out _ HB3.out⟩)
  go_upto_if 14 with (first
    | (refine wpList_load_row rfl 34 (.tmp 2) rfl B rfl 34 #[.string s0, .int .i64 n1, .int .i64 n2, .slice a3 l3 c3, .slice a4 l4 c4, .slice a5 l5 c5, .bool y6, .slice a7 l7 c7, .bool y8, .slice a9 l9 c9, .bool y10, .slice a11 l11 c11, .int .i64 n12, .int .i64 n13, .string s14, .slice a15 l15 c15, .slice a16 l16 c16] (0, 0) _ (HH.out _ HB3.out) Tryz.underlying34 rfl info_meta ?_)
    | (go_at_call 14; refine (HSM.out _ HB3.out).mono ?_; rintro e w4 ⟨hb, b, rfl, hfb⟩; have HB4 := Lib.hid (HB3.out.trans (hb.mono HB3.out.size)); have HFB := Lib.hid hfb; clear hb hfb HSM; cases b))
  all_goals try (go_wp2_with (go_at_call 10; refine (HAW.out _ HB4.out).mono ?_; rintro e w' ⟨rfl, hb⟩); go_ret; exact ⟨rfl, hb⟩)
  have HSZ := Lib.hid (HFB.out (by first | rfl | trivial))
  have hle : l.length ≤ 60 := by have := HSZ.out.1; have := HNN.out; omega
  have hk : s0.size ≤ 1000 := Nat.le_trans HSZ.out.2 (by omega)
  have H1 : Hid (∀ W, Below W1.heap.size W1 W → Calls Tryz.prog 15 #[.agg #[.string s0, .int .i64 n1, .int .i64 n2, .slice a3 l3 c3, .slice a4 l4 c4, .slice a5 l5 c5, .bool y6, .slice a7 l7 c7, .bool y8, .slice a9 l9 c9, .bool y10, .slice a11 l11 c11, .int .i64 n12, .int .i64 n13, .string s14, .slice a15 l15 c15, .slice a16 l16 c16]] W (SuP (l.map (·.1)) (kindB s0) W)) := fun W hb => specUnique_gen (HSR.out.stay (HST.out W hb)) hle
  have H2 : Hid (∀ W, Below W1.heap.size W1 W → Calls Tryz.prog 12 #[.agg #[.string s0, .int .i64 n1, .int .i64 n2, .slice a3 l3 c3, .slice a4 l4 c4, .slice a5 l5 c5, .bool y6, .slice a7 l7 c7, .bool y8, .slice a9 l9 c9, .bool y10, .slice a11 l11 c11, .int .i64 n12, .int .i64 n13, .string s14, .slice a15 l15 c15, .slice a16 l16 c16]] W (UnP (l.map (·.1)) W)) := fun W hb => implUnique_any s0 hk ⟨n1, n2, a3, l3, c3, a4, l4, c4, a5, l5, c5, y6, a7, l7, c7, y8, a9, l9, c9, y10, a11, l11, c11, n12, n13, s14, a16, l16, c16⟩ (HSR.out.stay (HST.out W hb)) hle (HN.out.mono (Nat.le_refl _) (HST.out W hb))
  have H3 : Hid (∀ W, Calls Tryz.prog 16 #[.agg #[.string s0, .int .i64 n1, .int .i64 n2, .slice a3 l3 c3, .slice a4 l4 c4, .slice a5 l5 c5, .bool y6, .slice a7 l7 c7, .bool y8, .slice a9 l9 c9, .bool y10, .slice a11 l11 c11, .int .i64 n12, .int .i64 n13, .string s14, .slice a15 l15 c15, .slice a16 l16 c16], .int .i64 now] W fun e w' => e = .returned (.tuple #[.bool (decide (n2 < now)), .bool (kindB s0)]) ∧ Below W.heap.size W w') := fun W => specExpired_gen s0 now W
  have H4 : Hid (∀ W, kindB s0 = true → Calls Tryz.prog 17 #[.agg #[.string s0, .int .i64 n1, .int .i64 n2, .slice a3 l3 c3, .slice a4 l4 c4, .slice a5 l5 c5, .bool y6, .slice a7 l7 c7, .bool y8, .slice a9 l9 c9, .bool y10, .slice a11 l11 c11, .int .i64 n12, .int .i64 n13, .string s14, .slice a15 l15 c15, .slice a16 l16 c16], .int .i64 now] W fun e w' => e = .returned (.bool (decide (n2 < now))) ∧ Below W.heap.size W w') := fun W hk => implExpired_gen s0 hk now W
  obtain ⟨kb, hkb⟩ : ∃ b, b = kindB s0 := ⟨_, rfl⟩
  obtain ⟨xb, hxb⟩ : ∃ b, b = decide (n2 < now) := ⟨_, rfl⟩
  rw [← hkb] at H1 H3 H4
  rw [← hxb] at H3 H4
  clear hle hk HSZ HFB HB3 hkb hxb HSR HNN HN
  go_wp2_with (first
    | (refine wpList_load_row rfl 34 (.tmp 2) rfl B rfl 34 #[.string s0, .int .i64 n1, .int .i64 n2, .slice a3 l3 c3, .slice a4 l4 c4, .slice a5 l5 c5, .bool y6, .slice a7 l7 c7, .bool y8, .slice a9 l9 c9, .bool y10, .slice a11 l11 c11, .int .i64 n12, .int .i64 n13, .string s14, .slice a15 l15 c15, .slice a16 l16 c16] (0, 0) _ (HH.out _ (by first | exact HB8.out | exact HB7.out | exact HB6.out | exact HB5.out | exact HB4.out | exact HB3.out | exact Below.refl _ _)) Tryz.underlying34 rfl info_meta ?_)
    | (refine wpList_load_rowG (by rfl) 34 (.tmp 2) rfl B rfl 34 #[.string s0, .int .i64 n1, .int .i64 n2, .slice a3 l3 c3, .slice a4 l4 c4, .slice a5 l5 c5, .bool y6, .slice a7 l7 c7, .bool y8, .slice a9 l9 c9, .bool y10, .slice a11 l11 c11, .int .i64 n12, .int .i64 n13, .string s14, .slice a15 l15 c15, .slice a16 l16 c16] (0, 0) _ (HH.out _ (by first | exact HB8.out | exact HB7.out | exact HB6.out | exact HB5.out | exact HB4.out | exact HB3.out | exact Below.refl _ _)) Tryz.underlying34 rfl info_meta ?_)
    | (go_at_call 15; refine (H1.out w4 HB4.out).mono ?_; rintro e w5 hsu
       obtain ⟨c, rfl, hcd, hb⟩ := su_split hsu
       have HB5 := Lib.hid (HB4.out.trans (hb.mono HB4.out.size))
       have HCD := Lib.hid hcd
       clear hsu hcd hb H1
       cases kb)
    | (go_at_call 12; refine (H2.out w5 HB5.out).mono ?_; rintro e w6 hun
       obtain ⟨rfl, hb⟩ := un_split hun HCD.out
       have HB6 := Lib.hid (HB5.out.trans (hb.mono HB5.out.size))
       clear hun hb H2)
    | (go_at_call 16; refine (H3.out _).mono ?_; rintro e w7 ⟨rfl, hb⟩
       have HB7 : Hid (Below W1.heap.size W1 w7) := Lib.hid (by first | exact HB6.out.trans (hb.mono HB6.out.size) | exact HB5.out.trans (hb.mono HB5.out.size))
       clear hb H3)
    | (go_at_call 17; refine (H4.out _ (by first | rfl | trivial)).mono ?_; rintro e w8 ⟨rfl, hb⟩
       have HB8 := Lib.hid (HB7.out.trans (hb.mono HB7.out.size))
       clear hb H4)
    | (go_at_call 10; refine (HAW.out _ (by first | exact HB8.out | exact HB7.out)).mono ?_; rintro e w' ⟨rfl, hb⟩))
  all_goals (go_ret; exact ⟨rfl, hb⟩)
end Go.Proofs.YthafpdceknleiaaGreatDoor
