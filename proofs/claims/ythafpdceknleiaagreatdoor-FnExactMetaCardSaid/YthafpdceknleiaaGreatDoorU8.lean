/- laws.FnUnique. -/
import Derived.Test.YthafpdceknleiaaGreatDoorU7
import Derived.Test.YthafpdceknleiaaGreatDoorM0
import Derived.Test.YthafpdceknleiaaGreatDoorU2
import Derived.Test.YthafpdceknleiaaGreatDoorA1
open Go Go.RowKit
namespace Go.Proofs.YthafpdceknleiaaGreatDoor
/-- The head of a round: the identifiers so far. -/
def UnH (ids : List ByteArray) (R : Nat) (w : World) (j : Nat) (v : Value) (wr : World) : Prop :=
  wr.ownsRow R 9 1 v j ((ids.take j).map .string) ∧ Below R w wr
/-- The four kinds. -/
def kinds4 : List ByteArray := [⟨#[114, 111, 111, 116]⟩, ⟨#[115, 110, 97, 112, 115, 104, 111, 116]⟩, ⟨#[116, 105, 109, 101, 115, 116, 97, 109, 112]⟩, ⟨#[116, 97, 114, 103, 101, 116, 115]⟩]
theorem un_code {ids : List ByteArray} {w : World} {e : Ending} {w' : World} (h : UnP ids w e w') : ∃ (c : Int) (β : Bool), e = .returned (.int .i64 c) ∧ (c == 0) = β ∧ (β = true ↔ DisT ids ids.length) := by
  rcases h.2 with ⟨rfl, hd⟩ | ⟨rfl, hd⟩
  · exact ⟨0, true, rfl, rfl, ⟨fun _ => hd, fun _ => rfl⟩⟩
  · exact ⟨1, false, rfl, rfl, ⟨fun h => (by cases h), fun h => absurd h hd⟩⟩
theorem distinct_at {ids : List ByteArray} {β : Bool} (hβ : β = true ↔ DisT ids ids.length) {n R : Nat} (hn : ids.length = n) {sa : Option Addr} {sc : Nat} {w : World} (ho : w.ownsRow R 9 1 (.slice sa n sc) n (ids.map .string)) (hl : n ≤ 2147483648) :
    Calls Tryz.prog 13 #[.slice sa n sc] w fun e w' => e = .returned (.bool β) ∧ w' = w := by
  subst hn
  have hcap : ids.length ≤ sc ∧ sc ≤ 9223372036854775807 := by
    rcases ho.2 with ⟨h1, h0⟩ | ⟨g, cap, cur, h1, _, _, h2, h3, _⟩
    · injection h1 with _ _ h1; omega
    · injection h1 with _ _ h1; unfold maxLen at h3; omega
  refine (distinct_any (cp := sc) (txtR_own ho) hl hcap.1 hcap.2).mono ?_
  rintro e w' ⟨⟨b, rfl, hb⟩, rfl⟩
  exact ⟨by rw [Bool.eq_iff_iff.2 (hb.trans hβ.symm)], rfl⟩
theorem kinds4_size {s : ByteArray} (h : amB s kinds4 = true) : s.size ≤ 1000 := by
  obtain ⟨x, hx, he⟩ := List.any_eq_true.1 h
  have he2 := bytes_toList_inj (beq_iff_eq.1 he)
  subst he2
  unfold kinds4 at hx
  simp only [List.mem_cons, List.not_mem_nil, or_false] at hx
  rcases hx with rfl | rfl | rfl | rfl <;> decide
set_option maxRecDepth 100000 in
set_option maxHeartbeats 16000000 in
theorem fnUnique_any {cs : List Value} {w : World} (h : PMeta w cs) (hN : TL w.heap.size w) :
    Calls Tryz.prog 3 #[.agg cs.toArray] w fun e w' => e = .returned (.bool true) ∧ Below w.heap.size w w' := by
  obtain ⟨s0, n1, n2, a3, l3, c3, a4, l4, c4, a5, l5, c5, y6, a7, l7, c7, y8, a9, l9, c9, y10, a11, l11, c11, n12, n13, s14, a15, l15, c15, a16, l16, c16, rfl, h0, h1, h2, h3, h4, h5, h7, h9, h11, h12, h13, h14, h15, h16⟩ := h
  obtain ⟨i0, hi, hz0, hz1, hz2⟩ := info_parts info_str
  obtain ⟨l, hl⟩ := sigR_of h15
  have hn : l15 = l.length := by
    rcases hl with ⟨h1, h2⟩ | ⟨a, c', h1, _⟩
    · injection h1 with _ h1 _; rw [h2, h1]; rfl
    · injection h1
  have hn15 : l15 ≤ maxLen := by obtain ⟨_, _, _, e, h⟩ := h15.slice; injection e with _ e _; omega
  unfold maxLen at hn15
  obtain ⟨B, hB⟩ : ∃ B, B = w.heap.size := ⟨_, rfl⟩
  obtain ⟨W1, hW1⟩ : ∃ W1, W1 = w.alloc (.cells #[.string s0, .int .i64 n1, .int .i64 n2, .slice a3 l3 c3, .slice a4 l4 c4, .slice a5 l5 c5, .bool y6, .slice a7 l7 c7, .bool y8, .slice a9 l9 c9, .bool y10, .slice a11 l11 c11, .int .i64 n12, .int .i64 n13, .string s14, .slice a15 l15 c15, .slice a16 l16 c16] 34) := ⟨_, rfl⟩
  have HB1 : Hid (Below B w W1) := by rw [hW1, hB]; exact Lib.hid ((Below.refl _ _).alloc (Nat.le_refl _) _)
  have HS1 : Hid (W1.heap.size = B + 1) := by rw [hW1, World.size_alloc, hB]; exact Lib.hid rfl
  have HH1 : Hid (W1.heap[B]? = some (.cells #[.string s0, .int .i64 n1, .int .i64 n2, .slice a3 l3 c3, .slice a4 l4 c4, .slice a5 l5 c5, .bool y6, .slice a7 l7 c7, .bool y8, .slice a9 l9 c9, .bool y10, .slice a11 l11 c11, .int .i64 n12, .int .i64 n13, .string s14, .slice a15 l15 c15, .slice a16 l16 c16] 34 (0, 0))) := by rw [hW1, hB]; exact Lib.hid (alloc_at _ _)
  have HBS : Hid (B = w.heap.size) := hB
  have hb0 : Below w.heap.size w W1 := by rw [← hB]; exact HB1.out
  have HF := Lib.hid (fits_Meta (n1 := n1) (n2 := n2) (y6 := y6) (y8 := y8) (y10 := y10) (n12 := n12) (n13 := n13) h0 (h3.stay (fun _ => PKey.stay hb0) hb0) (h4.stay (fun _ => PRole.stay hb0) hb0) (h5.stay (fun _ => PFile.stay hb0) hb0) (h7.stay (fun _ => PKey.stay hb0) hb0) (h9.stay (fun _ => PDelRole.stay hb0) hb0) (h11.imp fun _ h => h.stay hb0) h14 (h15.stay (fun _ => PSig.stay hb0) hb0) (h16.imp fun _ h => h.stay hb0))
  have HC : Hid (∀ W, Below W1.heap.size W1 W → W.cell? ⟨B, 0, none⟩ = some (.string s0) ∧ W.cell? ⟨B, 1, none⟩ = some (.int .i64 n1) ∧ W.cell? ⟨B, 2, none⟩ = some (.int .i64 n2) ∧ W.cell? ⟨B, 3, none⟩ = some (.slice a3 l3 c3) ∧ W.cell? ⟨B, 4, none⟩ = some (.slice a4 l4 c4) ∧ W.cell? ⟨B, 5, none⟩ = some (.slice a5 l5 c5) ∧ W.cell? ⟨B, 6, none⟩ = some (.bool y6) ∧ W.cell? ⟨B, 7, none⟩ = some (.slice a7 l7 c7) ∧ W.cell? ⟨B, 8, none⟩ = some (.bool y8) ∧ W.cell? ⟨B, 9, none⟩ = some (.slice a9 l9 c9) ∧ W.cell? ⟨B, 10, none⟩ = some (.bool y10) ∧ W.cell? ⟨B, 11, none⟩ = some (.slice a11 l11 c11) ∧ W.cell? ⟨B, 12, none⟩ = some (.int .i64 n12) ∧ W.cell? ⟨B, 13, none⟩ = some (.int .i64 n13) ∧ W.cell? ⟨B, 14, none⟩ = some (.string s14) ∧ W.cell? ⟨B, 15, none⟩ = some (.slice a15 l15 c15) ∧ W.cell? ⟨B, 16, none⟩ = some (.slice a16 l16 c16)) := by
    refine Lib.hid (fun W hb => ?_)
    have hc : W.heap[B]? = some (.cells #[.string s0, .int .i64 n1, .int .i64 n2, .slice a3 l3 c3, .slice a4 l4 c4, .slice a5 l5 c5, .bool y6, .slice a7 l7 c7, .bool y8, .slice a9 l9 c9, .bool y10, .slice a11 l11 c11, .int .i64 n12, .int .i64 n13, .string s14, .slice a15 l15 c15, .slice a16 l16 c16] 34 (0, 0)) := by
      rw [hb.block B (by rw [HS1.out]; omega)]; exact HH1.out
    refine ⟨?_, ?_, ?_, ?_, ?_, ?_, ?_, ?_, ?_, ?_, ?_, ?_, ?_, ?_, ?_, ?_, ?_⟩ <;> simp [World.cell?, hc]
  have HSR := Lib.hid hl
  have HNN := Lib.hid hn
  have HN := Lib.hid hN
  have HAW : Hid (∀ W, Below B w W → Calls Tryz.prog 10 #[] W fun e w' => e = .returned (.bool true) ∧ Below W.heap.size W w') := by
    intro W hb
    exact awake_true _ W (HN.out.mono (Nat.le_refl _) (by rw [← HBS.out]; exact hb))
  have HW1 := Lib.hid hW1
  have HSZ : Hid (∀ W, Below B w W → B ≤ W.heap.size) := fun W hb => by rw [HBS.out]; exact hb.size
  have HCELL : Hid (∀ W, Below B w W → ∀ j, j < l15 → ∃ a x, a15 = some a ∧ l[j]? = some x ∧ W.cell? (a.add (j * 2)) = some (.string x.1) ∧ W.cell? ⟨(a.add (j * 2)).block, (a.add (j * 2)).off + 1, none⟩ = some (.int .i64 x.2)) := by
    refine Lib.hid (fun W hb j hj => ?_)
    rcases (HSR.out.stay (by rw [← HBS.out]; exact hb)) with ⟨h1, h2⟩ | ⟨a, c', h1, _, _, h3⟩
    · have := HNN.out; rw [h2] at this; simp at this; omega
    · injection h1 with h1 _ _
      obtain ⟨x, hx⟩ : ∃ x, l[j]? = some x := ⟨_, List.getElem?_eq_getElem (by rw [← HNN.out]; exact hj)⟩
      obtain ⟨g1, g2, _⟩ := h3 j x hx
      exact ⟨a, x, h1, hx, g1, g2⟩
  clear h0 h1 h2 h3 h4 h5 h7 h9 h11 h12 h13 h14 h15 h16 hl hn hb0 hW1 hN hB
  obtain ⟨ids, hids⟩ : ∃ ids, ids = l.map (·.1) := ⟨_, rfl⟩
  have HIDS := Lib.hid hids
  have HIDL : Hid (ids.length = l15) := by rw [hids, List.length_map]; exact Lib.hid HNN.out.symm
  have HGET : Hid (∀ (j : Nat) (x : ByteArray × Int), l[j]? = some x → ids[j]? = some x.1) := by
    refine Lib.hid (fun j x hx => ?_)
    rw [hids, List.getElem?_map, hx]; rfl
  clear hids
  obtain ⟨q0, q1, q2, q3, q4, q5, q6, q7, q8, q9, q10, q11, q12, q13, q14, q15, q16⟩ := HC.out W1 (Below.refl _ _)
  go_enter Tryz.func3, Tryz.ntmps3
  go_upto_region 1 with (fail)
  rw [← HBS.out, ← HW1.out]
  clear q0 q1 q2 q3 q4 q5 q6 q7 q8 q9 q10 q11 q12 q13 q14 q15 q16
  go_upto_if 8 with (first
    | (refine wpList_load_row rfl 34 (.tmp 1) rfl B rfl 34 _ (0, 0) _ HH1.out Tryz.underlying34 rfl info_meta ?_)
    | (go_at_call 9; refine HF.out.mono ?_; rintro e w2 ⟨b, rfl, hb⟩))
  have HB2 := Lib.hid hb
  clear hb
  obtain ⟨q0, -, -, -, -, -, -, -, -, -, -, -, -, -, -, q15, -⟩ := HC.out w2 HB2.out
  have HBW : Hid (∀ W, Below W1.heap.size W1 W → Below B w W) := Lib.hid (fun W hb => HB1.out.trans (hb.mono (by rw [HS1.out]; omega)))
  cases b with
  | false =>
    go_wp2_with (fail)
    go_ret
    exact ⟨rfl, by rw [← HBS.out]; exact HBW.out _ HB2.out⟩
  | true =>
    rw [show (!true) = false from rfl]
    by_cases hlen : 60 < l15
    · have d1 : decide ((60 : Int) < (l15 : Int)) = true := decide_eq_true (by omega)
      go_wp2_with (go_at_call 10; refine (HAW.out _ (HBW.out _ HB2.out)).mono ?_; rintro e w' ⟨rfl, hb⟩)
      go_ret
      exact ⟨rfl, by rw [← HBS.out]; exact (HBW.out _ HB2.out).trans (hb.mono (HSZ.out _ (HBW.out _ HB2.out)))⟩
    · have d1 : decide ((60 : Int) < (l15 : Int)) = false := decide_eq_false (by omega)
      go_wp2_with (fail)
      have HS2 : Hid (∀ R, Below R w2 w2) := Lib.hid (fun R => Below.refl R w2)
      clear q0 q15
      go_loopw [3, 5, 17] (fun v _ i wr => ∃ j : Nat, i = .int .i64 j ∧ j ≤ l15 ∧ Hid (UnH ids (B + 1) w2 j v wr)) (fun _ _ i _ => l15 - (intOf i).toNat)
      case atStart => exact ⟨0, rfl, Nat.zero_le _, ⟨rfl, .inl ⟨rfl, rfl⟩⟩, Below.refl _ _⟩
      case round =>
        obtain ⟨j, rfl, hj, HR⟩ := hrel
        have hbr0 := HR.out.2
        have HBR : Hid (Below W1.heap.size W1 wr) := by rw [HS1.out]; exact Lib.hid ((HB2.out.mono (by rw [HS1.out]; omega)).trans hbr0)
        have HBR1 := Lib.hid hbr0
        have HOWN := Lib.hid HR.out.1
        have hsz1 : B + 1 ≤ wr.heap.size := by have := HBR.out.size; rw [HS1.out] at this; omega
        clear hbr0
        as_aux_lemma =>
          by_cases hlt : j < l15
          · have j1 : decide ((j : Int) < (l15 : Int)) = true := decide_eq_true (by omega)
            obtain ⟨a, x, rfl, hx, e0, e1⟩ := HCELL.out wr (HBW.out _ HBR.out) j hlt
            have HX := Lib.hid (HGET.out j x hx)
            obtain ⟨id, hid⟩ : ∃ id, id = x.1 := ⟨_, rfl⟩
            obtain ⟨by', hby⟩ : ∃ b, b = x.2 := ⟨_, rfl⟩
            rw [← hid] at e0 HX
            rw [← hby] at e1
            clear hx hid hby
            as_aux_lemma =>
              have hf0 : (wr.alloc (.cells #[.string id, .int .i64 by'] 38)).cell? ⟨wr.heap.size, 0, none⟩ = some (.string id) := by rw [World.cell?, alloc_at]; rfl
              have HOWB : Hid ((wr.alloc (.cells #[.string id, .int .i64 by'] 38)).ownsRow (B + 1) 9 1 _ j ((ids.take j).map .string)) := Lib.hid (ownsRow_alloc HOWN.out _)
              have HBWB : Hid (Below (B + 1) w2 (wr.alloc (.cells #[.string id, .int .i64 by'] 38))) := Lib.hid (HBR1.out.alloc hsz1 _)
              have HNEW : Hid (∀ (i : Nat) (q : Value), [.string id][i]? = some q → ((wr.alloc (.cells #[.string id, .int .i64 by'] 38)).alloc (.cells #[.string id] 9)).cell? ((⟨wr.heap.size + 1, 0, none⟩ : Addr).add i) = some q) := by
                have := cell_one_new (wr.alloc (.cells #[.string id, .int .i64 by'] 38)) (.string id) 9
                rw [World.size_alloc] at this
                exact Lib.hid this
              go_wp2_with (at_builtin; refine wpList_append_own_at _ rfl _ _ 26 rfl (B + 1) 9 i0 (.string ⟨#[]⟩) 1 16 Tryz.underlying26 hi hz0 hz1 hz2 rfl (by decide) _ _ _ rfl (ownsRow_alloc HOWB.out _) ⟨wr.heap.size + 1, 0, none⟩ 1 1 [.string id] rfl rfl HNEW.out (by intro q hq; rw [List.mem_singleton.1 hq]; rfl) (by unfold maxLen; omega) (by omega) (by rw [World.size_alloc, World.size_alloc]; omega) ?_)
              intro v' w4 hown hgr _ _
              have HRN : Hid (UnH ids (B + 1) w2 (j + 1) v' w4) := by
                refine Lib.hid ⟨?_, grown_belowK (HBWB.out.alloc (by rw [World.size_alloc]; omega) _) (ownsRow_alloc HOWB.out _) (by rw [World.size_alloc, World.size_alloc]; omega) hgr⟩
                rw [List.take_add_one, HX.out, List.map_append, List.map_take]
                simpa using hown
              clear hown hgr
              go_wp2_with (fail)
              go_roundw
              case rel => exact ⟨j + 1, by go_num, by omega, HRN⟩
              case measure => simp [intOf]; omega
          · have j1 : decide ((j : Int) < (l15 : Int)) = false := decide_eq_false (by omega)
            obtain rfl : l15 = j := by omega
            have HTK : Hid (ids.take l15 = ids) := Lib.hid (List.take_of_length_le (by rw [HIDL.out]; omega))
            as_aux_lemma =>
              have hown := HOWN.out
              rw [HTK.out] at hown
              obtain ⟨sa, sc, rfl⟩ := own_slice' hown
              obtain ⟨W3, hW3⟩ : ∃ W3, W3 = wr.alloc (.cells #[.string ⟨#[114, 111, 111, 116]⟩, .string ⟨#[115, 110, 97, 112, 115, 104, 111, 116]⟩, .string ⟨#[116, 105, 109, 101, 115, 116, 97, 109, 112]⟩, .string ⟨#[116, 97, 114, 103, 101, 116, 115]⟩] 9) := ⟨_, rfl⟩
              have HB3 : Hid (Below W1.heap.size W1 W3) := by rw [hW3]; exact Lib.hid (HBR.out.alloc HBR.out.size _)
              have HO3 : Hid (W3.ownsRow (B + 1) 9 1 (.slice sa l15 sc) l15 (ids.map .string)) := by rw [hW3]; exact Lib.hid (ownsRow_alloc hown _)
              have HAM : Hid (Calls Tryz.prog 11 #[.slice (some ⟨wr.heap.size, 0, none⟩) 4 4, .string s0] W3 fun e w' => e = .returned (.bool (amB s0 kinds4)) ∧ W3 = w') := by
                have hg := alloc_at wr (.cells #[.string ⟨#[114, 111, 111, 116]⟩, .string ⟨#[115, 110, 97, 112, 115, 104, 111, 116]⟩, .string ⟨#[116, 105, 109, 101, 115, 116, 97, 109, 112]⟩, .string ⟨#[116, 97, 114, 103, 101, 116, 115]⟩] 9)
                rw [← hW3] at hg
                refine (among_some s0 (l := kinds4) (fun j s hj => ?_) (by decide)).mono fun _ _ h => ⟨h.1, h.2.symm⟩
                rw [addrAdd, Nat.zero_add, World.cell?, hg]
                match j, hj with
                | 0, hj => cases hj; rfl
                | 1, hj => cases hj; rfl
                | 2, hj => cases hj; rfl
                | 3, hj => cases hj; rfl
                | j + 4, hj => cases hj
              have HH3 : Hid (W3.heap[B]? = some (.cells #[.string s0, .int .i64 n1, .int .i64 n2, .slice a3 l3 c3, .slice a4 l4 c4, .slice a5 l5 c5, .bool y6, .slice a7 l7 c7, .bool y8, .slice a9 l9 c9, .bool y10, .slice a11 l11 c11, .int .i64 n12, .int .i64 n13, .string s14, .slice a15 l15 c15, .slice a16 l16 c16] 34 (0, 0))) := by
                rw [HB3.out.block B (by rw [HS1.out]; omega)]; exact HH1.out
              obtain ⟨am, ham⟩ : ∃ am, am = amB s0 kinds4 := ⟨_, rfl⟩
              rw [← ham] at HAM
              have HK : Hid (am = true → s0.size ≤ 1000) := by
                rw [ham]
                exact Lib.hid kinds4_size
              obtain ⟨q0, -, -, -, -, -, -, -, -, -, -, -, -, -, -, q15, -⟩ := HC.out W3 HB3.out
              have HW3 := Lib.hid hW3
              rw [hW3] at q0 q15
              clear hW3 ham hown
              go_upto_if 31 with (rw [← HW3.out]; go_at_call 11; refine HAM.out.mono ?_; rintro e w' ⟨rfl, rfl⟩)
              clear q0 q15
              obtain ⟨q0, -, -, -, -, -, -, -, -, -, -, -, -, -, -, q15, -⟩ := HC.out W3 HB3.out
              cases am with
              | false =>
                go_wp2_with (go_at_call 10; refine (HAW.out _ (HBW.out _ HB3.out)).mono ?_; rintro e w' ⟨rfl, hb⟩)
                go_ret
                exact ⟨rfl, by rw [← HBS.out]; exact (HBW.out _ HB3.out).trans (hb.mono (HSZ.out _ (HBW.out _ HB3.out)))⟩
              | true =>
                rw [show (!true) = false from rfl]
                have hk := HK.out rfl
                as_aux_lemma =>
                  obtain ⟨W4, hW4⟩ : ∃ W4, W4 = W3.setRow B #[.string s0, .int .i64 0, .int .i64 0, .slice none 0 0, .slice none 0 0, .slice none 0 0, .bool true, .slice none 0 0, .bool false, .slice none 0 0, .bool false, .slice none 0 0, .int .i64 0, .int .i64 0, .string ⟨#[]⟩, .slice a15 l15 c15, .slice none 0 0] := ⟨_, rfl⟩
                  have HH4 : Hid (W4.heap[B]? = some (.cells #[.string s0, .int .i64 0, .int .i64 0, .slice none 0 0, .slice none 0 0, .slice none 0 0, .bool true, .slice none 0 0, .bool false, .slice none 0 0, .bool false, .slice none 0 0, .int .i64 0, .int .i64 0, .string ⟨#[]⟩, .slice a15 l15 c15, .slice none 0 0] 34 (0, 0))) := by rw [hW4]; exact Lib.hid (setRow_heap _ _ _ _ _ _ HH3.out)
                  have HB4 : Hid (Below B w W4) := by rw [hW4]; exact Lib.hid (below_setRow (HBW.out _ HB3.out) (Nat.le_refl _) _)
                  have HO4 : Hid (W4.ownsRow (B + 1) 9 1 (.slice sa l15 sc) l15 (ids.map .string)) := by rw [hW4]; exact Lib.hid (ownsRow_setRow HO3.out (Nat.lt_succ_self _) _)
                  have HON : Hid ((#[.string s0, .int .i64 0, .int .i64 0, .slice none 0 0, .slice none 0 0, .slice none 0 0, .bool true, .slice none 0 0, .bool false, .slice none 0 0, .bool false, .slice none 0 0, .int .i64 0, .int .i64 0, .string ⟨#[]⟩, .slice a15 l15 c15, .slice none 0 0] : Array Value).all (·.oneCell') = true) := Lib.hid (by simp [Value.oneCell'])
                  have HW4 := Lib.hid hW4
                  clear hW4
                  go_upto_region 13 with (fail)
                  have HSZ0 : Hid ((#[.string s0, .int .i64 n1, .int .i64 n2, .slice a3 l3 c3, .slice a4 l4 c4, .slice a5 l5 c5, .bool y6, .slice a7 l7 c7, .bool y8, .slice a9 l9 c9, .bool y10, .slice a11 l11 c11, .int .i64 n12, .int .i64 n13, .string s14, .slice a15 l15 c15, .slice a16 l16 c16] : Array Value).size = (#[.string s0, .int .i64 0, .int .i64 0, .slice none 0 0, .slice none 0 0, .slice none 0 0, .bool true, .slice none 0 0, .bool false, .slice none 0 0, .bool false, .slice none 0 0, .int .i64 0, .int .i64 0, .string ⟨#[]⟩, .slice a15 l15 c15, .slice none 0 0] : Array Value).size) := Lib.hid rfl
                  have HIM : Hid ((Tryz.prog.info? 34).map (·.size) = some (#[.string s0, .int .i64 0, .int .i64 0, .slice none 0 0, .slice none 0 0, .slice none 0 0, .bool true, .slice none 0 0, .bool false, .slice none 0 0, .bool false, .slice none 0 0, .int .i64 0, .int .i64 0, .string ⟨#[]⟩, .slice a15 l15 c15, .slice none 0 0] : Array Value).size) := Lib.hid info_meta
                  have HU : Hid (Calls Tryz.prog 12 #[uMeta s0 a15 l15 c15] W4 (UnP ids W4)) := by
                    rw [HIDS.out]
                    exact Lib.hid (implUnique_any s0 hk mf0 (HSR.out.stay (by rw [← HBS.out]; exact HB4.out)) (by rw [← HNN.out]; omega) (HN.out.mono (Nat.le_refl _) (by rw [← HBS.out]; exact HB4.out)))
                  unfold uMeta at HU
                  have HSZ4 : Hid (B ≤ W4.heap.size) := Lib.hid (HSZ.out _ HB4.out)
                  as_aux_lemma =>
                    go_wp2_with (first
                      | (refine wpList_store_rowE rfl 34 (.tmp 1) (.tmp 38) rfl B _ rfl rfl W4 HW4.out 34 _ HH3.out HIM.out HSZ0.out HON.out ?_; clear q0 q15)
                      | (refine wpList_build1 rfl 30 0 _ rfl _ rfl _ built_del ?_)
                      | (refine wpList_build3 rfl 34 0 7 6 _ _ _ rfl _ _ _ rfl rfl rfl _ (built_meta s0 a15 l15 c15) ?_)
                      | (refine wpList_load_row rfl 34 (.tmp 1) rfl B rfl 34 _ (0, 0) _ HH4.out Tryz.underlying34 rfl info_meta ?_)
                      | (go_at_call 12; refine HU.out.mono ?_; rintro e w5 hu
                         obtain ⟨c', β, rfl, hcb, hβ⟩ := un_code hu
                         have HB6 := Lib.hid (HB4.out.trans (hu.1.mono HSZ4.out))
                         have HDI := Lib.hid (distinct_at hβ HIDL.out (own_below HO4.out hu.1) (by omega))
                         clear hu hβ)
                      | (go_at_call 13; refine HDI.out.mono ?_; rintro e w' ⟨rfl, rfl⟩; cases β)
                      | (go_at_call 10; refine (HAW.out _ HB6.out).mono ?_; rintro e w' ⟨rfl, hb⟩; have HB7 := Lib.hid (HB6.out.trans (hb.mono (HSZ.out _ HB6.out))); clear hb))
                    all_goals (go_ret; exact ⟨rfl, by rw [← HBS.out]; exact HB7.out⟩)
end Go.Proofs.YthafpdceknleiaaGreatDoor
