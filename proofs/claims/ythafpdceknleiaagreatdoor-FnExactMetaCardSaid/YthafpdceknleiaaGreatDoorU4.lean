/- impl.sigs. -/
import Derived.Test.YthafpdceknleiaaGreatDoorU3
import Derived.Test.YthafpdceknleiaaGreatDoorV0
import Derived.Deep.DeepCutAuto
open Go Go.RowKit
namespace Go.Proofs.YthafpdceknleiaaGreatDoor
theorem info_sig : (Tryz.prog.info? 149).map (fun i => (i.zero, i.size, i.bytes)) = some (some (.agg #[.string ⟨#[]⟩, .slice none 0 0]), 2, 40) := by kernel_rfl
/-- The cells of signatures that were made: identifiers, and some slices. -/
def sgCells (l : List (ByteArray × Int)) (us : List Value) : List Value := (l.zip us).flatMap fun p => [.string p.1.1, p.2]
theorem sgCells_snoc {l : List (ByteArray × Int)} {us : List Value} {j : Nat} {x : ByteArray × Int} {u : Value} (hu : us.length = j) (hx : l[j]? = some x) : sgCells (l.take (j + 1)) (us ++ [u]) = sgCells (l.take j) us ++ [.string x.1, u] := by
  have hj : j < l.length := (List.getElem?_eq_some_iff.1 hx).1
  unfold sgCells
  rw [List.take_add_one, hx, List.zip_append (by rw [List.length_take]; omega)]
  simp
theorem ownsRow_lower {w : World} {R R' k n : Nat} {T : TypeId} {v : Value} {xs : List Value} (h : w.ownsRow R T k v n xs) (hR : R' ≤ R) : w.ownsRow R' T k v n xs :=
  ⟨h.1, h.2.imp id fun ⟨g, cap, cur, e, hb, r⟩ => ⟨g, cap, cur, e, by omega, r⟩⟩
theorem grown_belowK {w W w' : World} {R k n : Nat} {T : TypeId} {v : Value} {xs : List Value} (h : Below R w W) (ho : W.ownsRow R T k v n xs) (hR : R ≤ W.heap.size) (hg : W.grownBy w' v.ownBlock) : Below R w w' :=
  h.trans ⟨hg.os, hg.tape, hg.output, hg.size, fun i hi => hg.block i (by omega) (fun e => by have := ho.lt i e.symm; omega)⟩
/-- What sigs leaves. -/
def SigsP (l : List (ByteArray × Int)) (w : World) (e : Ending) (w' : World) : Prop :=
  ∃ v us, e = .returned v ∧ us.length = l.length ∧ (∀ u ∈ us, ∃ a n c, u = Value.slice a n c) ∧ w'.ownsRow w.heap.size 149 2 v l.length (sgCells l us) ∧ Below w.heap.size w w'
/-- The head of a round. -/
def SgH (l : List (ByteArray × Int)) (R : Nat) (w : World) (j : Nat) (v : Value) (wr : World) : Prop :=
  ∃ us : List Value, us.length = j ∧ (∀ u ∈ us, ∃ a n c, u = Value.slice a n c) ∧ wr.ownsRow R 149 2 v j (sgCells (l.take j) us) ∧ Below R w wr
set_option maxRecDepth 100000 in
set_option maxHeartbeats 8000000 in
theorem sigs_any (k : ByteArray) (hk : k.size ≤ 1000) (f : MF) {ao : Option Addr} {n c : Nat} {l : List (ByteArray × Int)} {N : Nat} {w : World} (h : SigR w (.slice ao n c) l) (hl : l.length ≤ 60) (hN : TL N w) :
    Calls Tryz.prog 40 #[gMeta k f ao n c] w (SigsP l w) := by
  obtain ⟨i0, hi, hz0, hz1, hz2⟩ := info_parts info_sig
  obtain ⟨n1, n2, a3, l3, c3, a4, l4, c4, a5, l5, c5, y6, a7, l7, c7, y8, a9, l9, c9, y10, a11, l11, c11, n12, n13, s14, a16, l16, c16⟩ := f
  have hnl : n = l.length := by
    rcases h with ⟨h1, h2⟩ | ⟨a, c', h1, _⟩
    · injection h1 with _ h1 _; rw [h2, h1]; rfl
    · injection h1
  have HSR := Lib.hid h
  have HN := Lib.hid hN
  have kc := fun (w : World) (C : Array Value) (n c : Nat) => Lib.run_convert_bytes_const (P := Tryz.prog) w 32 5 C n c Tryz.underlying32 Tryz.underlying5
  obtain ⟨B, hB⟩ : ∃ B, B = w.heap.size := ⟨_, rfl⟩
  obtain ⟨W1, hW1⟩ : ∃ W1, W1 = w.alloc (.cells #[.string k, .int .i64 n1, .int .i64 n2, .slice a3 l3 c3, .slice a4 l4 c4, .slice a5 l5 c5, .bool y6, .slice a7 l7 c7, .bool y8, .slice a9 l9 c9, .bool y10, .slice a11 l11 c11, .int .i64 n12, .int .i64 n13, .string s14, .slice ao n c, .slice a16 l16 c16] 34) := ⟨_, rfl⟩
  have HB1 : Hid (Below B w W1) := by rw [hW1, hB]; exact Lib.hid ((Below.refl _ _).alloc (Nat.le_refl _) _)
  have HS1 : Hid (W1.heap.size = B + 1) := by rw [hW1, World.size_alloc, hB]; exact Lib.hid rfl
  have HC : Hid (∀ W, Below W1.heap.size W1 W → W.cell? ⟨B, 0, none⟩ = some (.string k) ∧ W.cell? ⟨B, 1, none⟩ = some (.int .i64 n1) ∧ W.cell? ⟨B, 2, none⟩ = some (.int .i64 n2) ∧ W.cell? ⟨B, 3, none⟩ = some (.slice a3 l3 c3) ∧ W.cell? ⟨B, 4, none⟩ = some (.slice a4 l4 c4) ∧ W.cell? ⟨B, 5, none⟩ = some (.slice a5 l5 c5) ∧ W.cell? ⟨B, 6, none⟩ = some (.bool y6) ∧ W.cell? ⟨B, 7, none⟩ = some (.slice a7 l7 c7) ∧ W.cell? ⟨B, 8, none⟩ = some (.bool y8) ∧ W.cell? ⟨B, 9, none⟩ = some (.slice a9 l9 c9) ∧ W.cell? ⟨B, 10, none⟩ = some (.bool y10) ∧ W.cell? ⟨B, 11, none⟩ = some (.slice a11 l11 c11) ∧ W.cell? ⟨B, 12, none⟩ = some (.int .i64 n12) ∧ W.cell? ⟨B, 13, none⟩ = some (.int .i64 n13) ∧ W.cell? ⟨B, 14, none⟩ = some (.string s14) ∧ W.cell? ⟨B, 15, none⟩ = some (.slice ao n c) ∧ W.cell? ⟨B, 16, none⟩ = some (.slice a16 l16 c16)) := by
    intro W hb
    have hc := alloc_at w (.cells #[.string k, .int .i64 n1, .int .i64 n2, .slice a3 l3 c3, .slice a4 l4 c4, .slice a5 l5 c5, .bool y6, .slice a7 l7 c7, .bool y8, .slice a9 l9 c9, .bool y10, .slice a11 l11 c11, .int .i64 n12, .int .i64 n13, .string s14, .slice ao n c, .slice a16 l16 c16] 34)
    rw [← hB, ← hW1, ← hb.block B (by rw [HS1.out]; omega)] at hc
    refine ⟨?_, ?_, ?_, ?_, ?_, ?_, ?_, ?_, ?_, ?_, ?_, ?_, ?_, ?_, ?_, ?_, ?_⟩ <;> simp [World.cell?, hc]
  have HBS : Hid (B = w.heap.size) := hB
  have HW1 := Lib.hid hW1
  have HK := Lib.hid hk
  have HNL := Lib.hid hnl
  have hn60 : n ≤ 60 := by omega
  have HEND : Hid (∀ v W, SgH l (B + 1) W1 n v W → SigsP l w (.returned v) W) := by
    rintro v W ⟨us, h1, h0, h2, h3⟩
    rw [hnl, List.take_length] at h2
    have hb3 : Below B w W := HB1.out.trans (h3.mono (by omega))
    refine ⟨v, us, rfl, by omega, h0, ownsRow_lower h2 (by rw [← hB]; omega), by rw [← hB]; exact hb3⟩
  simp only [gMeta]
  clear h hN hB hW1 hk hnl hl
  go_enter Tryz.func40, Tryz.ntmps40
  go_wp2_with (fail)
  rw [← HBS.out, ← HW1.out]
  go_loopw [3, 10] (fun v i wr => ∃ j : Nat, i = .int .i64 j ∧ j ≤ n ∧ Hid (SgH l (B + 1) W1 j v wr)) (fun _ i _ => n - (intOf i).toNat)
  case atStart => exact ⟨0, rfl, Nat.zero_le _, ⟨[], rfl, (fun _ h => by cases h), ⟨rfl, .inl ⟨rfl, rfl⟩⟩, Below.refl _ _⟩⟩
  case round =>
    obtain ⟨j, rfl, hj, HR⟩ := hrel
    by_cases hlt : j < n
    · have j1 : decide ((j : Int) < (n : Int)) = true := decide_eq_true (by omega)
      obtain ⟨us, hus, hsl, hown, hbr⟩ := HR.out
      obtain ⟨a, x, rfl, hx, e0, e1, hx0, hx1, hx2⟩ : ∃ a x, ao = some a ∧ l[j]? = some x ∧ wr.cell? (a.add (j * 2)) = some (.string x.1) ∧ wr.cell? ⟨(a.add (j * 2)).block, (a.add (j * 2)).off + 1, none⟩ = some (.int .i64 x.2) ∧ x.1.size ≤ 140737488351232 ∧ -9223372036854775808 ≤ x.2 ∧ x.2 ≤ 9223372036854775807 := by
        have hbw : Below w.heap.size w wr := by rw [← HBS.out]; exact HB1.out.trans (hbr.mono (by omega))
        rcases (HSR.out.stay hbw) with ⟨h1, h2⟩ | ⟨a, c', h1, _, _, h3⟩
        · have := HNL.out; rw [h2] at this; simp at this; omega
        · injection h1 with h1 _ _
          obtain ⟨x, hx⟩ : ∃ x, l[j]? = some x := ⟨_, List.getElem?_eq_getElem (by rw [← HNL.out]; exact hlt)⟩
          obtain ⟨g1, g2, g3, g4, g5⟩ := h3 j x hx
          exact ⟨a, x, h1, hx, g1, g2, g3, g4, g5⟩
      obtain ⟨id, hid⟩ : ∃ id, id = x.1 := ⟨_, rfl⟩
      obtain ⟨by', hby⟩ : ∃ b, b = x.2 := ⟨_, rfl⟩
      rw [← hid] at e0 hx0
      rw [← hby] at e1 hx1 hx2
      have HX : Hid (l[j]? = some (id, by')) := by rw [hid, hby]; exact hx
      have HUS := Lib.hid hus
      have HSL := Lib.hid hsl
      have HOWN := Lib.hid hown
      have HBR := Lib.hid hbr
      have HX12 : Hid (-9223372036854775808 ≤ by' ∧ by' ≤ 9223372036854775807) := ⟨hx1, hx2⟩
      clear hx hid hby hus hsl hown hbr hx1 hx2
      obtain ⟨Wb, hWb⟩ : ∃ Wb, Wb = (wr.alloc (.cells #[.string id, .int .i64 by'] 38)).alloc (.cells #[.int .u8 110, .int .u8 111, .int .u8 32, .int .u8 115, .int .u8 105, .int .u8 103, .int .u8 110, .int .u8 97, .int .u8 116, .int .u8 117, .int .u8 114, .int .u8 101] 5 (12, 13)) := ⟨_, rfl⟩
      have kc1 := kc (wr.alloc (.cells #[.string id, .int .i64 by'] 38)) #[.int .u8 110, .int .u8 111, .int .u8 32, .int .u8 115, .int .u8 105, .int .u8 103, .int .u8 110, .int .u8 97, .int .u8 116, .int .u8 117, .int .u8 114, .int .u8 101] 12 12
      rw [World.size_alloc] at kc1
      change _ = Result.ok (Value.slice (some ⟨wr.heap.size + 1, 0, none⟩) 12 12) ((wr.alloc (.cells #[.string id, .int .i64 by'] 38)).alloc (.cells #[.int .u8 110, .int .u8 111, .int .u8 32, .int .u8 115, .int .u8 105, .int .u8 103, .int .u8 110, .int .u8 97, .int .u8 116, .int .u8 117, .int .u8 114, .int .u8 101] 5 (12, 13))) at kc1
      rw [← hWb] at kc1
      have HWB : Hid (Below wr.heap.size wr Wb) := by rw [hWb]; exact Lib.hid (((Below.refl _ _).alloc (Nat.le_refl _) _).alloc (by rw [World.size_alloc]; omega) _)
      have HWC : Hid (∀ W, Below Wb.heap.size Wb W → W.cell? ⟨wr.heap.size, 0, none⟩ = some (.string id) ∧ W.cell? ⟨wr.heap.size, 1, none⟩ = some (.int .i64 by')) := by
        intro W hb
        have hc := alloc_at wr (.cells #[.string id, .int .i64 by'] 38)
        have h2 : Wb.heap[wr.heap.size]? = W.heap[wr.heap.size]? := (hb.block _ (by rw [hWb, World.size_alloc, World.size_alloc]; omega)).symm
        have h3 : Wb.heap[wr.heap.size]? = some (.cells #[.string id, .int .i64 by'] 38 (0, 0)) := by rw [hWb, Below.heap_alloc _ _ _ (by rw [World.size_alloc]; omega)]; exact hc
        rw [h2] at h3
        refine ⟨?_, ?_⟩ <;> simp [World.cell?, h3]
      have HSB : Hid (Wb.heap.size = wr.heap.size + 2) := by rw [hWb, World.size_alloc, World.size_alloc]; exact Lib.hid rfl
      obtain ⟨f0, f1⟩ := HWC.out Wb (Below.refl _ _)
      clear hWb kc
      go_upto_if 18 with (fail)
      go_cut [6] (fun u wx => (u = .slice none 0 0 ∨ ∃ ad n cp, u = .slice (some ad) n cp) ∧ Below Wb.heap.size Wb wx)
      case first =>
        as_aux_lemma =>
          by_cases hneg : by' < 0
          · have i1 : decide ((0 : Int) ≤ by') = false := decide_eq_false (by omega)
            go_wp2_with (fail)
            go_meet
            case rel => exact ⟨.inr ⟨_, _, _, rfl⟩, Below.refl _ _⟩
          · have i1 : decide ((0 : Int) ≤ by') = true := decide_eq_true (by omega)
            have HBW : Hid (Below W1.heap.size W1 Wb) := Lib.hid (HBR.out |> fun h => (h.mono (by rw [HS1.out]; exact Nat.le_refl _)).trans ((HWB.out).mono (by have := HBR.out.size; omega)))
            obtain ⟨k0, k1, k2, k3, k4, k5, k6, k7, k8, k9, k10, k11, k12, k13, k14, k15, k16⟩ := HC.out Wb HBW.out
            have hbd : Below Wb.heap.size Wb Wb.drew := (Below.refl _ _).drew
            have HMN : Hid (W1.heap.size ≤ Wb.heap.size) := Lib.hid HBW.out.size
            have HTW : Hid (∀ W, Below Wb.heap.size Wb W → TL N W) := by
              refine Lib.hid (fun W hb => HN.out.mono HN.out.le ?_)
              rw [← HBS.out]
              exact HB1.out.trans ((HBW.out.mono (by rw [HS1.out]; omega)).trans (hb.mono (by have := HMN.out; have := HS1.out; omega)))
            go_wp2_with (fail)
            go_region_with (first
              | (go_at_call 69; go_fit (payload_lit k HK.out _ _ _ _); rintro e wp ⟨u, lp, rfl, hu, hlu, hb⟩
                 have hbp := hbd.trans hb
                 have hTP := HTW.out wp hbp
                 have hlu2 : lp.length ≤ 1073741824 := by omega
                 obtain ⟨g0, g1⟩ := HWC.out wp hbp
                 obtain ⟨p0, p1, p2, p3, p4, p5, p6, p7, p8, p9, p10, p11, p12, p13, p14, p15, p16⟩ := HC.out wp (HBW.out.trans (hbp.mono HMN.out)))
              | (go_at_call 68; go_fit (mdZzSign_any by' HX12.out.1 HX12.out.2 (by assumption) (by assumption) (by assumption)); rintro e wq ⟨u', lq, rfl, hu', hb'⟩
                 have hbq := hbp.trans (hb'.mono hbp.size)
                 obtain ⟨g0, g1⟩ := HWC.out wq hbq))
            all_goals (go_wp2_with (fail); go_meet; (case rel => (refine ⟨?_, hbq⟩; rcases hu' with h | ⟨ad, cp, h, _⟩ <;> first | exact .inl h.1 | exact .inr ⟨_, _, _, h⟩)))
      case rest =>
        obtain ⟨hu, hbq⟩ := hcut
        have HBQ : Hid (Below wr.heap.size wr wc) := Lib.hid (HWB.out.trans (hbq.mono (by have := HSB.out; omega)))
        obtain ⟨g0, g1⟩ := HWC.out wc hbq
        clear f0 f1 hbq
        rcases hu with rfl | ⟨ad, n', cp', rfl⟩
        · have hsx : Below (B + 1) W1 wc := HBR.out.trans ((HBQ.out).mono (by rw [← HS1.out]; exact HBR.out.size))
          have HSX := Lib.hid hsx
          have HOX := Lib.hid (own_below HOWN.out HBQ.out)
          have HNEW : Hid (∀ (i : Nat) (q : Value), [.string id, (.slice none 0 0)][i]? = some q → (wc.alloc (.cells #[.string id, (.slice none 0 0)] 149)).cell? ((⟨wc.heap.size, 0, none⟩ : Addr).add i) = some q) := by
            intro i q hq
            have hc := alloc_at wc (.cells #[.string id, (.slice none 0 0)] 149)
            rw [addrAdd, Nat.zero_add, World.cell?, hc]
            match i, hq with
            | 0, hq => cases hq; rfl
            | 1, hq => cases hq; rfl
            | i + 2, hq => cases hq
          have H1 : Hid (∀ q ∈ [Value.string id, (.slice none 0 0)], q.oneCell' = true) := by
            intro q hq
            simp only [List.mem_cons, List.not_mem_nil, or_false] at hq
            rcases hq with rfl | rfl <;> rfl
          have hsz : B + 1 ≤ wc.heap.size := by have := HSX.out.size; rw [HS1.out] at this; exact this
          clear hsx
          go_wp2_with (at_builtin; refine wpList_append_own_at _ rfl _ _ 88 rfl (B + 1) 149 i0 (.agg #[.string ⟨#[]⟩, .slice none 0 0]) 2 40 Tryz.underlying88 hi hz0 hz1 hz2 rfl (by decide) _ _ _ rfl (ownsRow_alloc HOX.out _) ⟨wc.heap.size, 0, none⟩ 1 1 [.string id, (.slice none 0 0)] rfl rfl HNEW.out H1.out (by unfold maxLen; omega) (by omega) (by rw [World.size_alloc]; omega) ?_)
          intro v' w4 hown hgr _ _
          have HRN : Hid (SgH l (B + 1) W1 (j + 1) v' w4) := by
            refine ⟨us ++ [(.slice none 0 0)], by rw [List.length_append, HUS.out]; rfl, (fun u hu => (List.mem_append.1 hu).elim (HSL.out u) (fun h => ⟨_, _, _, List.mem_singleton.1 h⟩)), ?_, ?_⟩
            · rw [sgCells_snoc HUS.out HX.out]; exact hown
            · exact grown_belowK (HSX.out.alloc hsz _) (ownsRow_alloc HOX.out _) (by rw [World.size_alloc]; omega) hgr
          clear hown hgr HNEW H1
          go_wp2_with (fail)
          go_roundw
          case rel => exact ⟨j + 1, by go_num, by omega, HRN⟩
          case measure => simp [intOf]; omega
        · have hsx : Below (B + 1) W1 wc := HBR.out.trans ((HBQ.out).mono (by rw [← HS1.out]; exact HBR.out.size))
          have HSX := Lib.hid hsx
          have HOX := Lib.hid (own_below HOWN.out HBQ.out)
          have HNEW : Hid (∀ (i : Nat) (q : Value), [.string id, (.slice (some ad) n' cp')][i]? = some q → (wc.alloc (.cells #[.string id, (.slice (some ad) n' cp')] 149)).cell? ((⟨wc.heap.size, 0, none⟩ : Addr).add i) = some q) := by
            intro i q hq
            have hc := alloc_at wc (.cells #[.string id, (.slice (some ad) n' cp')] 149)
            rw [addrAdd, Nat.zero_add, World.cell?, hc]
            match i, hq with
            | 0, hq => cases hq; rfl
            | 1, hq => cases hq; rfl
            | i + 2, hq => cases hq
          have H1 : Hid (∀ q ∈ [Value.string id, (.slice (some ad) n' cp')], q.oneCell' = true) := by
            intro q hq
            simp only [List.mem_cons, List.not_mem_nil, or_false] at hq
            rcases hq with rfl | rfl <;> rfl
          have hsz : B + 1 ≤ wc.heap.size := by have := HSX.out.size; rw [HS1.out] at this; exact this
          clear hsx
          go_wp2_with (at_builtin; refine wpList_append_own_at _ rfl _ _ 88 rfl (B + 1) 149 i0 (.agg #[.string ⟨#[]⟩, .slice none 0 0]) 2 40 Tryz.underlying88 hi hz0 hz1 hz2 rfl (by decide) _ _ _ rfl (ownsRow_alloc HOX.out _) ⟨wc.heap.size, 0, none⟩ 1 1 [.string id, (.slice (some ad) n' cp')] rfl rfl HNEW.out H1.out (by unfold maxLen; omega) (by omega) (by rw [World.size_alloc]; omega) ?_)
          intro v' w4 hown hgr _ _
          have HRN : Hid (SgH l (B + 1) W1 (j + 1) v' w4) := by
            refine ⟨us ++ [(.slice (some ad) n' cp')], by rw [List.length_append, HUS.out]; rfl, (fun u hu => (List.mem_append.1 hu).elim (HSL.out u) (fun h => ⟨_, _, _, List.mem_singleton.1 h⟩)), ?_, ?_⟩
            · rw [sgCells_snoc HUS.out HX.out]; exact hown
            · exact grown_belowK (HSX.out.alloc hsz _) (ownsRow_alloc HOX.out _) (by rw [World.size_alloc]; omega) hgr
          clear hown hgr HNEW H1
          go_wp2_with (fail)
          go_roundw
          case rel => exact ⟨j + 1, by go_num, by omega, HRN⟩
          case measure => simp [intOf]; omega
    · have j1 : decide ((j : Int) < (n : Int)) = false := decide_eq_false (by omega)
      have HR2 := HR
      rw [show j = n by omega] at HR2
      go_wp2_with (fail)
      go_ret
      exact HEND.out _ _ HR2.out
end Go.Proofs.YthafpdceknleiaaGreatDoor
