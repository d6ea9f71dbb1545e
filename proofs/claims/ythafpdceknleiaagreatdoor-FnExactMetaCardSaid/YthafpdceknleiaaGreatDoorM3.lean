/- spec.Unique, at any metadata. Printed by gen_M3.py. -/
import Derived.Test.YthafpdceknleiaaGreatDoorM2
open Go Go.RowKit
namespace Go.Proofs.YthafpdceknleiaaGreatDoor
/-- What spec.Unique leaves. -/
def SuP (ids : List ByteArray) (kb : Bool) (w : World) (e : Ending) (w' : World) : Prop :=
  Below w.heap.size w w' ∧ ((e = .returned (.tuple #[.int .i64 0, .bool kb]) ∧ DisT ids ids.length) ∨ (e = .returned (.tuple #[.int .i64 1, .bool kb]) ∧ ¬ DisT ids ids.length))
theorem disT_step {ids : List ByteArray} {j : Nat} {x : ByteArray} (h : DisT ids j) (hx : ids[j]? = some x) (hn : amB x (ids.take j) = false) : DisT ids (j + 1) := fun k y hk hy => by
  rcases Nat.lt_or_ge k j with h1 | h1
  · exact h k y h1 hy
  · have e : k = j := by omega
    subst e
    rw [hx] at hy
    cases hy
    exact hn
theorem disT_not {ids : List ByteArray} {j : Nat} {x : ByteArray} (hx : ids[j]? = some x) (hn : amB x (ids.take j) = true) : ¬ DisT ids ids.length := fun h => by
  have := h j x (List.getElem?_eq_some_iff.1 hx).1 hx
  rw [hn] at this
  cases this
set_option maxRecDepth 100000 in
set_option maxHeartbeats 16000000 in
theorem specUnique_gen {n1 ex : Int} {a3 : Option Addr} {l3 c3 : Nat} {a4 : Option Addr} {l4 c4 : Nat} {a5 : Option Addr} {l5 c5 : Nat} {y6 : Bool} {a7 : Option Addr} {l7 c7 : Nat} {y8 : Bool} {a9 : Option Addr} {l9 c9 : Nat} {y10 : Bool} {a11 : Option Addr} {l11 c11 : Nat} {n12 n13 : Int} {s14 : ByteArray} {a15 : Option Addr} {l15 c15 : Nat} {a16 : Option Addr} {l16 c16 : Nat} {s0 : ByteArray} {l : List (ByteArray × Int)} {w : World} (h : SigR w (.slice a15 l15 c15) l) (hl : l.length ≤ 60) :
    Calls Tryz.prog 15 #[.agg #[.string s0, .int .i64 n1, .int .i64 ex, .slice a3 l3 c3, .slice a4 l4 c4, .slice a5 l5 c5, .bool y6, .slice a7 l7 c7, .bool y8, .slice a9 l9 c9, .bool y10, .slice a11 l11 c11, .int .i64 n12, .int .i64 n13, .string s14, .slice a15 l15 c15, .slice a16 l16 c16]] w (SuP (l.map (·.1)) (kindB s0) w) := by
  have HK : Hid (∀ W, Calls Tryz.prog 43 #[.string s0] W fun e w' => e = .returned (.bool (kindB s0)) ∧ w' = W) := fun W => tKind_any s0 W
  obtain ⟨kb, hkb⟩ : ∃ b, b = kindB s0 := ⟨_, rfl⟩
  rw [← hkb] at HK ⊢
  clear hkb
  have hnl : l15 = l.length := by
    rcases h with ⟨h1, h2⟩ | ⟨a, c', h1, _⟩
    · injection h1 with _ h1 _; rw [h2, h1]; rfl
    · injection h1
  have HCP : Hid (l15 ≤ c15 ∧ c15 ≤ 9223372036854775807) := by
    rcases h with ⟨h1, h2⟩ | ⟨a, c', h1, h2, h3, _⟩
    · injection h1 with _ h1 h2; rw [h1, h2]; exact ⟨Nat.le_refl _, by omega⟩
    · injection h1 with _ h1 h4; rw [h1, h4]; unfold maxLen at h3; exact ⟨h2, h3⟩
  have HSR := Lib.hid h
  have HNL := Lib.hid hnl
  have hn60 : l15 ≤ 60 := by omega
  obtain ⟨ids, hids⟩ : ∃ ids, ids = l.map (·.1) := ⟨_, rfl⟩
  have HGET : Hid (∀ (j : Nat) (x : ByteArray × Int), l[j]? = some x → ids[j]? = some x.1) := by
    refine Lib.hid (fun j x hx => ?_)
    rw [hids, List.getElem?_map, hx]; rfl
  have HIDL : Hid (ids.length = l15) := by rw [hids, List.length_map]; exact Lib.hid hnl.symm
  rw [← hids]
  clear hids
  obtain ⟨B, hB⟩ : ∃ B, B = w.heap.size := ⟨_, rfl⟩
  have HBS := Lib.hid hB
  obtain ⟨W1, hW1⟩ : ∃ W1, W1 = w.alloc (.cells #[.string s0, .int .i64 n1, .int .i64 ex, .slice a3 l3 c3, .slice a4 l4 c4, .slice a5 l5 c5, .bool y6, .slice a7 l7 c7, .bool y8, .slice a9 l9 c9, .bool y10, .slice a11 l11 c11, .int .i64 n12, .int .i64 n13, .string s14, .slice a15 l15 c15, .slice a16 l16 c16] 34) := ⟨_, rfl⟩
  have HB1 : Hid (Below B w W1) := by rw [hW1, hB]; exact Lib.hid ((Below.refl _ _).alloc (Nat.le_refl _) _)
  have HS1 : Hid (W1.heap.size = B + 1) := by rw [hW1, World.size_alloc, hB]; exact Lib.hid rfl
  have HC : Hid (∀ W, Below (B + 1) W1 W → W.cell? ⟨B, 0, none⟩ = some (.string s0) ∧ W.cell? ⟨B, 15, none⟩ = some (.slice a15 l15 c15)) := by
    intro W hb
    have hc := alloc_at w (.cells #[.string s0, .int .i64 n1, .int .i64 ex, .slice a3 l3 c3, .slice a4 l4 c4, .slice a5 l5 c5, .bool y6, .slice a7 l7 c7, .bool y8, .slice a9 l9 c9, .bool y10, .slice a11 l11 c11, .int .i64 n12, .int .i64 n13, .string s14, .slice a15 l15 c15, .slice a16 l16 c16] 34)
    rw [← hB, ← hW1, ← hb.block B (by omega)] at hc
    refine ⟨?_, ?_⟩ <;> simp [World.cell?, hc]
  have HCELL : Hid (∀ W, Below (B + 1) W1 W → ∀ j, j < l15 → ∃ (a : Addr) (x : ByteArray × Int), a15 = some a ∧ ids[j]? = some x.1 ∧ W.cell? (a.add (j * 2)) = some (.string x.1) ∧ W.cell? ⟨(a.add (j * 2)).block, (a.add (j * 2)).off + 1, none⟩ = some (.int .i64 x.2)) := by
    refine Lib.hid (fun W hb j hj => ?_)
    have hbw : Below w.heap.size w W := by rw [← HBS.out]; exact HB1.out.trans (hb.mono (by omega))
    rcases (HSR.out.stay hbw) with ⟨h1, h2⟩ | ⟨a, c', h1, _, _, h3⟩
    · have := HNL.out; rw [h2] at this; simp at this; omega
    · injection h1 with h1 _ _
      obtain ⟨x, hx⟩ : ∃ x, l[j]? = some x := ⟨_, List.getElem?_eq_getElem (by rw [← HNL.out]; exact hj)⟩
      obtain ⟨g1, g2, _⟩ := h3 j x hx
      exact ⟨a, x, h1, HGET.out j x hx, g1, g2⟩
  have HW1 := Lib.hid hW1
  have HEND : Hid (∀ W, Below (B + 1) W1 W → Below w.heap.size w W) := fun W hb => by rw [← HBS.out]; exact HB1.out.trans (hb.mono (by omega))
  clear h hl hnl hB hW1
  go_enter Tryz.func15, Tryz.ntmps15
  go_upto_region 1 with (fail)
  rw [← HBS.out, ← HW1.out]
  obtain ⟨q0, q15⟩ := HC.out W1 (Below.refl _ _)
  go_wp2_with (fail)
  clear q0 q15
  go_loopw [11] (fun i wr => ∃ j : Nat, i = .int .i64 j ∧ j ≤ l15 ∧ Hid (Below (B + 1) W1 wr) ∧ Hid (DisT ids j)) (fun i _ => l15 - (intOf i).toNat)
  case atStart => exact ⟨0, rfl, Nat.zero_le _, Below.refl _ _, fun k y hk _ => by omega⟩
  case round =>
    obtain ⟨j, rfl, hj, HBR, HDI⟩ := hrel
    obtain ⟨q0, q15⟩ := HC.out wr HBR.out
    by_cases hlt : j < l15
    · have j1 : decide ((j : Int) < (l15 : Int)) = true := decide_eq_true (by omega)
      obtain ⟨a, x, rfl, hx, e0, e1⟩ := HCELL.out wr HBR.out j hlt
      obtain ⟨id, by'⟩ := x
      change _ = some (Value.string id) at e0
      change _ = some (Value.int .i64 by') at e1
      have HX : Hid (ids[j]? = some id) := hx
      obtain ⟨Wb, hWb⟩ : ∃ Wb, Wb = wr.alloc (.cells #[.string id, .int .i64 by'] 38) := ⟨_, rfl⟩
      have HSB : Hid (Wb.heap.size = wr.heap.size + 1) := by rw [hWb, World.size_alloc]; exact Lib.hid rfl
      have HBB : Hid (Below (B + 1) W1 Wb) := by rw [hWb]; exact Lib.hid (HBR.out.alloc (by have := HBR.out.size; rw [HS1.out] at this; exact this) _)
      have HCB : Hid (∀ W, Below Wb.heap.size Wb W → W.cell? ⟨wr.heap.size, 0, none⟩ = some (.string id)) := by
        intro W hb
        have hc := alloc_at wr (.cells #[.string id, .int .i64 by'] 38)
        rw [← hWb, ← hb.block _ (by rw [HSB.out]; omega)] at hc
        simp [World.cell?, hc]
      have HWB := Lib.hid hWb
      have hjc : j ≤ c15 := by have := HCP.out.1; omega
      clear hx hWb
      go_upto_region 4 with (fail)
      rw [← HWB.out]
      clear q0 q15 e0 e1
      obtain ⟨q0, q15⟩ := HC.out Wb HBB.out
      go_wp2_with (fail)
      clear q0 q15
      go_loopw [21] (fun i2 wr2 => ∃ k : Nat, i2 = .int .i64 k ∧ k ≤ j ∧ Hid (Below (B + 1) W1 wr2) ∧ Hid (Below Wb.heap.size Wb wr2) ∧ Hid (amB id (ids.take k) = false)) (fun i2 _ => j - (intOf i2).toNat)
      case atStart => exact ⟨0, rfl, Nat.zero_le _, HBB, Below.refl _ _, (by show _ = _; simp [amB])⟩
      case round =>
        obtain ⟨k, rfl, hk, HBQ, HBQ2, HAM⟩ := hrel
        obtain ⟨q0, q15⟩ := HC.out wr HBQ.out
        have f0 := HCB.out wr HBQ2.out
        by_cases hlt2 : k < j
        · have k1 : decide ((k : Int) < (j : Int)) = true := decide_eq_true (by omega)
          obtain ⟨a2, y, ha2, hy, e0, e1⟩ := HCELL.out wr HBQ.out k (by omega)
          cases ha2
          obtain ⟨id2, by2⟩ := y
          change _ = some (Value.string id2) at e0
          change _ = some (Value.int .i64 by2) at e1
          have HY : Hid (ids[k]? = some id2) := hy
          obtain ⟨Wc, hWc⟩ : ∃ Wc, Wc = wr.alloc (.cells #[.string id2, .int .i64 by2] 38) := ⟨_, rfl⟩
          have HBC : Hid (Below (B + 1) W1 Wc) := by rw [hWc]; exact Lib.hid (HBQ.out.alloc (by have := HBQ.out.size; rw [HS1.out] at this; exact this) _)
          have HBC2 : Hid (Below Wb.heap.size Wb Wc) := by rw [hWc]; exact Lib.hid (HBQ2.out.alloc HBQ2.out.size _)
          have HCC : Hid (Wc.cell? ⟨wr.heap.size, 0, none⟩ = some (.string id2)) := by
            refine Lib.hid ?_
            have hc := alloc_at wr (.cells #[.string id2, .int .i64 by2] 38)
            rw [← hWc] at hc
            simp [World.cell?, hc]
          have HWC := Lib.hid hWc
          clear hy hWc
          go_upto_region 7 with (fail)
          rw [← HWC.out]
          clear q0 q15 e0 e1 f0
          obtain ⟨q0, q15⟩ := HC.out Wc HBC.out
          have f0 := HCB.out Wc HBC2.out
          have f1 := HCC.out
          by_cases he : id2.toList = id.toList
          · have i1 : (id2.toList == id.toList) = true := by simpa using he
            have HD : Hid (¬ DisT ids ids.length) := disT_not HX.out (amB_hit (k := k) (by rw [List.getElem?_take_of_lt hlt2]; exact HY.out) he)
            clear he
            go_wp2_with (go_at_call 43; refine (HK.out _).mono ?_; rintro e w2 ⟨rfl, rfl⟩)
            go_ret2
            exact ⟨HEND.out _ HBC.out, .inr ⟨rfl, HD.out⟩⟩
          · have i1 : (id2.toList == id.toList) = false := by simpa using he
            have HAM2 : Hid (amB id (ids.take (k + 1)) = false) := amB_miss HY.out he HAM.out
            clear he
            go_wp2_with (fail)
            go_roundw
            case rel => exact ⟨k + 1, by go_num, by omega, HBC, HBC2, HAM2⟩
            case measure => simp [intOf]; omega
        · have k1 : decide ((k : Int) < (j : Int)) = false := decide_eq_false (by omega)
          have HDN : Hid (DisT ids (j + 1)) := disT_step HDI.out HX.out (by rw [show j = k by omega]; exact HAM.out)
          go_wp2_with (fail)
          go_roundw
          case rel => exact ⟨j + 1, by go_num, by omega, HBQ, HDN⟩
          case measure => simp [intOf]; omega
    · have j1 : decide ((j : Int) < (l15 : Int)) = false := decide_eq_false (by omega)
      have HD : Hid (DisT ids ids.length) := by rw [HIDL.out, show l15 = j by omega]; exact HDI
      go_wp2_with (go_at_call 43; refine (HK.out _).mono ?_; rintro e w2 ⟨rfl, rfl⟩)
      go_ret2
      exact ⟨HEND.out _ HBR.out, .inl ⟨rfl, HD.out⟩⟩
end Go.Proofs.YthafpdceknleiaaGreatDoor
