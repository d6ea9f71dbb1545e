/- cjson.EncodeCanonical at a value that is written, and at one that panics; impl.Canon at a number. -/
import Derived.Test.YtjganhmbjffjfaaGreatDoorC8
open Go Go.RowKit
namespace Go.Proofs.YtjganhmbjffjfaaGreatDoor
set_option maxRecDepth 100000 in
set_option maxHeartbeats 8000000 in
theorem encodeCanonical_at {w : World} {x : Value} {t : List UInt8} (h : EncAt x t) (hl : t.length ≤ 4294967296) :
    Calls Tryz.prog 35 #[x] w fun e w' => ∃ v, e = .returned (.tuple #[v, .nilIface]) ∧ BSrc w' v t ∧ Below w.heap.size w w' := by
  have hmf : ∀ (fn : Fn) (first cap : Array Value) (w : World), (Instr.makeFunc fn first cap).run Tryz.prog w = .ok (.func fn first cap) w := fun _ _ _ _ => rfl
  have H := Lib.hid h
  obtain ⟨s, hs⟩ : ∃ s : ByteArray, s = ⟨t.toArray⟩ := ⟨_, rfl⟩
  have HSD : Hid (s.data.toList = t) := by rw [hs]; exact Lib.hid rfl
  have HSS : Hid (s.size = t.length) := by rw [hs]; exact Lib.hid (by simp [ByteArray.size])
  have HSE := Lib.hid hs
  have hcv := fun w => Lib.run_convert_string_bytes (P := Tryz.prog) w 9 31 5 s (u := .string) Tryz.underlying9 Tryz.underlying31 Tryz.underlying5
  obtain ⟨W2, hW2⟩ : ∃ W2, W2 = (w.alloc (.cells #[.nilIface] 85)).alloc (.cells #[.pointer none, .slice none 0 0] 134) := ⟨_, rfl⟩
  have hs2 : W2.heap.size = w.heap.size + 2 := by rw [hW2, World.size_alloc, World.size_alloc]
  have HSB : Hid (SB (w.heap.size + 2) (w.heap.size + 1) [] W2) := by
    refine SB.new ?_ (by omega)
    have := alloc_at (w.alloc (.cells #[.nilIface] 85)) (.cells #[.pointer none, .slice none 0 0] 134)
    rw [World.size_alloc] at this
    rw [hW2]; exact this
  have HB2 : Hid (Below w.heap.size w W2) := by
    show Below _ _ _
    rw [hW2]; exact ((Below.refl _ _).alloc (Nat.le_refl _) _).alloc (by rw [World.size_alloc]; omega) _
  have HE2 : Hid (W2.heap[w.heap.size]? = some (.cells #[.nilIface] 85 (0, 0))) := by
    show _ = _
    rw [hW2, Below.heap_alloc _ _ _ (by rw [World.size_alloc]; omega)]
    exact alloc_at _ _
  have HW2 := Lib.hid hW2
  clear h hs hW2
  go_enter_defers Tryz.func35, Tryz.ntmps35
  go_wp2_with (fail)
  rw [← HW2.out]
  clear HW2
  refine (H.out (w.heap.size + 2) (w.heap.size + 1) [] W2 HSB.out (by simp only [List.length_nil]; omega)).mono ?_
  rintro e w3 ⟨rfl, hf, hS⟩
  rw [List.nil_append] at hS
  have HS3 := Lib.hid hS
  have HB3 : Hid (Below w.heap.size w w3) := HB2.out.trans (hf.toBelow (by omega) (by omega))
  have HE3 : Hid (w3.heap[w.heap.size]? = some (.cells #[.nilIface] 85 (0, 0))) := by
    show _ = _
    rw [hf.block _ (by omega) (by omega)]; exact HE2.out
  clear hf hS HSB HB2 HE2
  go_wp2_with (fail)
  refine (bString_any HS3.out).mono ?_
  rintro e w4 ⟨rfl, hb⟩
  rw [← HSE.out]
  have hm : min (w.heap.size + 2) (w.heap.size + 1) = w.heap.size + 1 := by omega
  rw [hm] at hb
  have HB4 : Hid (Below w.heap.size w w4) := HB3.out.trans (hb.mono (by omega))
  have HE4 : Hid (w4.heap[w.heap.size]? = some (.cells #[.nilIface] 85 (0, 0))) := by
    show _ = _
    rw [hb.block _ (by omega)]; exact HE3.out
  have hs4 : w.heap.size < w4.heap.size := by
    rcases Nat.lt_or_ge w.heap.size w4.heap.size with h | h
    · exact h
    · have := HE4.out; rw [Array.getElem?_eq_none h] at this; cases this
  have hb4 := hcv w4
  have hbel := Lib.bytesWorld_below w4 5 s
  have hcell : ∀ j, j < s.size → (Lib.bytesWorld w4 5 s).cell? ⟨w4.heap.size, j, none⟩ = some (.int .u8 (s.data.toList.getD j 0).toNat) := fun j hj => Lib.bytesWorld_cell w4 5 s j hj
  obtain ⟨W5, hW5⟩ : ∃ W5, W5 = Lib.bytesWorld w4 5 s := ⟨_, rfl⟩
  rw [← hW5] at hb4 hbel hcell
  have HB5 : Hid (Below w.heap.size w W5) := HB4.out.trans (hbel.mono (by omega))
  have e5 : W5.heap[w.heap.size]? = some (.cells #[.nilIface] 85 (0, 0)) := by rw [hbel.block _ (by omega)]; exact HE4.out
  have r0 : W5.cell? ⟨w.heap.size, 0, none⟩ = some .nilIface := by simp [World.cell?, e5]
  have z0 : W5.frozen? ⟨w.heap.size, 0, none⟩ = false := by simp [World.frozen?, e5]
  obtain ⟨cp, hcp⟩ : ∃ cp, cp = grownCap w4 s.size 0 5 := ⟨_, rfl⟩
  rw [← hcp] at hb4
  have HSRC : Hid (BSrc (W5.setCell ⟨w.heap.size, 0, none⟩ .nilIface) (.slice (some ⟨w4.heap.size, 0, none⟩) s.size cp) t) := by
    refine .inr ⟨⟨w4.heap.size, 0, none⟩, cp, by rw [HSS.out], by unfold maxLen; omega, fun j y hj => ?_⟩
    rw [addrAdd, Nat.zero_add, World.cell?_of_block (Below.heap_setCell _ _ _ _ (by simp only; omega)), hcell j (by rw [HSS.out]; exact (List.getElem?_eq_some_iff.1 hj).1), HSD.out]
    congr 2
    rw [List.getD_eq_getElem?_getD, hj]; rfl
  clear hcell hbel hb hcv hW5 hcp e5 HB3 HE3 HE4 HS3
  go_wp2
  refine leaves_cons (f := 62) (args := #[.pointer (some ⟨w.heap.size, 0, none⟩)]) (by simp) (by simp [go_sem]) ?_
  refine (encD_idle _ _).mono ?_
  rintro e u' w9 ⟨rfl, rfl, rfl⟩
  simp [Leaves, settle, results, Tryz.results35, go_sem, r0]
  exact ⟨HSRC.out, HB5.out.setCell (Nat.le_refl _) _⟩
set_option maxRecDepth 100000 in
theorem encD_panic (p : Addr) (m : ByteArray) (older : List PanicEntry) (w : World) (hc : w.cell? p = some .nilIface) (hz : w.frozen? p = false) :
    CallsD Tryz.prog 62 #[.pointer (some p)] (.panicking ({ v := .iface 9 (.string m), recovered := false } :: older)) w fun e u' w' =>
      e = .returned (.tuple #[]) ∧ u' = .panicking ({ v := .iface 9 (.string m), recovered := true } :: older) ∧ ∃ T M, w' = (w.alloc (.cells #[.string m] 223)).setCell p (.iface T M) := by
  refine callsD_of_wpS Tryz.func62 rfl fun c₀ cs hu => ?_
  apply wpS_seq
  apply wpS_region
  simp [wpOpsS, go_sem, recoverD, hu, Tryz.ntmps62, Exit.thenS]
  apply wpS_seq
  apply wpS_region
  simp [wpOpsS, go_sem, Act.eval, Exit.thenS]
  refine wpS_cond (t := true) (by simp [Act.eval, Array.replicate]) ?_
  simp only [if_true]
  have tas : ∀ w, (Instr.typeAssert (.iface 9 (.string m)) 20 9 false).run Tryz.prog w = .ok (.string m) w := fun _ => by kernel_rfl
  refine wpS_of_wp ?_
  simp [Array.replicate]
  go_wp2_with (fail)
  refine (errorsNew_any m w).mono ?_
  rintro e w1 ⟨rfl, hw1⟩
  have hp : p.block < w.heap.size := cell_lt hc
  have hbl : Below w.heap.size w w1 := by rw [← hw1]; exact (Below.refl _ _).alloc (Nat.le_refl _) _
  have hc1 : w1.cell? p = some .nilIface := (hbl.cell hp).trans hc
  have hz1 : w1.frozen? p = false := (hbl.frozen hp).trans hz
  have HW1 := Lib.hid hw1
  clear hc hz hw1 hbl
  go_wp2_with (fail)
  simp [bodyPostS, results, Tryz.results62]
  exact ⟨_, _, by rw [HW1.out]⟩
set_option maxRecDepth 100000 in
set_option maxHeartbeats 8000000 in
theorem encodeCanonical_bad {x : Value} {N : Nat} {w : World} (h : ∀ (b : Nat) (W : World), TL N W → Calls Tryz.prog 64 #[x, .pointer (some ⟨b, 0, none⟩)] W (PanicText W)) (hN : TL N w) :
    Calls Tryz.prog 35 #[x] w fun e w' => ∃ T M, e = .returned (.tuple #[.slice none 0 0, .iface T M]) ∧ Below w.heap.size w w' := by
  have hmf : ∀ (fn : Fn) (first cap : Array Value) (w : World), (Instr.makeFunc fn first cap).run Tryz.prog w = .ok (.func fn first cap) w := fun _ _ _ _ => rfl
  have H := Lib.hid h
  have HN := Lib.hid hN
  obtain ⟨W2, hW2⟩ : ∃ W2, W2 = (w.alloc (.cells #[.nilIface] 85)).alloc (.cells #[.pointer none, .slice none 0 0] 134) := ⟨_, rfl⟩
  have HB2 : Hid (Below w.heap.size w W2) := by
    show Below _ _ _
    rw [hW2]; exact ((Below.refl _ _).alloc (Nat.le_refl _) _).alloc (by rw [World.size_alloc]; omega) _
  have hs2 : W2.heap.size = w.heap.size + 2 := by rw [hW2, World.size_alloc, World.size_alloc]
  have HE2 : Hid (W2.heap[w.heap.size]? = some (.cells #[.nilIface] 85 (0, 0))) := by
    show _ = _
    rw [hW2, Below.heap_alloc _ _ _ (by rw [World.size_alloc]; omega)]
    exact alloc_at _ _
  have HW2 := Lib.hid hW2
  clear h hN hW2
  go_enter_defers Tryz.func35, Tryz.ntmps35
  go_wp2_with (fail)
  rw [← HW2.out]
  clear HW2
  refine (H.out _ W2 (HN.out.mono HN.out.le HB2.out)).mono ?_
  rintro e w3 ⟨m, rfl, hb⟩
  have HB3 : Hid (Below w.heap.size w w3) := HB2.out.trans (hb.mono (by omega))
  have HE3 : w3.heap[w.heap.size]? = some (.cells #[.nilIface] 85 (0, 0)) := by rw [hb.block _ (by omega)]; exact HE2.out
  have r0 : w3.cell? ⟨w.heap.size, 0, none⟩ = some .nilIface := by simp [World.cell?, HE3]
  have z0 : w3.frozen? ⟨w.heap.size, 0, none⟩ = false := by simp [World.frozen?, HE3]
  clear hb HE3
  go_wp2_with (fail)
  refine leaves_cons (f := 62) (args := #[.pointer (some ⟨w.heap.size, 0, none⟩)]) (by simp) (by simp [go_sem]) ?_
  refine (encD_panic _ m _ w3 r0 z0).mono ?_
  rintro e u' w9 ⟨rfl, rfl, T, M, rfl⟩
  have hbl : Below w3.heap.size w3 (w3.alloc (.cells #[.string m] 223)) := (Below.refl _ _).alloc (Nat.le_refl _) _
  have r1 : (w3.alloc (.cells #[.string m] 223)).cell? ⟨w.heap.size, 0, none⟩ = some .nilIface := (hbl.cell (cell_lt r0)).trans r0
  have hsz : w.heap.size ≤ (w3.alloc (.cells #[.string m] 223)).heap.size := by rw [World.size_alloc]; have := HB3.out.size; omega
  simp [Leaves, settle, results, Tryz.results35, go_sem, r1]
  exact (HB3.out.alloc HB3.out.size _).setCell (Nat.le_refl _) _
end Go.Proofs.YtjganhmbjffjfaaGreatDoor
