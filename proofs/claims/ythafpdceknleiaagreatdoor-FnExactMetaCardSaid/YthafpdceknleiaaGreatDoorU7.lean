/- impl.Unique. -/
import Derived.Test.YthafpdceknleiaaGreatDoorU6
open Go Go.RowKit
namespace Go.Proofs.YthafpdceknleiaaGreatDoor
/-- What impl.Unique leaves. -/
def UnP (ids : List ByteArray) (w : World) (e : Ending) (w' : World) : Prop :=
  Below w.heap.size w w' ∧ ((e = .returned (.int .i64 0) ∧ DisT ids ids.length) ∨ e = .returned (.int .i64 1) ∧ ¬ DisT ids ids.length)
theorem cu_code {ids : List ByteArray} {w : World} {e : Ending} {w' : World} (h : CuP ids w e w') : ∃ (v : Value) (c : Int), e = .returned v ∧ Calls Tryz.prog 38 #[v] w' (fun e2 w2 => e2 = .returned (.int .i64 c) ∧ w2 = w') ∧ ((c = 0 ∧ DisT ids ids.length) ∨ (c = 1 ∧ ¬ DisT ids ids.length)) := by
  rcases h.2 with ⟨rfl, hd⟩ | ⟨⟨v, rfl⟩, hd⟩
  · exact ⟨_, 0, rfl, code_nil w', .inl ⟨rfl, hd⟩⟩
  · exact ⟨_, 1, rfl, code_value v w', .inr ⟨rfl, hd⟩⟩
set_option maxRecDepth 100000 in
set_option maxHeartbeats 8000000 in
theorem implUnique_any (k : ByteArray) (hk : k.size ≤ 1000) (f : MF) {ao : Option Addr} {n c : Nat} {l : List (ByteArray × Int)} {N : Nat} {w : World} (h : SigR w (.slice ao n c) l) (hl : l.length ≤ 60) (hN : TL N w) : Calls Tryz.prog 12 #[gMeta k f ao n c] w (UnP (l.map (·.1)) w) := by
  obtain ⟨n1, n2, a3, l3, c3, a4, l4, c4, a5, l5, c5, y6, a7, l7, c7, y8, a9, l9, c9, y10, a11, l11, c11, n12, n13, s14, a16, l16, c16⟩ := f
  obtain ⟨W1, hW1⟩ : ∃ W1, W1 = w.alloc (.cells #[.string k, .int .i64 n1, .int .i64 n2, .slice a3 l3 c3, .slice a4 l4 c4, .slice a5 l5 c5, .bool y6, .slice a7 l7 c7, .bool y8, .slice a9 l9 c9, .bool y10, .slice a11 l11 c11, .int .i64 n12, .int .i64 n13, .string s14, .slice ao n c, .slice a16 l16 c16] 34) := ⟨_, rfl⟩
  have HB1 : Hid (Below w.heap.size w W1) := by rw [hW1]; exact Lib.hid ((Below.refl _ _).alloc (Nat.le_refl _) _)
  have HS : Hid (Calls Tryz.prog 40 #[gMeta k ⟨n1, n2, a3, l3, c3, a4, l4, c4, a5, l5, c5, y6, a7, l7, c7, y8, a9, l9, c9, y10, a11, l11, c11, n12, n13, s14, a16, l16, c16⟩ ao n c] W1 (SigsP l W1)) := Lib.hid (sigs_any k hk ⟨n1, n2, a3, l3, c3, a4, l4, c4, a5, l5, c5, y6, a7, l7, c7, y8, a9, l9, c9, y10, a11, l11, c11, n12, n13, s14, a16, l16, c16⟩ (h.stay HB1.out) hl (hN.below HB1.out))
  have HL := Lib.hid hl
  have HC : Hid (W1.cell? ⟨w.heap.size, 0, none⟩ = some (.string k) ∧ W1.cell? ⟨w.heap.size, 1, none⟩ = some (.int .i64 n1) ∧ W1.cell? ⟨w.heap.size, 2, none⟩ = some (.int .i64 n2) ∧ W1.cell? ⟨w.heap.size, 3, none⟩ = some (.slice a3 l3 c3) ∧ W1.cell? ⟨w.heap.size, 4, none⟩ = some (.slice a4 l4 c4) ∧ W1.cell? ⟨w.heap.size, 5, none⟩ = some (.slice a5 l5 c5) ∧ W1.cell? ⟨w.heap.size, 6, none⟩ = some (.bool y6) ∧ W1.cell? ⟨w.heap.size, 7, none⟩ = some (.slice a7 l7 c7) ∧ W1.cell? ⟨w.heap.size, 8, none⟩ = some (.bool y8) ∧ W1.cell? ⟨w.heap.size, 9, none⟩ = some (.slice a9 l9 c9) ∧ W1.cell? ⟨w.heap.size, 10, none⟩ = some (.bool y10) ∧ W1.cell? ⟨w.heap.size, 11, none⟩ = some (.slice a11 l11 c11) ∧ W1.cell? ⟨w.heap.size, 12, none⟩ = some (.int .i64 n12) ∧ W1.cell? ⟨w.heap.size, 13, none⟩ = some (.int .i64 n13) ∧ W1.cell? ⟨w.heap.size, 14, none⟩ = some (.string s14) ∧ W1.cell? ⟨w.heap.size, 15, none⟩ = some (.slice ao n c) ∧ W1.cell? ⟨w.heap.size, 16, none⟩ = some (.slice a16 l16 c16)) := by
    have hc := alloc_at w (.cells #[.string k, .int .i64 n1, .int .i64 n2, .slice a3 l3 c3, .slice a4 l4 c4, .slice a5 l5 c5, .bool y6, .slice a7 l7 c7, .bool y8, .slice a9 l9 c9, .bool y10, .slice a11 l11 c11, .int .i64 n12, .int .i64 n13, .string s14, .slice ao n c, .slice a16 l16 c16] 34)
    rw [← hW1] at hc
    refine ⟨?_, ?_, ?_, ?_, ?_, ?_, ?_, ?_, ?_, ?_, ?_, ?_, ?_, ?_, ?_, ?_, ?_⟩ <;> simp [World.cell?, hc]
  clear h hl hN hk
  simp only [gMeta] at HS ⊢
  go_enter Tryz.func12, Tryz.ntmps12
  go_upto_region 1 with (fail)
  rw [← hW1]
  obtain ⟨c0, c1, c2, c3, c4, c5, c6, c7, c8, c9, c10, c11, c12, c13, c14, c15, c16⟩ := HC.out
  clear hW1
  go_wp2_with (first
    | (go_at_call 40; refine HS.out.mono ?_; rintro e ws ⟨sv, us, rfl, hus, hsl, hown, hb⟩
       obtain ⟨so, sc, rfl⟩ := own_slice' hown
       have HCU := Lib.hid (checkUnique_any hus hsl hown rfl HL.out)
       unfold rootM at HCU
       have HBs := Lib.hid hb
       clear hus hsl hown hb
       clear c0 c1 c2 c3 c4 c5 c6 c7 c8 c9 c10 c11 c12 c13 c14 c15 c16)
    | (go_at_call 39; refine HCU.out.mono ?_
       rintro e w2 hcu
       have HBt := Lib.hid hcu.1
       obtain ⟨v, c', rfl, hco, hd⟩ := cu_code hcu
       have HCO := Lib.hid hco
       have HD := Lib.hid hd
       clear hcu hco hd HCU)
    | (go_at_call 38; refine HCO.out.mono ?_; rintro e w' ⟨rfl, rfl⟩))
  go_ret
  rcases HD.out with ⟨rfl, hd⟩ | ⟨rfl, hd⟩
  · exact ⟨HB1.out.trans ((HBs.out.trans (HBt.out.mono HBs.out.size)).mono HB1.out.size), .inl ⟨rfl, hd⟩⟩
  · exact ⟨HB1.out.trans ((HBs.out.trans (HBt.out.mono HBs.out.size)).mono HB1.out.size), .inr ⟨rfl, hd⟩⟩
end Go.Proofs.YthafpdceknleiaaGreatDoor
