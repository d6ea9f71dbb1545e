/- impl.value at null, at a string, at a list of both. impl.Canon at the closed list. -/
import Derived.Test.YtngifhngangpeaaGreatDoorC5
open Go Go.RowKit
namespace Go.Proofs.YtngifhngangpeaaGreatDoor
set_option maxRecDepth 100000 in
set_option maxHeartbeats 4000000 in
theorem value_null (w : World) : Calls Tryz.prog 42 #[.agg #[.string ⟨#[110, 117, 108, 108]⟩, .string ⟨#[]⟩, .slice none 0 0, .slice none 0 0]] w fun e w' => e = .returned (.tuple #[.nilIface, .bool true]) ∧ Below w.heap.size w w' := by
  go_enter Tryz.func42, Tryz.ntmps42
  go_wp2_with (fail)
  go_ret2
  exact ⟨rfl, (Below.refl _ _).alloc (Nat.le_refl _) _⟩
set_option maxRecDepth 100000 in
set_option maxHeartbeats 4000000 in
theorem value_str (s : ByteArray) (w : World) : Calls Tryz.prog 42 #[.agg #[.string ⟨#[115, 116, 114, 105, 110, 103]⟩, .string s, .slice none 0 0, .slice none 0 0]] w fun e w' => e = .returned (.tuple #[.iface 9 (.string s), .bool true]) ∧ Below w.heap.size w w' := by
  go_enter Tryz.func42, Tryz.ntmps42
  go_wp2_with (fail)
  go_ret2
  exact ⟨rfl, (Below.refl _ _).alloc (Nat.le_refl _) _⟩
theorem own_below {w w' : World} {R k n : Nat} {T : TypeId} {v : Value} {xs : List Value} (h : w.ownsRow R T k v n xs) (hb : Below w.heap.size w w') : w'.ownsRow R T k v n xs := by
  refine ⟨h.1, ?_⟩
  rcases h.2 with hn | ⟨g, cap, cur, rfl, h1, hg, rest⟩
  · exact .inl hn
  · have hl : g < w.heap.size := by
      rcases Nat.lt_or_ge g w.heap.size with hl | hl
      · exact hl
      · rw [Array.getElem?_eq_none hl] at hg; cases hg
    exact .inr ⟨g, cap, cur, rfl, h1, by rw [hb.block g hl]; exact hg, rest⟩
theorem info_any : (Tryz.prog.info? 20).map (fun i => (i.zero, i.size, i.bytes)) = some (some .nilIface, 1, 16) := by kernel_rfl
set_option maxRecDepth 100000 in
set_option maxHeartbeats 8000000 in
theorem value_list2 (s : ByteArray) (g : Nat) (w : World) (hg : w.heap[g]? = some (.cells #[.string ⟨#[110, 117, 108, 108]⟩, .string ⟨#[]⟩, .slice none 0 0, .slice none 0 0, .string ⟨#[115, 116, 114, 105, 110, 103]⟩, .string s, .slice none 0 0, .slice none 0 0] 39 (0, 0))) :
    Calls Tryz.prog 42 #[.agg #[.string ⟨#[108, 105, 115, 116]⟩, .string ⟨#[]⟩, .slice none 0 0, .slice (some ⟨g, 0, none⟩) 2 2]] w fun e w' =>
      ∃ b cp, e = .returned (.tuple #[.iface 118 (.slice (some ⟨b, 0, none⟩) 2 cp), .bool true]) ∧ Below w.heap.size w w' ∧ 2 ≤ cp ∧ cp ≤ maxLen ∧ w.heap.size ≤ b ∧ b < w'.heap.size ∧
        w'.cell? ⟨b, 0, none⟩ = some .nilIface ∧ w'.cell? ⟨b, 1, none⟩ = some (.iface 9 (.string s)) := by
  obtain ⟨i0, hi, hz0, hz1, hz2⟩ := info_parts info_any
  have hgl : g < w.heap.size := by
    rcases Nat.lt_or_ge g w.heap.size with h | h
    · exact h
    · rw [Array.getElem?_eq_none h] at hg; cases hg
  have HG := Lib.hid hg
  clear hg
  obtain ⟨W, hW⟩ : ∃ W, W = (w.alloc (.cells #[.string ⟨#[108, 105, 115, 116]⟩, .string ⟨#[]⟩, .slice none 0 0, .slice (some ⟨g, 0, none⟩) 2 2] 39)).alloc (.cells #[] 20) := ⟨_, rfl⟩
  have hs2 : W.heap.size = w.heap.size + 2 := by rw [hW, World.size_alloc, World.size_alloc]
  have HB : Hid (Below w.heap.size w W) := by
    show Below _ _ _
    rw [hW]; exact ((Below.refl _ _).alloc (Nat.le_refl _) _).alloc (by rw [World.size_alloc]; omega) _
  have HOWN : Hid (W.ownsRow (w.heap.size + 1) 20 1 (.slice (some ⟨w.heap.size + 1, 0, none⟩) 0 0) 0 []) := by
    refine ⟨rfl, .inr ⟨w.heap.size + 1, 0, #[], rfl, Nat.le_refl _, ?_, Nat.le_refl _, by decide, rfl, rfl⟩⟩
    have := alloc_at (w.alloc (.cells #[.string ⟨#[108, 105, 115, 116]⟩, .string ⟨#[]⟩, .slice none 0 0, .slice (some ⟨g, 0, none⟩) 2 2] 39)) (.cells #[] 20)
    rw [World.size_alloc] at this
    rw [hW]; exact this
  have HC : Hid (∀ W', Below w.heap.size w W' → W'.cell? ⟨g, 0, none⟩ = some (.string ⟨#[110, 117, 108, 108]⟩) ∧ W'.cell? ⟨g, 1, none⟩ = some (.string ⟨#[]⟩) ∧ W'.cell? ⟨g, 2, none⟩ = some (.slice none 0 0) ∧ W'.cell? ⟨g, 3, none⟩ = some (.slice none 0 0) ∧
      W'.cell? ⟨g, 4, none⟩ = some (.string ⟨#[115, 116, 114, 105, 110, 103]⟩) ∧ W'.cell? ⟨g, 5, none⟩ = some (.string s) ∧ W'.cell? ⟨g, 6, none⟩ = some (.slice none 0 0) ∧ W'.cell? ⟨g, 7, none⟩ = some (.slice none 0 0)) := by
    intro W' hb
    have := (hb.block g hgl).trans HG.out
    refine ⟨?_, ?_, ?_, ?_, ?_, ?_, ?_, ?_⟩ <;> simp [World.cell?, this]
  have HW := Lib.hid hW
  clear hW
  go_enter Tryz.func42, Tryz.ntmps42
  go_wp2_with (fail)
  rw [← HW.out]
  clear HW HG
  refine wp_loop_rounds 4 ?_
  rw [rounds_succ]
  obtain ⟨c0, c1, c2, c3, _, _, _, _⟩ := HC.out W HB.out
  go_wp2_with (fail)
  refine (value_null _).mono ?_
  rintro e w1a ⟨rfl, hb⟩
  have hbe1 : Below W.heap.size W w1a := ((Below.refl _ _).alloc (Nat.le_refl _) _).trans (hb.mono (by rw [World.size_alloc]; omega))
  have HB1a : Hid (Below w.heap.size w w1a) := HB.out.trans (hbe1.mono HB.out.size)
  have HO1a := Lib.hid (own_below HOWN.out hbe1)
  have hsz1a : w.heap.size + 2 ≤ w1a.heap.size := by have := hbe1.size; omega
  clear hb hbe1
  obtain ⟨w1b, hw1b⟩ : ∃ w1b, w1b = w1a.alloc (.cells #[.nilIface] 20) := ⟨_, rfl⟩
  have hbf1 : Below w1a.heap.size w1a w1b := by rw [hw1b]; exact (Below.refl _ _).alloc (Nat.le_refl _) _
  have HB1b : Hid (Below w.heap.size w w1b) := HB1a.out.trans (hbf1.mono HB1a.out.size)
  have HO1b := Lib.hid (own_below HO1a.out hbf1)
  have HN1 : Hid (∀ (j : Nat) (u : Value), [.nilIface][j]? = some u → w1b.cell? ((⟨w1a.heap.size, 0, none⟩ : Addr).add j) = some u) := by
    intro j u hu
    match j, hu with
    | 0, hu =>
      cases hu
      rw [hw1b, addrAdd, World.cell?, alloc_at]
      rfl
    | j + 1, hu => cases hu
  have hsz1b : w.heap.size + 3 ≤ w1b.heap.size := by rw [hw1b, World.size_alloc]; omega
  have HW1b := Lib.hid hw1b
  clear hbf1 hw1b
  go_wp2_with (at_builtin; rw [← HW1b.out]; refine wpList_append_own_at _ rfl _ _ 118 rfl (w.heap.size + 1) 20 i0 .nilIface 1 16 Tryz.underlying118 hi hz0 hz1 hz2 rfl (by decide) _ _ _ rfl HO1b.out ⟨w1a.heap.size, 0, none⟩ 1 1 [.nilIface] rfl rfl HN1.out (by intro u hu; rw [List.mem_singleton.1 hu]; rfl) (by unfold maxLen; omega) (by omega) (by omega) ?_)
  intro v1 w1c hown hgr _ _
  have HB1c : Hid (Below (w.heap.size + 1) w1b w1c) := grown_below (Below.refl _ _) HO1b.out (by omega) hgr
  have HB1d : Hid (Below w.heap.size w w1c) := HB1b.out.trans (HB1c.out.mono (by omega))
  have HO1c := Lib.hid hown
  have hsz1c : w.heap.size + 3 ≤ w1c.heap.size := by have := HB1c.out.size; omega
  clear hown hgr
  go_wp2_with (fail)
  clear c0 c1 c2 c3
  rw [rounds_succ]
  obtain ⟨_, _, _, _, c4, c5, c6, c7⟩ := HC.out w1c HB1d.out
  go_wp2_with (fail)
  refine (value_str s _).mono ?_
  rintro e w2a ⟨rfl, hb⟩
  have hbe2 : Below w1c.heap.size w1c w2a := ((Below.refl _ _).alloc (Nat.le_refl _) _).trans (hb.mono (by rw [World.size_alloc]; omega))
  have HB2a : Hid (Below w.heap.size w w2a) := HB1d.out.trans (hbe2.mono HB1d.out.size)
  have HO2a := Lib.hid (own_below HO1c.out hbe2)
  have hsz2a : w.heap.size + 2 ≤ w2a.heap.size := by have := hbe2.size; omega
  clear hb hbe2
  obtain ⟨w2b, hw2b⟩ : ∃ w2b, w2b = w2a.alloc (.cells #[.iface 9 (.string s)] 20) := ⟨_, rfl⟩
  have hbf2 : Below w2a.heap.size w2a w2b := by rw [hw2b]; exact (Below.refl _ _).alloc (Nat.le_refl _) _
  have HB2b : Hid (Below w.heap.size w w2b) := HB2a.out.trans (hbf2.mono HB2a.out.size)
  have HO2b := Lib.hid (own_below HO2a.out hbf2)
  have HN2 : Hid (∀ (j : Nat) (u : Value), [.iface 9 (.string s)][j]? = some u → w2b.cell? ((⟨w2a.heap.size, 0, none⟩ : Addr).add j) = some u) := by
    intro j u hu
    match j, hu with
    | 0, hu =>
      cases hu
      rw [hw2b, addrAdd, World.cell?, alloc_at]
      rfl
    | j + 1, hu => cases hu
  have hsz2b : w.heap.size + 3 ≤ w2b.heap.size := by rw [hw2b, World.size_alloc]; omega
  have HW2b := Lib.hid hw2b
  clear hbf2 hw2b
  go_wp2_with (at_builtin; rw [← HW2b.out]; refine wpList_append_own_at _ rfl _ _ 118 rfl (w.heap.size + 1) 20 i0 .nilIface 1 16 Tryz.underlying118 hi hz0 hz1 hz2 rfl (by decide) _ _ _ rfl HO2b.out ⟨w2a.heap.size, 0, none⟩ 1 1 [.iface 9 (.string s)] rfl rfl HN2.out (by intro u hu; rw [List.mem_singleton.1 hu]; rfl) (by unfold maxLen; omega) (by omega) (by omega) ?_)
  intro v2 w2c hown hgr _ _
  have HB2c : Hid (Below (w.heap.size + 1) w2b w2c) := grown_below (Below.refl _ _) HO2b.out (by omega) hgr
  have HB2d : Hid (Below w.heap.size w w2c) := HB2b.out.trans (HB2c.out.mono (by omega))
  have HO2c := Lib.hid hown
  have hsz2c : w.heap.size + 3 ≤ w2c.heap.size := by have := HB2c.out.size; omega
  clear hown hgr
  go_wp2_with (fail)
  clear c4 c5 c6 c7
  rw [rounds_succ]
  obtain ⟨b, cp, rfl, hb1, hb2, hb3, hb4⟩ : ∃ b cp, v2 = .slice (some ⟨b, 0, none⟩) 2 cp ∧ w.heap.size ≤ b ∧ b < w2c.heap.size ∧ 2 ≤ cp ∧ cp ≤ maxLen := by
    rcases HO2c.out.2 with ⟨_, h0⟩ | ⟨b, cap, cur, rfl, h1, h2, h3, h4, _⟩
    · cases h0
    · refine ⟨b, cap, rfl, by omega, ?_, h3, h4⟩
      rcases Nat.lt_or_ge b w2c.heap.size with h | h
      · exact h
      · rw [Array.getElem?_eq_none h] at h2; cases h2
  have HR : Hid (w2c.cell? ⟨b, 0, none⟩ = some .nilIface ∧ w2c.cell? ⟨b, 1, none⟩ = some (.iface 9 (.string s))) := ⟨HO2c.out.cells (g := b) rfl 0 _ rfl, HO2c.out.cells (g := b) rfl 1 _ rfl⟩
  go_wp2_with (fail)
  go_ret2
  exact ⟨b, cp, rfl, HB2d.out, hb3, hb4, hb1, hb2, HR.out⟩
def canT (s : ByteArray) : List UInt8 := 91 :: joinC [[110, 117, 108, 108], encStr s.data.toList] ++ [93]
set_option maxRecDepth 100000 in
set_option maxHeartbeats 8000000 in
theorem canon_list2 (s : ByteArray) (g : Nat) (w : World) (hs : s.size ≤ 65536) (hg : w.heap[g]? = some (.cells #[.string ⟨#[110, 117, 108, 108]⟩, .string ⟨#[]⟩, .slice none 0 0, .slice none 0 0, .string ⟨#[115, 116, 114, 105, 110, 103]⟩, .string s, .slice none 0 0, .slice none 0 0] 39 (0, 0))) :
    Calls Tryz.prog 20 #[.agg #[.string ⟨#[108, 105, 115, 116]⟩, .string ⟨#[]⟩, .slice none 0 0, .slice (some ⟨g, 0, none⟩) 2 2]] w fun e w' => ∃ v, e = .returned (.tuple #[v, .bool true]) ∧ BSrc w' v (canT s) ∧ Below w.heap.size w w' := by
  have hgl : g < w.heap.size := by
    rcases Nat.lt_or_ge g w.heap.size with h | h
    · exact h
    · rw [Array.getElem?_eq_none h] at hg; cases hg
  obtain ⟨W, hW⟩ : ∃ W, W = w.alloc (.cells #[.string ⟨#[108, 105, 115, 116]⟩, .string ⟨#[]⟩, .slice none 0 0, .slice (some ⟨g, 0, none⟩) 2 2] 39) := ⟨_, rfl⟩
  have HB : Hid (Below w.heap.size w W) := by show Below _ _ _; rw [hW]; exact (Below.refl _ _).alloc (Nat.le_refl _) _
  have HG : Hid (W.heap[g]? = some (.cells #[.string ⟨#[110, 117, 108, 108]⟩, .string ⟨#[]⟩, .slice none 0 0, .slice none 0 0, .string ⟨#[115, 116, 114, 105, 110, 103]⟩, .string s, .slice none 0 0, .slice none 0 0] 39 (0, 0))) := (HB.out.block g hgl).trans hg
  have HW := Lib.hid hW
  have HS := Lib.hid hs
  clear hW hg hs
  go_enter Tryz.func20, Tryz.ntmps20
  go_wp2_with (fail)
  rw [← HW.out]
  clear HW
  refine (value_list2 s g W HG.out).mono ?_
  rintro e w1 ⟨b, cp, rfl, hb, h1, h2, h3, h4, h5, h6⟩
  have HB1 := Lib.hid (HB.out.trans (hb.mono HB.out.size))
  have HCV : Hid (CV (fun k => k = b) w1 (.iface 118 (.slice (some ⟨b, 0, none⟩) 2 cp)) (canT s)) := by
    refine CV.list b 2 cp [(.nilIface, [110, 117, 108, 108]), (.iface 9 (.string s), encStr s.data.toList)] rfl h4 rfl h1 h2 ?_ ?_
    · intro x hx
      simp only [List.mem_cons, List.not_mem_nil, or_false] at hx
      rcases hx with rfl | rfl
      · exact .null
      · exact .str s (by have := HS.out; omega)
    · intro j x hj
      match j, hj with
      | 0, hj => cases hj; exact h5
      | 1, hj => cases hj; exact h6
      | j + 2, hj => cases hj
  have HL : Hid ((canT s).length ≤ 4294967296) := by
    show _ ≤ _
    have h1 := rep_le2 92 92 92 s.data.toList
    have h2 := rep_le2 34 92 34 (repB 92 [92, 92] s.data.toList)
    have h3 : s.data.toList.length = s.size := (Lib.size_eq s).symm
    have := HS.out
    simp only [canT, joinC, encStr, List.flatMap_cons, List.flatMap_nil, List.length_append, List.length_cons, List.length_nil]
    omega
  clear hb h1 h2 h5 h6
  go_wp2_with (fail)
  refine (encodeCanonical_any HCV.out (fun i hi => by have : i = b := hi; omega) HL.out).mono ?_
  rintro e w2 ⟨v, rfl, hv, hb⟩
  have HV := Lib.hid hv
  have HB2 := Lib.hid (HB1.out.trans (hb.mono HB1.out.size))
  clear hv hb
  go_wp2_with (fail)
  go_quiet (fail)
  go_wp2_with (fail)
  go_ret2
  exact ⟨v, rfl, HV.out, ⟨HB2.out.os, HB2.out.tape, HB2.out.output, HB2.out.size, HB2.out.block⟩⟩
end Go.Proofs.YtngifhngangpeaaGreatDoor
