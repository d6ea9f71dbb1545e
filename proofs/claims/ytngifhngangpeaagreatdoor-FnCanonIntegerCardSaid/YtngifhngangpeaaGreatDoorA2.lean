/- laws.digits. -/
import Derived.Test.YtngifhngangpeaaGreatDoorA1
open Go Go.RowKit
namespace Go.Proofs.YtngifhngangpeaaGreatDoor
theorem dec_step (m : Nat) (h : ¬ m < 10) : Lib.decDigits m = Lib.decDigits (m / 10) ++ [UInt8.ofNat (48 + m % 10)] := by
  conv => lhs; rw [Lib.decDigits, dif_neg h]
theorem dig_cell (m : Nat) : (((UInt8.ofNat (48 + m % 10)).toNat : Nat) : Int) = 48 + (m : Int) % 10 := by
  rw [UInt8.toNat_ofNat_of_lt' (by show _ < 256; omega)]
  omega
/-- What an append to one digit gives. -/
def DigP (w : World) (m : Nat) (acc : List UInt8) (v : Value) (w4 : World) : Prop := BSrc w4 v (UInt8.ofNat (48 + m % 10) :: acc) ∧ Below w.heap.size w w4
set_option maxRecDepth 100000 in
set_option maxHeartbeats 8000000 in
theorem digits_any (n : Nat) (hn : n ≤ 9007199254740992) (w : World) : Calls Tryz.prog 19 #[.int .u64 n] w fun e w' => e = .returned (.string ⟨(Lib.decDigits n).toArray⟩) ∧ Below w.heap.size w w' := by
  obtain ⟨i0, hi, hz0, hz1, hz2⟩ := info_parts info_u8
  have HNL : Hid ((Lib.decDigits n).length ≤ 40) := by
    show _ ≤ _
    rw [← Lib.itoa_nonneg]; exact Nat.le_trans (Lib.itoa_length_le n (by omega) (by omega)) (by decide)
  go_enter Tryz.func19, Tryz.ntmps19
  go_wp2_with (fail)
  go_loopw [0, 3] (fun v0 v3 wr => ∃ (m : Nat) (acc : List UInt8), v0 = .int .u64 m ∧ m ≤ 9007199254740992 ∧ Hid (Lib.decDigits n = Lib.decDigits m ++ acc) ∧ Hid (BSrc wr v3 acc) ∧ Hid (Below w.heap.size w wr)) (fun v0 _ _ => (intOf v0).toNat)
  case atStart => exact ⟨n, [], rfl, hn, by show _ = _; rw [List.append_nil], .inl ⟨rfl, rfl⟩, Below.refl _ _⟩
  case round =>
    obtain ⟨m, acc, rfl, hm, HD, HV, HB⟩ := hrel
    have HLA : Hid (acc.length ≤ 40) := by
      show _ ≤ _
      have h1 := HNL.out
      rw [HD.out, List.length_append] at h1
      omega
    have HX : Hid ([Value.int .u8 (48 + (m : Int) % 10)] = Lib.byteCells [UInt8.ofNat (48 + m % 10)]) := by
      show _ = _
      simp only [Lib.byteCells, List.map_cons, List.map_nil, dig_cell]
    obtain ⟨W, hW⟩ : ∃ W, W = wr.alloc (.cells #[.int .u8 (48 + (m : Int) % 10)] 5) := ⟨_, rfl⟩
    have HOWN : Hid (W.ownsRow wr.heap.size 5 1 (.slice (some ⟨wr.heap.size, 0, none⟩) 1 1) 1 [.int .u8 (48 + (m : Int) % 10)]) := by
      refine ⟨rfl, .inr ⟨wr.heap.size, 1, #[.int .u8 (48 + (m : Int) % 10)], rfl, Nat.le_refl _, ?_, Nat.le_refl _, by decide, rfl, rfl⟩⟩
      rw [hW]; exact alloc_at wr _
    have hbw : Below wr.heap.size wr W := by rw [hW]; exact (Below.refl _ _).alloc (Nat.le_refl _) _
    have HBW := Lib.hid hbw
    have hsW : W.heap.size = wr.heap.size + 1 := by rw [hW, World.size_alloc]
    have HW := Lib.hid hW
    clear hbw hW
    rcases Nat.lt_or_ge m 10 with hlt | hge
    · have h0 : (m : Int) / 10 = 0 := by omega
      have HRES : Hid (Lib.decDigits n = UInt8.ofNat (48 + m % 10) :: acc) := by
        show _ = _
        rw [HD.out, Lib.decDigits_one hlt, Nat.mod_eq_of_lt hlt]; rfl
      rcases HV.out with ⟨rfl, hacc⟩ | ⟨ad, cp, rfl, _, hcell⟩
      · have HACC := Lib.hid hacc
        clear hacc
        have HP : Hid (DigP wr m acc (.slice (some ⟨wr.heap.size, 0, none⟩) 1 1) W) := by
          refine ⟨.of_row (B := wr.heap.size) ?_, HBW.out⟩
          rw [HACC.out, ← HX.out]; exact HOWN.out
        have cv := HP.out.1.conv
        rw [← HRES.out] at cv
        go_wp2_with (at_builtin; rw [← HW.out]; refine wpList_append_own_none rfl _ _ 22 rfl wr.heap.size 5 i0 1 Tryz.underlying22 hi (.slice (some ⟨wr.heap.size, 0, none⟩) 1 1) 1 [.int .u8 (48 + (m : Int) % 10)] rfl HOWN.out rfl ?_)
        clear HOWN HW HV HACC
        go_wp2_with (fail)
        go_ret
        exact ⟨rfl, HB.out.trans (HP.out.2.mono HB.out.size)⟩
      · have HCELL := Lib.hid hcell
        have hla := HLA.out
        have HN2 : Hid (∀ (j : Nat) (u : Value), (Lib.byteCells acc)[j]? = some u → W.cell? (ad.add j) = some u) := by
          intro j u hu
          rw [Lib.byteCells, List.getElem?_map] at hu
          cases e : acc[j]? with
          | none => rw [e] at hu; cases hu
          | some y =>
            rw [e] at hu
            cases hu
            exact (HBW.out.cell (p := ad.add j) (cell_lt (HCELL.out j y e))).trans (HCELL.out j y e)
        clear hcell
        go_wp2_with (at_builtin; rw [← HW.out]; refine wpList_append_own_at _ rfl _ _ 22 rfl wr.heap.size 5 i0 (.int .u8 0) 1 1 Tryz.underlying22 hi hz0 hz1 hz2 rfl (by decide) _ _ _ rfl HOWN.out ad acc.length cp (Lib.byteCells acc) rfl (by rw [byteCells_length, Nat.mul_one]) HN2.out (byte_one acc) (by unfold maxLen; omega) (by omega) (by omega) ?_)
        intro v' w4 hown hgr hnil _
        have HP : Hid (DigP wr m acc v' w4) := by
          refine ⟨.of_row (B := wr.heap.size) ?_, grown_below HBW.out HOWN.out (by omega) hgr⟩
          have e1 : Lib.byteCells (UInt8.ofNat (48 + m % 10) :: acc) = [Value.int .u8 (48 + (m : Int) % 10)] ++ Lib.byteCells acc := by
            rw [HX.out, ← byteCells_append]; rfl
          rw [e1, List.length_cons, Nat.add_comm]
          exact hown
        have cv := HP.out.1.conv
        rw [← HRES.out] at cv
        clear hown hgr hnil HOWN HW HV HN2
        go_wp2_with (fail)
        go_ret
        exact ⟨rfl, HB.out.trans (HP.out.2.mono HB.out.size)⟩
    · have h0 : (m : Int) / 10 = ((m / 10 : Nat) : Int) := by omega
      have h1 : ¬ ((m / 10 : Nat) : Int) = 0 := by omega
      have hq0 : 1 ≤ m / 10 := by omega
      have hqm : m / 10 < m := by omega
      obtain ⟨q, hq⟩ : ∃ q, q = m / 10 := ⟨_, rfl⟩
      rw [← hq] at h0 h1 hq0 hqm
      have HRES : Hid (Lib.decDigits n = Lib.decDigits q ++ UInt8.ofNat (48 + m % 10) :: acc) := by
        show _ = _
        rw [HD.out, dec_step m (by omega), hq, List.append_assoc]; rfl
      clear hq
      rcases HV.out with ⟨rfl, hacc⟩ | ⟨ad, cp, rfl, _, hcell⟩
      · have HACC := Lib.hid hacc
        clear hacc
        have HP : Hid (DigP wr m acc (.slice (some ⟨wr.heap.size, 0, none⟩) 1 1) W) := by
          refine ⟨.of_row (B := wr.heap.size) ?_, HBW.out⟩
          rw [HACC.out, ← HX.out]; exact HOWN.out
        have cv := HP.out.1.conv
        go_wp2_with (at_builtin; rw [← HW.out]; refine wpList_append_own_none rfl _ _ 22 rfl wr.heap.size 5 i0 1 Tryz.underlying22 hi (.slice (some ⟨wr.heap.size, 0, none⟩) 1 1) 1 [.int .u8 (48 + (m : Int) % 10)] rfl HOWN.out rfl ?_)
        clear HOWN HW HV HACC
        clear cv
        go_wp2_with (fail)
        go_roundw
        case rel => exact ⟨q, UInt8.ofNat (48 + m % 10) :: acc, by go_num, by omega, HRES.out, HP.out.1, HB.out.trans (HP.out.2.mono HB.out.size)⟩
        case measure => simp [intOf]; omega
      · have HCELL := Lib.hid hcell
        have hla := HLA.out
        have HN2 : Hid (∀ (j : Nat) (u : Value), (Lib.byteCells acc)[j]? = some u → W.cell? (ad.add j) = some u) := by
          intro j u hu
          rw [Lib.byteCells, List.getElem?_map] at hu
          cases e : acc[j]? with
          | none => rw [e] at hu; cases hu
          | some y =>
            rw [e] at hu
            cases hu
            exact (HBW.out.cell (p := ad.add j) (cell_lt (HCELL.out j y e))).trans (HCELL.out j y e)
        clear hcell
        go_wp2_with (at_builtin; rw [← HW.out]; refine wpList_append_own_at _ rfl _ _ 22 rfl wr.heap.size 5 i0 (.int .u8 0) 1 1 Tryz.underlying22 hi hz0 hz1 hz2 rfl (by decide) _ _ _ rfl HOWN.out ad acc.length cp (Lib.byteCells acc) rfl (by rw [byteCells_length, Nat.mul_one]) HN2.out (byte_one acc) (by unfold maxLen; omega) (by omega) (by omega) ?_)
        intro v' w4 hown hgr hnil _
        have HP : Hid (DigP wr m acc v' w4) := by
          refine ⟨.of_row (B := wr.heap.size) ?_, grown_below HBW.out HOWN.out (by omega) hgr⟩
          have e1 : Lib.byteCells (UInt8.ofNat (48 + m % 10) :: acc) = [Value.int .u8 (48 + (m : Int) % 10)] ++ Lib.byteCells acc := by
            rw [HX.out, ← byteCells_append]; rfl
          rw [e1, List.length_cons, Nat.add_comm]
          exact hown
        have cv := HP.out.1.conv
        clear hown hgr hnil HOWN HW HV HN2
        clear cv
        go_wp2_with (fail)
        go_roundw
        case rel => exact ⟨q, UInt8.ofNat (48 + m % 10) :: acc, by go_num, by omega, HRES.out, HP.out.1, HB.out.trans (HP.out.2.mono HB.out.size)⟩
        case measure => simp [intOf]; omega
end Go.Proofs.YtngifhngangpeaaGreatDoor
