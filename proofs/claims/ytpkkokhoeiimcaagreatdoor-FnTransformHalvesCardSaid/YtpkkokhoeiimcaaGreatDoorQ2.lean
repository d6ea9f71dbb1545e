/- laws.escaped. -/
import Derived.Test.YtpkkokhoeiimcaaGreatDoorV1
import Derived.Test.YtpkkokhoeiimcaaGreatDoorV0
import Derived.Test.YtpkkokhoeiimcaaGreatDoorP3
open Go Go.RowKit
namespace Go.Proofs.YtpkkokhoeiimcaaGreatDoor
/-- append(out, several bytes). -/
theorem wpList_appN {ops : Array Oper} {rest : List Oper} {o : Oper} {a : Act} {Q : Exit → Act → World → Prop} (hgd : o.guard = none) (x y : Operand)
    (ho : o.op = .call { callee := .builtin .append, args := #[x, y], argTypes := #[22, 22] }) (B : Nat) (w : World) (l ds : List UInt8) (C : Array Value) (hC : C.toList = Lib.byteCells ds) {v : Value} (hO : OwnB w B v l) (hB : B ≤ w.heap.size) (hl : l.length + ds.length ≤ 140737488355328)
    (hx : a.eval x = v) (hy : a.eval y = .slice (some ⟨w.heap.size, 0, none⟩) ds.length ds.length)
    (h : ∀ v' w', OwnB w' B v' (l ++ ds) → Below B w w' → wpList Tryz.prog ops Q rest (a.put o.dst v') w') :
    wpList Tryz.prog ops Q (o :: rest) a (w.alloc (.cells C 5)) := by
  obtain ⟨i0, hi, hz0, hz1, hz2⟩ := info_parts info_u8
  refine wpList_append_own_at _ hgd x y 22 ho B 5 i0 (.int .u8 0) 1 1 Tryz.underlying22 hi hz0 hz1 hz2 rfl (by decide) v l.length (Lib.byteCells l) hx (ownsRow_alloc hO _) ⟨w.heap.size, 0, none⟩ ds.length ds.length (Lib.byteCells ds) hy (by rw [byteCells_length, Nat.mul_one]) (fun j u hj => ?_) (byte_one ds) (by unfold maxLen; omega) (by omega) (by rw [World.size_alloc]; omega) ?_
  · rw [addrAdd, Nat.zero_add, World.cell?, alloc_at]
    simp only
    rw [← Array.getElem?_toList, hC]
    exact hj
  intro v' w4 hown hgr _ _
  refine h v' w4 ?_ (grown_below ((Below.refl _ _).alloc hB _) (ownsRow_alloc hO _) (by rw [World.size_alloc]; omega) hgr)
  unfold OwnB
  rw [byteCells_append, List.length_append]
  exact hown
theorem decB_flat_snoc (l : List UInt8) (c : UInt8) : (l ++ [c]).flatMap decB = l.flatMap decB ++ decB c := by simp
theorem esc_next0 (w : World) (ty : TypeId) : (Instr.next (.pointer (some ⟨w.heap.size, 0, none⟩)) true ty).run Tryz.prog (w.iter ⟨#[8, 9, 10, 12, 13, 34, 92]⟩ 0) = .ok (.tuple #[.bool true, .int .i64 0, .int .i32 8]) (w.iter ⟨#[8, 9, 10, 12, 13, 34, 92]⟩ 1) := run_next_any w ⟨#[8, 9, 10, 12, 13, 34, 92]⟩ 0 ty (by decide)
theorem esc_next1 (w : World) (ty : TypeId) : (Instr.next (.pointer (some ⟨w.heap.size, 0, none⟩)) true ty).run Tryz.prog (w.iter ⟨#[8, 9, 10, 12, 13, 34, 92]⟩ 1) = .ok (.tuple #[.bool true, .int .i64 1, .int .i32 9]) (w.iter ⟨#[8, 9, 10, 12, 13, 34, 92]⟩ 2) := run_next_any w ⟨#[8, 9, 10, 12, 13, 34, 92]⟩ 1 ty (by decide)
theorem esc_next2 (w : World) (ty : TypeId) : (Instr.next (.pointer (some ⟨w.heap.size, 0, none⟩)) true ty).run Tryz.prog (w.iter ⟨#[8, 9, 10, 12, 13, 34, 92]⟩ 2) = .ok (.tuple #[.bool true, .int .i64 2, .int .i32 10]) (w.iter ⟨#[8, 9, 10, 12, 13, 34, 92]⟩ 3) := run_next_any w ⟨#[8, 9, 10, 12, 13, 34, 92]⟩ 2 ty (by decide)
theorem esc_next3 (w : World) (ty : TypeId) : (Instr.next (.pointer (some ⟨w.heap.size, 0, none⟩)) true ty).run Tryz.prog (w.iter ⟨#[8, 9, 10, 12, 13, 34, 92]⟩ 3) = .ok (.tuple #[.bool true, .int .i64 3, .int .i32 12]) (w.iter ⟨#[8, 9, 10, 12, 13, 34, 92]⟩ 4) := run_next_any w ⟨#[8, 9, 10, 12, 13, 34, 92]⟩ 3 ty (by decide)
theorem esc_next4 (w : World) (ty : TypeId) : (Instr.next (.pointer (some ⟨w.heap.size, 0, none⟩)) true ty).run Tryz.prog (w.iter ⟨#[8, 9, 10, 12, 13, 34, 92]⟩ 4) = .ok (.tuple #[.bool true, .int .i64 4, .int .i32 13]) (w.iter ⟨#[8, 9, 10, 12, 13, 34, 92]⟩ 5) := run_next_any w ⟨#[8, 9, 10, 12, 13, 34, 92]⟩ 4 ty (by decide)
theorem esc_next5 (w : World) (ty : TypeId) : (Instr.next (.pointer (some ⟨w.heap.size, 0, none⟩)) true ty).run Tryz.prog (w.iter ⟨#[8, 9, 10, 12, 13, 34, 92]⟩ 5) = .ok (.tuple #[.bool true, .int .i64 5, .int .i32 34]) (w.iter ⟨#[8, 9, 10, 12, 13, 34, 92]⟩ 6) := run_next_any w ⟨#[8, 9, 10, 12, 13, 34, 92]⟩ 5 ty (by decide)
theorem esc_next6 (w : World) (ty : TypeId) : (Instr.next (.pointer (some ⟨w.heap.size, 0, none⟩)) true ty).run Tryz.prog (w.iter ⟨#[8, 9, 10, 12, 13, 34, 92]⟩ 6) = .ok (.tuple #[.bool true, .int .i64 6, .int .i32 92]) (w.iter ⟨#[8, 9, 10, 12, 13, 34, 92]⟩ 7) := run_next_any w ⟨#[8, 9, 10, 12, 13, 34, 92]⟩ 6 ty (by decide)
theorem esc_next7 (w : World) (ty : TypeId) : (Instr.next (.pointer (some ⟨w.heap.size, 0, none⟩)) true ty).run Tryz.prog (w.iter ⟨#[8, 9, 10, 12, 13, 34, 92]⟩ 7) = .ok (.tuple #[.bool false]) (w.iter ⟨#[8, 9, 10, 12, 13, 34, 92]⟩ 7) := run_next_end w ⟨#[8, 9, 10, 12, 13, 34, 92]⟩ 7 ty (by decide)
/-- What holds at a round's head. -/
def EscR (s : ByteArray) (w : World) (v : Value) (k : Nat) (wr : World) : Prop := OwnB wr w.heap.size v (34 :: (s.data.toList.take k).flatMap decB) ∧ Below w.heap.size w wr
set_option maxRecDepth 100000 in
set_option maxHeartbeats 8000000 in
theorem escaped_any (s : ByteArray) (hs : s.size ≤ 1073741824) (w : World) : Calls Tryz.prog 13 #[.string s] w fun e w' => e = .returned (.string ⟨(deco s.data.toList).toArray⟩) ∧ Below w.heap.size w w' := by
  obtain ⟨W, hW⟩ : ∃ W, W = w.alloc (.cells #[.int .u8 34] 5) := ⟨_, rfl⟩
  have HO0 : Hid (OwnB W w.heap.size (.slice (some ⟨w.heap.size, 0, none⟩) 1 1) [34]) := by show OwnB _ _ _ _; rw [hW]; exact OwnB.new w 34
  have HB0 : Hid (Below w.heap.size w W) := by show Below _ _ _; rw [hW]; exact (Below.refl _ _).alloc (Nat.le_refl _) _
  have HW := Lib.hid hW
  clear hW
  go_enter Tryz.func13, Tryz.ntmps13
  go_wp2_with (fail)
  rw [← HW.out]
  go_loopw [3, 4] (fun v i wr => ∃ k : Nat, i = .int .i64 k ∧ k ≤ s.size ∧ Hid (EscR s w v k wr)) (fun _ i _ => s.size - (intOf i).toNat)
  case atStart => exact ⟨0, rfl, Nat.zero_le _, HO0.out, HB0.out⟩
  case round =>
    obtain ⟨k, rfl, hk, HR⟩ := hrel
    have HL : Hid ((34 :: (s.data.toList.take k).flatMap decB).length + 6 ≤ 140737488355328) := by
      show _ ≤ _
      have h1 := flat_len (s.data.toList.take k)
      have h2 : (s.data.toList.take k).length ≤ k := List.length_take_le _ _
      rw [List.length_cons]; omega
    have HO7 := Lib.hid (HR.out.1.stay (iter_below wr ⟨#[8, 9, 10, 12, 13, 34, 92]⟩ 7))
    have HB7 : Hid (Below w.heap.size w (wr.iter ⟨#[8, 9, 10, 12, 13, 34, 92]⟩ 7)) := HR.out.2.trans ((iter_below wr ⟨#[8, 9, 10, 12, 13, 34, 92]⟩ 7).mono HR.out.2.size)
    have hB7 := HB7.out.size
    have n0 := esc_next0 wr
    have n1 := esc_next1 wr
    have n2 := esc_next2 wr
    have n3 := esc_next3 wr
    have n4 := esc_next4 wr
    have n5 := esc_next5 wr
    have n6 := esc_next6 wr
    have n7 := esc_next7 wr
    by_cases hlt : k < s.size
    · have HT : Hid (34 :: (s.data.toList.take (k + 1)).flatMap decB = (34 :: (s.data.toList.take k).flatMap decB) ++ decB s[k]) := by show _ = _; rw [take_snoc' s k hlt, decB_flat_snoc]; rfl
      by_cases h0 : s[k] = 0
      · have i1 : ((s[k].toNat : Nat) : Int) = 0 := by rw [h0]; rfl
        have HF : Hid (34 :: (s.data.toList.take (k + 1)).flatMap decB = (34 :: (s.data.toList.take k).flatMap decB) ++ [92, 117, 48, 48, 48, 48]) := by show _ = _; rw [HT.out, h0]; rfl
        clear h0 HT
        go_wp2_with (fail)
        refine wp_loop_rounds 9 ?_
        rw [rounds_succ]
        go_wp2_with (fail)
        rw [rounds_succ]
        go_wp2_with (fail)
        rw [rounds_succ]
        go_wp2_with (fail)
        rw [rounds_succ]
        go_wp2_with (fail)
        rw [rounds_succ]
        go_wp2_with (fail)
        rw [rounds_succ]
        go_wp2_with (fail)
        rw [rounds_succ]
        go_wp2_with (fail)
        rw [rounds_succ]
        go_wp2_with (at_builtin; refine wpList_appN rfl _ _ rfl w.heap.size (wr.iter ⟨#[8, 9, 10, 12, 13, 34, 92]⟩ 7) _ [92, 117, 48, 48, 48, 48] _ rfl HO7.out hB7 (Nat.le_trans (Nat.add_le_add_left (by decide) _) HL.out) rfl rfl ?_)
        intro v' w' ho hb
        have HR2 : Hid (EscR s w v' (k + 1) w') := ⟨by rw [HF.out]; exact ho, HB7.out.trans hb⟩
        clear ho hb HF HL HO7 n0 n1 n2 n3 n4 n5 n6 n7
        go_wp2_with (fail)
        go_roundw
        case rel => exact ⟨k + 1, by go_num, by omega, HR2⟩
        case measure => simp [intOf]; omega
      by_cases h1 : s[k] = 1
      · have i1 : ((s[k].toNat : Nat) : Int) = 1 := by rw [h1]; rfl
        have HF : Hid (34 :: (s.data.toList.take (k + 1)).flatMap decB = (34 :: (s.data.toList.take k).flatMap decB) ++ [92, 117, 48, 48, 48, 49]) := by show _ = _; rw [HT.out, h1]; rfl
        clear h1 HT h0
        go_wp2_with (fail)
        refine wp_loop_rounds 9 ?_
        rw [rounds_succ]
        go_wp2_with (fail)
        rw [rounds_succ]
        go_wp2_with (fail)
        rw [rounds_succ]
        go_wp2_with (fail)
        rw [rounds_succ]
        go_wp2_with (fail)
        rw [rounds_succ]
        go_wp2_with (fail)
        rw [rounds_succ]
        go_wp2_with (fail)
        rw [rounds_succ]
        go_wp2_with (fail)
        rw [rounds_succ]
        go_wp2_with (at_builtin; refine wpList_appN rfl _ _ rfl w.heap.size (wr.iter ⟨#[8, 9, 10, 12, 13, 34, 92]⟩ 7) _ [92, 117, 48, 48, 48, 49] _ rfl HO7.out hB7 (Nat.le_trans (Nat.add_le_add_left (by decide) _) HL.out) rfl rfl ?_)
        intro v' w' ho hb
        have HR2 : Hid (EscR s w v' (k + 1) w') := ⟨by rw [HF.out]; exact ho, HB7.out.trans hb⟩
        clear ho hb HF HL HO7 n0 n1 n2 n3 n4 n5 n6 n7
        go_wp2_with (fail)
        go_roundw
        case rel => exact ⟨k + 1, by go_num, by omega, HR2⟩
        case measure => simp [intOf]; omega
      by_cases h2 : s[k] = 2
      · have i1 : ((s[k].toNat : Nat) : Int) = 2 := by rw [h2]; rfl
        have HF : Hid (34 :: (s.data.toList.take (k + 1)).flatMap decB = (34 :: (s.data.toList.take k).flatMap decB) ++ [92, 117, 48, 48, 48, 50]) := by show _ = _; rw [HT.out, h2]; rfl
        clear h2 HT h0 h1
        go_wp2_with (fail)
        refine wp_loop_rounds 9 ?_
        rw [rounds_succ]
        go_wp2_with (fail)
        rw [rounds_succ]
        go_wp2_with (fail)
        rw [rounds_succ]
        go_wp2_with (fail)
        rw [rounds_succ]
        go_wp2_with (fail)
        rw [rounds_succ]
        go_wp2_with (fail)
        rw [rounds_succ]
        go_wp2_with (fail)
        rw [rounds_succ]
        go_wp2_with (fail)
        rw [rounds_succ]
        go_wp2_with (at_builtin; refine wpList_appN rfl _ _ rfl w.heap.size (wr.iter ⟨#[8, 9, 10, 12, 13, 34, 92]⟩ 7) _ [92, 117, 48, 48, 48, 50] _ rfl HO7.out hB7 (Nat.le_trans (Nat.add_le_add_left (by decide) _) HL.out) rfl rfl ?_)
        intro v' w' ho hb
        have HR2 : Hid (EscR s w v' (k + 1) w') := ⟨by rw [HF.out]; exact ho, HB7.out.trans hb⟩
        clear ho hb HF HL HO7 n0 n1 n2 n3 n4 n5 n6 n7
        go_wp2_with (fail)
        go_roundw
        case rel => exact ⟨k + 1, by go_num, by omega, HR2⟩
        case measure => simp [intOf]; omega
      by_cases h3 : s[k] = 3
      · have i1 : ((s[k].toNat : Nat) : Int) = 3 := by rw [h3]; rfl
        have HF : Hid (34 :: (s.data.toList.take (k + 1)).flatMap decB = (34 :: (s.data.toList.take k).flatMap decB) ++ [92, 117, 48, 48, 48, 51]) := by show _ = _; rw [HT.out, h3]; rfl
        clear h3 HT h0 h1 h2
        go_wp2_with (fail)
        refine wp_loop_rounds 9 ?_
        rw [rounds_succ]
        go_wp2_with (fail)
        rw [rounds_succ]
        go_wp2_with (fail)
        rw [rounds_succ]
        go_wp2_with (fail)
        rw [rounds_succ]
        go_wp2_with (fail)
        rw [rounds_succ]
        go_wp2_with (fail)
        rw [rounds_succ]
        go_wp2_with (fail)
        rw [rounds_succ]
        go_wp2_with (fail)
        rw [rounds_succ]
        go_wp2_with (at_builtin; refine wpList_appN rfl _ _ rfl w.heap.size (wr.iter ⟨#[8, 9, 10, 12, 13, 34, 92]⟩ 7) _ [92, 117, 48, 48, 48, 51] _ rfl HO7.out hB7 (Nat.le_trans (Nat.add_le_add_left (by decide) _) HL.out) rfl rfl ?_)
        intro v' w' ho hb
        have HR2 : Hid (EscR s w v' (k + 1) w') := ⟨by rw [HF.out]; exact ho, HB7.out.trans hb⟩
        clear ho hb HF HL HO7 n0 n1 n2 n3 n4 n5 n6 n7
        go_wp2_with (fail)
        go_roundw
        case rel => exact ⟨k + 1, by go_num, by omega, HR2⟩
        case measure => simp [intOf]; omega
      by_cases h4 : s[k] = 4
      · have i1 : ((s[k].toNat : Nat) : Int) = 4 := by rw [h4]; rfl
        have HF : Hid (34 :: (s.data.toList.take (k + 1)).flatMap decB = (34 :: (s.data.toList.take k).flatMap decB) ++ [92, 117, 48, 48, 48, 52]) := by show _ = _; rw [HT.out, h4]; rfl
        clear h4 HT h0 h1 h2 h3
        go_wp2_with (fail)
        refine wp_loop_rounds 9 ?_
        rw [rounds_succ]
        go_wp2_with (fail)
        rw [rounds_succ]
        go_wp2_with (fail)
        rw [rounds_succ]
        go_wp2_with (fail)
        rw [rounds_succ]
        go_wp2_with (fail)
        rw [rounds_succ]
        go_wp2_with (fail)
        rw [rounds_succ]
        go_wp2_with (fail)
        rw [rounds_succ]
        go_wp2_with (fail)
        rw [rounds_succ]
        go_wp2_with (at_builtin; refine wpList_appN rfl _ _ rfl w.heap.size (wr.iter ⟨#[8, 9, 10, 12, 13, 34, 92]⟩ 7) _ [92, 117, 48, 48, 48, 52] _ rfl HO7.out hB7 (Nat.le_trans (Nat.add_le_add_left (by decide) _) HL.out) rfl rfl ?_)
        intro v' w' ho hb
        have HR2 : Hid (EscR s w v' (k + 1) w') := ⟨by rw [HF.out]; exact ho, HB7.out.trans hb⟩
        clear ho hb HF HL HO7 n0 n1 n2 n3 n4 n5 n6 n7
        go_wp2_with (fail)
        go_roundw
        case rel => exact ⟨k + 1, by go_num, by omega, HR2⟩
        case measure => simp [intOf]; omega
      by_cases h5 : s[k] = 5
      · have i1 : ((s[k].toNat : Nat) : Int) = 5 := by rw [h5]; rfl
        have HF : Hid (34 :: (s.data.toList.take (k + 1)).flatMap decB = (34 :: (s.data.toList.take k).flatMap decB) ++ [92, 117, 48, 48, 48, 53]) := by show _ = _; rw [HT.out, h5]; rfl
        clear h5 HT h0 h1 h2 h3 h4
        go_wp2_with (fail)
        refine wp_loop_rounds 9 ?_
        rw [rounds_succ]
        go_wp2_with (fail)
        rw [rounds_succ]
        go_wp2_with (fail)
        rw [rounds_succ]
        go_wp2_with (fail)
        rw [rounds_succ]
        go_wp2_with (fail)
        rw [rounds_succ]
        go_wp2_with (fail)
        rw [rounds_succ]
        go_wp2_with (fail)
        rw [rounds_succ]
        go_wp2_with (fail)
        rw [rounds_succ]
        go_wp2_with (at_builtin; refine wpList_appN rfl _ _ rfl w.heap.size (wr.iter ⟨#[8, 9, 10, 12, 13, 34, 92]⟩ 7) _ [92, 117, 48, 48, 48, 53] _ rfl HO7.out hB7 (Nat.le_trans (Nat.add_le_add_left (by decide) _) HL.out) rfl rfl ?_)
        intro v' w' ho hb
        have HR2 : Hid (EscR s w v' (k + 1) w') := ⟨by rw [HF.out]; exact ho, HB7.out.trans hb⟩
        clear ho hb HF HL HO7 n0 n1 n2 n3 n4 n5 n6 n7
        go_wp2_with (fail)
        go_roundw
        case rel => exact ⟨k + 1, by go_num, by omega, HR2⟩
        case measure => simp [intOf]; omega
      by_cases h6 : s[k] = 6
      · have i1 : ((s[k].toNat : Nat) : Int) = 6 := by rw [h6]; rfl
        have HF : Hid (34 :: (s.data.toList.take (k + 1)).flatMap decB = (34 :: (s.data.toList.take k).flatMap decB) ++ [92, 117, 48, 48, 48, 54]) := by show _ = _; rw [HT.out, h6]; rfl
        clear h6 HT h0 h1 h2 h3 h4 h5
        go_wp2_with (fail)
        refine wp_loop_rounds 9 ?_
        rw [rounds_succ]
        go_wp2_with (fail)
        rw [rounds_succ]
        go_wp2_with (fail)
        rw [rounds_succ]
        go_wp2_with (fail)
        rw [rounds_succ]
        go_wp2_with (fail)
        rw [rounds_succ]
        go_wp2_with (fail)
        rw [rounds_succ]
        go_wp2_with (fail)
        rw [rounds_succ]
        go_wp2_with (fail)
        rw [rounds_succ]
        go_wp2_with (at_builtin; refine wpList_appN rfl _ _ rfl w.heap.size (wr.iter ⟨#[8, 9, 10, 12, 13, 34, 92]⟩ 7) _ [92, 117, 48, 48, 48, 54] _ rfl HO7.out hB7 (Nat.le_trans (Nat.add_le_add_left (by decide) _) HL.out) rfl rfl ?_)
        intro v' w' ho hb
        have HR2 : Hid (EscR s w v' (k + 1) w') := ⟨by rw [HF.out]; exact ho, HB7.out.trans hb⟩
        clear ho hb HF HL HO7 n0 n1 n2 n3 n4 n5 n6 n7
        go_wp2_with (fail)
        go_roundw
        case rel => exact ⟨k + 1, by go_num, by omega, HR2⟩
        case measure => simp [intOf]; omega
      by_cases h7 : s[k] = 7
      · have i1 : ((s[k].toNat : Nat) : Int) = 7 := by rw [h7]; rfl
        have HF : Hid (34 :: (s.data.toList.take (k + 1)).flatMap decB = (34 :: (s.data.toList.take k).flatMap decB) ++ [92, 117, 48, 48, 48, 55]) := by show _ = _; rw [HT.out, h7]; rfl
        clear h7 HT h0 h1 h2 h3 h4 h5 h6
        go_wp2_with (fail)
        refine wp_loop_rounds 9 ?_
        rw [rounds_succ]
        go_wp2_with (fail)
        rw [rounds_succ]
        go_wp2_with (fail)
        rw [rounds_succ]
        go_wp2_with (fail)
        rw [rounds_succ]
        go_wp2_with (fail)
        rw [rounds_succ]
        go_wp2_with (fail)
        rw [rounds_succ]
        go_wp2_with (fail)
        rw [rounds_succ]
        go_wp2_with (fail)
        rw [rounds_succ]
        go_wp2_with (at_builtin; refine wpList_appN rfl _ _ rfl w.heap.size (wr.iter ⟨#[8, 9, 10, 12, 13, 34, 92]⟩ 7) _ [92, 117, 48, 48, 48, 55] _ rfl HO7.out hB7 (Nat.le_trans (Nat.add_le_add_left (by decide) _) HL.out) rfl rfl ?_)
        intro v' w' ho hb
        have HR2 : Hid (EscR s w v' (k + 1) w') := ⟨by rw [HF.out]; exact ho, HB7.out.trans hb⟩
        clear ho hb HF HL HO7 n0 n1 n2 n3 n4 n5 n6 n7
        go_wp2_with (fail)
        go_roundw
        case rel => exact ⟨k + 1, by go_num, by omega, HR2⟩
        case measure => simp [intOf]; omega
      by_cases h8 : s[k] = 8
      · have i1 : ((s[k].toNat : Nat) : Int) = 8 := by rw [h8]; rfl
        have HF : Hid (34 :: (s.data.toList.take (k + 1)).flatMap decB = (34 :: (s.data.toList.take k).flatMap decB) ++ [92, 98]) := by show _ = _; rw [HT.out, h8]; rfl
        clear h8 HT h0 h1 h2 h3 h4 h5 h6 h7
        go_wp2_with (fail)
        refine wp_loop_rounds 9 ?_
        rw [rounds_succ]
        go_wp2_with (fail)
        rw [rounds_succ]
        go_wp2_with (fail)
        rw [rounds_succ]
        go_wp2_with (fail)
        rw [rounds_succ]
        go_wp2_with (fail)
        rw [rounds_succ]
        go_wp2_with (fail)
        rw [rounds_succ]
        go_wp2_with (fail)
        rw [rounds_succ]
        go_wp2_with (fail)
        rw [rounds_succ]
        go_wp2_with (at_builtin; refine wpList_appN rfl _ _ rfl w.heap.size (wr.iter ⟨#[8, 9, 10, 12, 13, 34, 92]⟩ 7) _ [92, 98] _ rfl HO7.out hB7 (Nat.le_trans (Nat.add_le_add_left (by decide) _) HL.out) rfl rfl ?_)
        intro v' w' ho hb
        have HR2 : Hid (EscR s w v' (k + 1) w') := ⟨by rw [HF.out]; exact ho, HB7.out.trans hb⟩
        clear ho hb HF HL HO7 n0 n1 n2 n3 n4 n5 n6 n7
        go_wp2_with (fail)
        go_roundw
        case rel => exact ⟨k + 1, by go_num, by omega, HR2⟩
        case measure => simp [intOf]; omega
      by_cases h9 : s[k] = 9
      · have i1 : ((s[k].toNat : Nat) : Int) = 9 := by rw [h9]; rfl
        have HF : Hid (34 :: (s.data.toList.take (k + 1)).flatMap decB = (34 :: (s.data.toList.take k).flatMap decB) ++ [92, 116]) := by show _ = _; rw [HT.out, h9]; rfl
        clear h9 HT h0 h1 h2 h3 h4 h5 h6 h7 h8
        go_wp2_with (fail)
        refine wp_loop_rounds 9 ?_
        rw [rounds_succ]
        go_wp2_with (fail)
        rw [rounds_succ]
        go_wp2_with (fail)
        rw [rounds_succ]
        go_wp2_with (fail)
        rw [rounds_succ]
        go_wp2_with (fail)
        rw [rounds_succ]
        go_wp2_with (fail)
        rw [rounds_succ]
        go_wp2_with (fail)
        rw [rounds_succ]
        go_wp2_with (fail)
        rw [rounds_succ]
        go_wp2_with (at_builtin; refine wpList_appN rfl _ _ rfl w.heap.size (wr.iter ⟨#[8, 9, 10, 12, 13, 34, 92]⟩ 7) _ [92, 116] _ rfl HO7.out hB7 (Nat.le_trans (Nat.add_le_add_left (by decide) _) HL.out) rfl rfl ?_)
        intro v' w' ho hb
        have HR2 : Hid (EscR s w v' (k + 1) w') := ⟨by rw [HF.out]; exact ho, HB7.out.trans hb⟩
        clear ho hb HF HL HO7 n0 n1 n2 n3 n4 n5 n6 n7
        go_wp2_with (fail)
        go_roundw
        case rel => exact ⟨k + 1, by go_num, by omega, HR2⟩
        case measure => simp [intOf]; omega
      by_cases h10 : s[k] = 10
      · have i1 : ((s[k].toNat : Nat) : Int) = 10 := by rw [h10]; rfl
        have HF : Hid (34 :: (s.data.toList.take (k + 1)).flatMap decB = (34 :: (s.data.toList.take k).flatMap decB) ++ [92, 110]) := by show _ = _; rw [HT.out, h10]; rfl
        clear h10 HT h0 h1 h2 h3 h4 h5 h6 h7 h8 h9
        go_wp2_with (fail)
        refine wp_loop_rounds 9 ?_
        rw [rounds_succ]
        go_wp2_with (fail)
        rw [rounds_succ]
        go_wp2_with (fail)
        rw [rounds_succ]
        go_wp2_with (fail)
        rw [rounds_succ]
        go_wp2_with (fail)
        rw [rounds_succ]
        go_wp2_with (fail)
        rw [rounds_succ]
        go_wp2_with (fail)
        rw [rounds_succ]
        go_wp2_with (fail)
        rw [rounds_succ]
        go_wp2_with (at_builtin; refine wpList_appN rfl _ _ rfl w.heap.size (wr.iter ⟨#[8, 9, 10, 12, 13, 34, 92]⟩ 7) _ [92, 110] _ rfl HO7.out hB7 (Nat.le_trans (Nat.add_le_add_left (by decide) _) HL.out) rfl rfl ?_)
        intro v' w' ho hb
        have HR2 : Hid (EscR s w v' (k + 1) w') := ⟨by rw [HF.out]; exact ho, HB7.out.trans hb⟩
        clear ho hb HF HL HO7 n0 n1 n2 n3 n4 n5 n6 n7
        go_wp2_with (fail)
        go_roundw
        case rel => exact ⟨k + 1, by go_num, by omega, HR2⟩
        case measure => simp [intOf]; omega
      by_cases h11 : s[k] = 11
      · have i1 : ((s[k].toNat : Nat) : Int) = 11 := by rw [h11]; rfl
        have HF : Hid (34 :: (s.data.toList.take (k + 1)).flatMap decB = (34 :: (s.data.toList.take k).flatMap decB) ++ [92, 117, 48, 48, 48, 98]) := by show _ = _; rw [HT.out, h11]; rfl
        clear h11 HT h0 h1 h2 h3 h4 h5 h6 h7 h8 h9 h10
        go_wp2_with (fail)
        refine wp_loop_rounds 9 ?_
        rw [rounds_succ]
        go_wp2_with (fail)
        rw [rounds_succ]
        go_wp2_with (fail)
        rw [rounds_succ]
        go_wp2_with (fail)
        rw [rounds_succ]
        go_wp2_with (fail)
        rw [rounds_succ]
        go_wp2_with (fail)
        rw [rounds_succ]
        go_wp2_with (fail)
        rw [rounds_succ]
        go_wp2_with (fail)
        rw [rounds_succ]
        go_wp2_with (at_builtin; refine wpList_appN rfl _ _ rfl w.heap.size (wr.iter ⟨#[8, 9, 10, 12, 13, 34, 92]⟩ 7) _ [92, 117, 48, 48, 48, 98] _ rfl HO7.out hB7 (Nat.le_trans (Nat.add_le_add_left (by decide) _) HL.out) rfl rfl ?_)
        intro v' w' ho hb
        have HR2 : Hid (EscR s w v' (k + 1) w') := ⟨by rw [HF.out]; exact ho, HB7.out.trans hb⟩
        clear ho hb HF HL HO7 n0 n1 n2 n3 n4 n5 n6 n7
        go_wp2_with (fail)
        go_roundw
        case rel => exact ⟨k + 1, by go_num, by omega, HR2⟩
        case measure => simp [intOf]; omega
      by_cases h12 : s[k] = 12
      · have i1 : ((s[k].toNat : Nat) : Int) = 12 := by rw [h12]; rfl
        have HF : Hid (34 :: (s.data.toList.take (k + 1)).flatMap decB = (34 :: (s.data.toList.take k).flatMap decB) ++ [92, 102]) := by show _ = _; rw [HT.out, h12]; rfl
        clear h12 HT h0 h1 h2 h3 h4 h5 h6 h7 h8 h9 h10 h11
        go_wp2_with (fail)
        refine wp_loop_rounds 9 ?_
        rw [rounds_succ]
        go_wp2_with (fail)
        rw [rounds_succ]
        go_wp2_with (fail)
        rw [rounds_succ]
        go_wp2_with (fail)
        rw [rounds_succ]
        go_wp2_with (fail)
        rw [rounds_succ]
        go_wp2_with (fail)
        rw [rounds_succ]
        go_wp2_with (fail)
        rw [rounds_succ]
        go_wp2_with (fail)
        rw [rounds_succ]
        go_wp2_with (at_builtin; refine wpList_appN rfl _ _ rfl w.heap.size (wr.iter ⟨#[8, 9, 10, 12, 13, 34, 92]⟩ 7) _ [92, 102] _ rfl HO7.out hB7 (Nat.le_trans (Nat.add_le_add_left (by decide) _) HL.out) rfl rfl ?_)
        intro v' w' ho hb
        have HR2 : Hid (EscR s w v' (k + 1) w') := ⟨by rw [HF.out]; exact ho, HB7.out.trans hb⟩
        clear ho hb HF HL HO7 n0 n1 n2 n3 n4 n5 n6 n7
        go_wp2_with (fail)
        go_roundw
        case rel => exact ⟨k + 1, by go_num, by omega, HR2⟩
        case measure => simp [intOf]; omega
      by_cases h13 : s[k] = 13
      · have i1 : ((s[k].toNat : Nat) : Int) = 13 := by rw [h13]; rfl
        have HF : Hid (34 :: (s.data.toList.take (k + 1)).flatMap decB = (34 :: (s.data.toList.take k).flatMap decB) ++ [92, 114]) := by show _ = _; rw [HT.out, h13]; rfl
        clear h13 HT h0 h1 h2 h3 h4 h5 h6 h7 h8 h9 h10 h11 h12
        go_wp2_with (fail)
        refine wp_loop_rounds 9 ?_
        rw [rounds_succ]
        go_wp2_with (fail)
        rw [rounds_succ]
        go_wp2_with (fail)
        rw [rounds_succ]
        go_wp2_with (fail)
        rw [rounds_succ]
        go_wp2_with (fail)
        rw [rounds_succ]
        go_wp2_with (fail)
        rw [rounds_succ]
        go_wp2_with (fail)
        rw [rounds_succ]
        go_wp2_with (fail)
        rw [rounds_succ]
        go_wp2_with (at_builtin; refine wpList_appN rfl _ _ rfl w.heap.size (wr.iter ⟨#[8, 9, 10, 12, 13, 34, 92]⟩ 7) _ [92, 114] _ rfl HO7.out hB7 (Nat.le_trans (Nat.add_le_add_left (by decide) _) HL.out) rfl rfl ?_)
        intro v' w' ho hb
        have HR2 : Hid (EscR s w v' (k + 1) w') := ⟨by rw [HF.out]; exact ho, HB7.out.trans hb⟩
        clear ho hb HF HL HO7 n0 n1 n2 n3 n4 n5 n6 n7
        go_wp2_with (fail)
        go_roundw
        case rel => exact ⟨k + 1, by go_num, by omega, HR2⟩
        case measure => simp [intOf]; omega
      by_cases h14 : s[k] = 14
      · have i1 : ((s[k].toNat : Nat) : Int) = 14 := by rw [h14]; rfl
        have HF : Hid (34 :: (s.data.toList.take (k + 1)).flatMap decB = (34 :: (s.data.toList.take k).flatMap decB) ++ [92, 117, 48, 48, 48, 101]) := by show _ = _; rw [HT.out, h14]; rfl
        clear h14 HT h0 h1 h2 h3 h4 h5 h6 h7 h8 h9 h10 h11 h12 h13
        go_wp2_with (fail)
        refine wp_loop_rounds 9 ?_
        rw [rounds_succ]
        go_wp2_with (fail)
        rw [rounds_succ]
        go_wp2_with (fail)
        rw [rounds_succ]
        go_wp2_with (fail)
        rw [rounds_succ]
        go_wp2_with (fail)
        rw [rounds_succ]
        go_wp2_with (fail)
        rw [rounds_succ]
        go_wp2_with (fail)
        rw [rounds_succ]
        go_wp2_with (fail)
        rw [rounds_succ]
        go_wp2_with (at_builtin; refine wpList_appN rfl _ _ rfl w.heap.size (wr.iter ⟨#[8, 9, 10, 12, 13, 34, 92]⟩ 7) _ [92, 117, 48, 48, 48, 101] _ rfl HO7.out hB7 (Nat.le_trans (Nat.add_le_add_left (by decide) _) HL.out) rfl rfl ?_)
        intro v' w' ho hb
        have HR2 : Hid (EscR s w v' (k + 1) w') := ⟨by rw [HF.out]; exact ho, HB7.out.trans hb⟩
        clear ho hb HF HL HO7 n0 n1 n2 n3 n4 n5 n6 n7
        go_wp2_with (fail)
        go_roundw
        case rel => exact ⟨k + 1, by go_num, by omega, HR2⟩
        case measure => simp [intOf]; omega
      by_cases h15 : s[k] = 15
      · have i1 : ((s[k].toNat : Nat) : Int) = 15 := by rw [h15]; rfl
        have HF : Hid (34 :: (s.data.toList.take (k + 1)).flatMap decB = (34 :: (s.data.toList.take k).flatMap decB) ++ [92, 117, 48, 48, 48, 102]) := by show _ = _; rw [HT.out, h15]; rfl
        clear h15 HT h0 h1 h2 h3 h4 h5 h6 h7 h8 h9 h10 h11 h12 h13 h14
        go_wp2_with (fail)
        refine wp_loop_rounds 9 ?_
        rw [rounds_succ]
        go_wp2_with (fail)
        rw [rounds_succ]
        go_wp2_with (fail)
        rw [rounds_succ]
        go_wp2_with (fail)
        rw [rounds_succ]
        go_wp2_with (fail)
        rw [rounds_succ]
        go_wp2_with (fail)
        rw [rounds_succ]
        go_wp2_with (fail)
        rw [rounds_succ]
        go_wp2_with (fail)
        rw [rounds_succ]
        go_wp2_with (at_builtin; refine wpList_appN rfl _ _ rfl w.heap.size (wr.iter ⟨#[8, 9, 10, 12, 13, 34, 92]⟩ 7) _ [92, 117, 48, 48, 48, 102] _ rfl HO7.out hB7 (Nat.le_trans (Nat.add_le_add_left (by decide) _) HL.out) rfl rfl ?_)
        intro v' w' ho hb
        have HR2 : Hid (EscR s w v' (k + 1) w') := ⟨by rw [HF.out]; exact ho, HB7.out.trans hb⟩
        clear ho hb HF HL HO7 n0 n1 n2 n3 n4 n5 n6 n7
        go_wp2_with (fail)
        go_roundw
        case rel => exact ⟨k + 1, by go_num, by omega, HR2⟩
        case measure => simp [intOf]; omega
      by_cases h16 : s[k] = 16
      · have i1 : ((s[k].toNat : Nat) : Int) = 16 := by rw [h16]; rfl
        have HF : Hid (34 :: (s.data.toList.take (k + 1)).flatMap decB = (34 :: (s.data.toList.take k).flatMap decB) ++ [92, 117, 48, 48, 49, 48]) := by show _ = _; rw [HT.out, h16]; rfl
        clear h16 HT h0 h1 h2 h3 h4 h5 h6 h7 h8 h9 h10 h11 h12 h13 h14 h15
        go_wp2_with (fail)
        refine wp_loop_rounds 9 ?_
        rw [rounds_succ]
        go_wp2_with (fail)
        rw [rounds_succ]
        go_wp2_with (fail)
        rw [rounds_succ]
        go_wp2_with (fail)
        rw [rounds_succ]
        go_wp2_with (fail)
        rw [rounds_succ]
        go_wp2_with (fail)
        rw [rounds_succ]
        go_wp2_with (fail)
        rw [rounds_succ]
        go_wp2_with (fail)
        rw [rounds_succ]
        go_wp2_with (at_builtin; refine wpList_appN rfl _ _ rfl w.heap.size (wr.iter ⟨#[8, 9, 10, 12, 13, 34, 92]⟩ 7) _ [92, 117, 48, 48, 49, 48] _ rfl HO7.out hB7 (Nat.le_trans (Nat.add_le_add_left (by decide) _) HL.out) rfl rfl ?_)
        intro v' w' ho hb
        have HR2 : Hid (EscR s w v' (k + 1) w') := ⟨by rw [HF.out]; exact ho, HB7.out.trans hb⟩
        clear ho hb HF HL HO7 n0 n1 n2 n3 n4 n5 n6 n7
        go_wp2_with (fail)
        go_roundw
        case rel => exact ⟨k + 1, by go_num, by omega, HR2⟩
        case measure => simp [intOf]; omega
      by_cases h17 : s[k] = 17
      · have i1 : ((s[k].toNat : Nat) : Int) = 17 := by rw [h17]; rfl
        have HF : Hid (34 :: (s.data.toList.take (k + 1)).flatMap decB = (34 :: (s.data.toList.take k).flatMap decB) ++ [92, 117, 48, 48, 49, 49]) := by show _ = _; rw [HT.out, h17]; rfl
        clear h17 HT h0 h1 h2 h3 h4 h5 h6 h7 h8 h9 h10 h11 h12 h13 h14 h15 h16
        go_wp2_with (fail)
        refine wp_loop_rounds 9 ?_
        rw [rounds_succ]
        go_wp2_with (fail)
        rw [rounds_succ]
        go_wp2_with (fail)
        rw [rounds_succ]
        go_wp2_with (fail)
        rw [rounds_succ]
        go_wp2_with (fail)
        rw [rounds_succ]
        go_wp2_with (fail)
        rw [rounds_succ]
        go_wp2_with (fail)
        rw [rounds_succ]
        go_wp2_with (fail)
        rw [rounds_succ]
        go_wp2_with (at_builtin; refine wpList_appN rfl _ _ rfl w.heap.size (wr.iter ⟨#[8, 9, 10, 12, 13, 34, 92]⟩ 7) _ [92, 117, 48, 48, 49, 49] _ rfl HO7.out hB7 (Nat.le_trans (Nat.add_le_add_left (by decide) _) HL.out) rfl rfl ?_)
        intro v' w' ho hb
        have HR2 : Hid (EscR s w v' (k + 1) w') := ⟨by rw [HF.out]; exact ho, HB7.out.trans hb⟩
        clear ho hb HF HL HO7 n0 n1 n2 n3 n4 n5 n6 n7
        go_wp2_with (fail)
        go_roundw
        case rel => exact ⟨k + 1, by go_num, by omega, HR2⟩
        case measure => simp [intOf]; omega
      by_cases h18 : s[k] = 18
      · have i1 : ((s[k].toNat : Nat) : Int) = 18 := by rw [h18]; rfl
        have HF : Hid (34 :: (s.data.toList.take (k + 1)).flatMap decB = (34 :: (s.data.toList.take k).flatMap decB) ++ [92, 117, 48, 48, 49, 50]) := by show _ = _; rw [HT.out, h18]; rfl
        clear h18 HT h0 h1 h2 h3 h4 h5 h6 h7 h8 h9 h10 h11 h12 h13 h14 h15 h16 h17
        go_wp2_with (fail)
        refine wp_loop_rounds 9 ?_
        rw [rounds_succ]
        go_wp2_with (fail)
        rw [rounds_succ]
        go_wp2_with (fail)
        rw [rounds_succ]
        go_wp2_with (fail)
        rw [rounds_succ]
        go_wp2_with (fail)
        rw [rounds_succ]
        go_wp2_with (fail)
        rw [rounds_succ]
        go_wp2_with (fail)
        rw [rounds_succ]
        go_wp2_with (fail)
        rw [rounds_succ]
        go_wp2_with (at_builtin; refine wpList_appN rfl _ _ rfl w.heap.size (wr.iter ⟨#[8, 9, 10, 12, 13, 34, 92]⟩ 7) _ [92, 117, 48, 48, 49, 50] _ rfl HO7.out hB7 (Nat.le_trans (Nat.add_le_add_left (by decide) _) HL.out) rfl rfl ?_)
        intro v' w' ho hb
        have HR2 : Hid (EscR s w v' (k + 1) w') := ⟨by rw [HF.out]; exact ho, HB7.out.trans hb⟩
        clear ho hb HF HL HO7 n0 n1 n2 n3 n4 n5 n6 n7
        go_wp2_with (fail)
        go_roundw
        case rel => exact ⟨k + 1, by go_num, by omega, HR2⟩
        case measure => simp [intOf]; omega
      by_cases h19 : s[k] = 19
      · have i1 : ((s[k].toNat : Nat) : Int) = 19 := by rw [h19]; rfl
        have HF : Hid (34 :: (s.data.toList.take (k + 1)).flatMap decB = (34 :: (s.data.toList.take k).flatMap decB) ++ [92, 117, 48, 48, 49, 51]) := by show _ = _; rw [HT.out, h19]; rfl
        clear h19 HT h0 h1 h2 h3 h4 h5 h6 h7 h8 h9 h10 h11 h12 h13 h14 h15 h16 h17 h18
        go_wp2_with (fail)
        refine wp_loop_rounds 9 ?_
        rw [rounds_succ]
        go_wp2_with (fail)
        rw [rounds_succ]
        go_wp2_with (fail)
        rw [rounds_succ]
        go_wp2_with (fail)
        rw [rounds_succ]
        go_wp2_with (fail)
        rw [rounds_succ]
        go_wp2_with (fail)
        rw [rounds_succ]
        go_wp2_with (fail)
        rw [rounds_succ]
        go_wp2_with (fail)
        rw [rounds_succ]
        go_wp2_with (at_builtin; refine wpList_appN rfl _ _ rfl w.heap.size (wr.iter ⟨#[8, 9, 10, 12, 13, 34, 92]⟩ 7) _ [92, 117, 48, 48, 49, 51] _ rfl HO7.out hB7 (Nat.le_trans (Nat.add_le_add_left (by decide) _) HL.out) rfl rfl ?_)
        intro v' w' ho hb
        have HR2 : Hid (EscR s w v' (k + 1) w') := ⟨by rw [HF.out]; exact ho, HB7.out.trans hb⟩
        clear ho hb HF HL HO7 n0 n1 n2 n3 n4 n5 n6 n7
        go_wp2_with (fail)
        go_roundw
        case rel => exact ⟨k + 1, by go_num, by omega, HR2⟩
        case measure => simp [intOf]; omega
      by_cases h20 : s[k] = 20
      · have i1 : ((s[k].toNat : Nat) : Int) = 20 := by rw [h20]; rfl
        have HF : Hid (34 :: (s.data.toList.take (k + 1)).flatMap decB = (34 :: (s.data.toList.take k).flatMap decB) ++ [92, 117, 48, 48, 49, 52]) := by show _ = _; rw [HT.out, h20]; rfl
        clear h20 HT h0 h1 h2 h3 h4 h5 h6 h7 h8 h9 h10 h11 h12 h13 h14 h15 h16 h17 h18 h19
        go_wp2_with (fail)
        refine wp_loop_rounds 9 ?_
        rw [rounds_succ]
        go_wp2_with (fail)
        rw [rounds_succ]
        go_wp2_with (fail)
        rw [rounds_succ]
        go_wp2_with (fail)
        rw [rounds_succ]
        go_wp2_with (fail)
        rw [rounds_succ]
        go_wp2_with (fail)
        rw [rounds_succ]
        go_wp2_with (fail)
        rw [rounds_succ]
        go_wp2_with (fail)
        rw [rounds_succ]
        go_wp2_with (at_builtin; refine wpList_appN rfl _ _ rfl w.heap.size (wr.iter ⟨#[8, 9, 10, 12, 13, 34, 92]⟩ 7) _ [92, 117, 48, 48, 49, 52] _ rfl HO7.out hB7 (Nat.le_trans (Nat.add_le_add_left (by decide) _) HL.out) rfl rfl ?_)
        intro v' w' ho hb
        have HR2 : Hid (EscR s w v' (k + 1) w') := ⟨by rw [HF.out]; exact ho, HB7.out.trans hb⟩
        clear ho hb HF HL HO7 n0 n1 n2 n3 n4 n5 n6 n7
        go_wp2_with (fail)
        go_roundw
        case rel => exact ⟨k + 1, by go_num, by omega, HR2⟩
        case measure => simp [intOf]; omega
      by_cases h21 : s[k] = 21
      · have i1 : ((s[k].toNat : Nat) : Int) = 21 := by rw [h21]; rfl
        have HF : Hid (34 :: (s.data.toList.take (k + 1)).flatMap decB = (34 :: (s.data.toList.take k).flatMap decB) ++ [92, 117, 48, 48, 49, 53]) := by show _ = _; rw [HT.out, h21]; rfl
        clear h21 HT h0 h1 h2 h3 h4 h5 h6 h7 h8 h9 h10 h11 h12 h13 h14 h15 h16 h17 h18 h19 h20
        go_wp2_with (fail)
        refine wp_loop_rounds 9 ?_
        rw [rounds_succ]
        go_wp2_with (fail)
        rw [rounds_succ]
        go_wp2_with (fail)
        rw [rounds_succ]
        go_wp2_with (fail)
        rw [rounds_succ]
        go_wp2_with (fail)
        rw [rounds_succ]
        go_wp2_with (fail)
        rw [rounds_succ]
        go_wp2_with (fail)
        rw [rounds_succ]
        go_wp2_with (fail)
        rw [rounds_succ]
        go_wp2_with (at_builtin; refine wpList_appN rfl _ _ rfl w.heap.size (wr.iter ⟨#[8, 9, 10, 12, 13, 34, 92]⟩ 7) _ [92, 117, 48, 48, 49, 53] _ rfl HO7.out hB7 (Nat.le_trans (Nat.add_le_add_left (by decide) _) HL.out) rfl rfl ?_)
        intro v' w' ho hb
        have HR2 : Hid (EscR s w v' (k + 1) w') := ⟨by rw [HF.out]; exact ho, HB7.out.trans hb⟩
        clear ho hb HF HL HO7 n0 n1 n2 n3 n4 n5 n6 n7
        go_wp2_with (fail)
        go_roundw
        case rel => exact ⟨k + 1, by go_num, by omega, HR2⟩
        case measure => simp [intOf]; omega
      by_cases h22 : s[k] = 22
      · have i1 : ((s[k].toNat : Nat) : Int) = 22 := by rw [h22]; rfl
        have HF : Hid (34 :: (s.data.toList.take (k + 1)).flatMap decB = (34 :: (s.data.toList.take k).flatMap decB) ++ [92, 117, 48, 48, 49, 54]) := by show _ = _; rw [HT.out, h22]; rfl
        clear h22 HT h0 h1 h2 h3 h4 h5 h6 h7 h8 h9 h10 h11 h12 h13 h14 h15 h16 h17 h18 h19 h20 h21
        go_wp2_with (fail)
        refine wp_loop_rounds 9 ?_
        rw [rounds_succ]
        go_wp2_with (fail)
        rw [rounds_succ]
        go_wp2_with (fail)
        rw [rounds_succ]
        go_wp2_with (fail)
        rw [rounds_succ]
        go_wp2_with (fail)
        rw [rounds_succ]
        go_wp2_with (fail)
        rw [rounds_succ]
        go_wp2_with (fail)
        rw [rounds_succ]
        go_wp2_with (fail)
        rw [rounds_succ]
        go_wp2_with (at_builtin; refine wpList_appN rfl _ _ rfl w.heap.size (wr.iter ⟨#[8, 9, 10, 12, 13, 34, 92]⟩ 7) _ [92, 117, 48, 48, 49, 54] _ rfl HO7.out hB7 (Nat.le_trans (Nat.add_le_add_left (by decide) _) HL.out) rfl rfl ?_)
        intro v' w' ho hb
        have HR2 : Hid (EscR s w v' (k + 1) w') := ⟨by rw [HF.out]; exact ho, HB7.out.trans hb⟩
        clear ho hb HF HL HO7 n0 n1 n2 n3 n4 n5 n6 n7
        go_wp2_with (fail)
        go_roundw
        case rel => exact ⟨k + 1, by go_num, by omega, HR2⟩
        case measure => simp [intOf]; omega
      by_cases h23 : s[k] = 23
      · have i1 : ((s[k].toNat : Nat) : Int) = 23 := by rw [h23]; rfl
        have HF : Hid (34 :: (s.data.toList.take (k + 1)).flatMap decB = (34 :: (s.data.toList.take k).flatMap decB) ++ [92, 117, 48, 48, 49, 55]) := by show _ = _; rw [HT.out, h23]; rfl
        clear h23 HT h0 h1 h2 h3 h4 h5 h6 h7 h8 h9 h10 h11 h12 h13 h14 h15 h16 h17 h18 h19 h20 h21 h22
        go_wp2_with (fail)
        refine wp_loop_rounds 9 ?_
        rw [rounds_succ]
        go_wp2_with (fail)
        rw [rounds_succ]
        go_wp2_with (fail)
        rw [rounds_succ]
        go_wp2_with (fail)
        rw [rounds_succ]
        go_wp2_with (fail)
        rw [rounds_succ]
        go_wp2_with (fail)
        rw [rounds_succ]
        go_wp2_with (fail)
        rw [rounds_succ]
        go_wp2_with (fail)
        rw [rounds_succ]
        go_wp2_with (at_builtin; refine wpList_appN rfl _ _ rfl w.heap.size (wr.iter ⟨#[8, 9, 10, 12, 13, 34, 92]⟩ 7) _ [92, 117, 48, 48, 49, 55] _ rfl HO7.out hB7 (Nat.le_trans (Nat.add_le_add_left (by decide) _) HL.out) rfl rfl ?_)
        intro v' w' ho hb
        have HR2 : Hid (EscR s w v' (k + 1) w') := ⟨by rw [HF.out]; exact ho, HB7.out.trans hb⟩
        clear ho hb HF HL HO7 n0 n1 n2 n3 n4 n5 n6 n7
        go_wp2_with (fail)
        go_roundw
        case rel => exact ⟨k + 1, by go_num, by omega, HR2⟩
        case measure => simp [intOf]; omega
      by_cases h24 : s[k] = 24
      · have i1 : ((s[k].toNat : Nat) : Int) = 24 := by rw [h24]; rfl
        have HF : Hid (34 :: (s.data.toList.take (k + 1)).flatMap decB = (34 :: (s.data.toList.take k).flatMap decB) ++ [92, 117, 48, 48, 49, 56]) := by show _ = _; rw [HT.out, h24]; rfl
        clear h24 HT h0 h1 h2 h3 h4 h5 h6 h7 h8 h9 h10 h11 h12 h13 h14 h15 h16 h17 h18 h19 h20 h21 h22 h23
        go_wp2_with (fail)
        refine wp_loop_rounds 9 ?_
        rw [rounds_succ]
        go_wp2_with (fail)
        rw [rounds_succ]
        go_wp2_with (fail)
        rw [rounds_succ]
        go_wp2_with (fail)
        rw [rounds_succ]
        go_wp2_with (fail)
        rw [rounds_succ]
        go_wp2_with (fail)
        rw [rounds_succ]
        go_wp2_with (fail)
        rw [rounds_succ]
        go_wp2_with (fail)
        rw [rounds_succ]
        go_wp2_with (at_builtin; refine wpList_appN rfl _ _ rfl w.heap.size (wr.iter ⟨#[8, 9, 10, 12, 13, 34, 92]⟩ 7) _ [92, 117, 48, 48, 49, 56] _ rfl HO7.out hB7 (Nat.le_trans (Nat.add_le_add_left (by decide) _) HL.out) rfl rfl ?_)
        intro v' w' ho hb
        have HR2 : Hid (EscR s w v' (k + 1) w') := ⟨by rw [HF.out]; exact ho, HB7.out.trans hb⟩
        clear ho hb HF HL HO7 n0 n1 n2 n3 n4 n5 n6 n7
        go_wp2_with (fail)
        go_roundw
        case rel => exact ⟨k + 1, by go_num, by omega, HR2⟩
        case measure => simp [intOf]; omega
      by_cases h25 : s[k] = 25
      · have i1 : ((s[k].toNat : Nat) : Int) = 25 := by rw [h25]; rfl
        have HF : Hid (34 :: (s.data.toList.take (k + 1)).flatMap decB = (34 :: (s.data.toList.take k).flatMap decB) ++ [92, 117, 48, 48, 49, 57]) := by show _ = _; rw [HT.out, h25]; rfl
        clear h25 HT h0 h1 h2 h3 h4 h5 h6 h7 h8 h9 h10 h11 h12 h13 h14 h15 h16 h17 h18 h19 h20 h21 h22 h23 h24
        go_wp2_with (fail)
        refine wp_loop_rounds 9 ?_
        rw [rounds_succ]
        go_wp2_with (fail)
        rw [rounds_succ]
        go_wp2_with (fail)
        rw [rounds_succ]
        go_wp2_with (fail)
        rw [rounds_succ]
        go_wp2_with (fail)
        rw [rounds_succ]
        go_wp2_with (fail)
        rw [rounds_succ]
        go_wp2_with (fail)
        rw [rounds_succ]
        go_wp2_with (fail)
        rw [rounds_succ]
        go_wp2_with (at_builtin; refine wpList_appN rfl _ _ rfl w.heap.size (wr.iter ⟨#[8, 9, 10, 12, 13, 34, 92]⟩ 7) _ [92, 117, 48, 48, 49, 57] _ rfl HO7.out hB7 (Nat.le_trans (Nat.add_le_add_left (by decide) _) HL.out) rfl rfl ?_)
        intro v' w' ho hb
        have HR2 : Hid (EscR s w v' (k + 1) w') := ⟨by rw [HF.out]; exact ho, HB7.out.trans hb⟩
        clear ho hb HF HL HO7 n0 n1 n2 n3 n4 n5 n6 n7
        go_wp2_with (fail)
        go_roundw
        case rel => exact ⟨k + 1, by go_num, by omega, HR2⟩
        case measure => simp [intOf]; omega
      by_cases h26 : s[k] = 26
      · have i1 : ((s[k].toNat : Nat) : Int) = 26 := by rw [h26]; rfl
        have HF : Hid (34 :: (s.data.toList.take (k + 1)).flatMap decB = (34 :: (s.data.toList.take k).flatMap decB) ++ [92, 117, 48, 48, 49, 97]) := by show _ = _; rw [HT.out, h26]; rfl
        clear h26 HT h0 h1 h2 h3 h4 h5 h6 h7 h8 h9 h10 h11 h12 h13 h14 h15 h16 h17 h18 h19 h20 h21 h22 h23 h24 h25
        go_wp2_with (fail)
        refine wp_loop_rounds 9 ?_
        rw [rounds_succ]
        go_wp2_with (fail)
        rw [rounds_succ]
        go_wp2_with (fail)
        rw [rounds_succ]
        go_wp2_with (fail)
        rw [rounds_succ]
        go_wp2_with (fail)
        rw [rounds_succ]
        go_wp2_with (fail)
        rw [rounds_succ]
        go_wp2_with (fail)
        rw [rounds_succ]
        go_wp2_with (fail)
        rw [rounds_succ]
        go_wp2_with (at_builtin; refine wpList_appN rfl _ _ rfl w.heap.size (wr.iter ⟨#[8, 9, 10, 12, 13, 34, 92]⟩ 7) _ [92, 117, 48, 48, 49, 97] _ rfl HO7.out hB7 (Nat.le_trans (Nat.add_le_add_left (by decide) _) HL.out) rfl rfl ?_)
        intro v' w' ho hb
        have HR2 : Hid (EscR s w v' (k + 1) w') := ⟨by rw [HF.out]; exact ho, HB7.out.trans hb⟩
        clear ho hb HF HL HO7 n0 n1 n2 n3 n4 n5 n6 n7
        go_wp2_with (fail)
        go_roundw
        case rel => exact ⟨k + 1, by go_num, by omega, HR2⟩
        case measure => simp [intOf]; omega
      by_cases h27 : s[k] = 27
      · have i1 : ((s[k].toNat : Nat) : Int) = 27 := by rw [h27]; rfl
        have HF : Hid (34 :: (s.data.toList.take (k + 1)).flatMap decB = (34 :: (s.data.toList.take k).flatMap decB) ++ [92, 117, 48, 48, 49, 98]) := by show _ = _; rw [HT.out, h27]; rfl
        clear h27 HT h0 h1 h2 h3 h4 h5 h6 h7 h8 h9 h10 h11 h12 h13 h14 h15 h16 h17 h18 h19 h20 h21 h22 h23 h24 h25 h26
        go_wp2_with (fail)
        refine wp_loop_rounds 9 ?_
        rw [rounds_succ]
        go_wp2_with (fail)
        rw [rounds_succ]
        go_wp2_with (fail)
        rw [rounds_succ]
        go_wp2_with (fail)
        rw [rounds_succ]
        go_wp2_with (fail)
        rw [rounds_succ]
        go_wp2_with (fail)
        rw [rounds_succ]
        go_wp2_with (fail)
        rw [rounds_succ]
        go_wp2_with (fail)
        rw [rounds_succ]
        go_wp2_with (at_builtin; refine wpList_appN rfl _ _ rfl w.heap.size (wr.iter ⟨#[8, 9, 10, 12, 13, 34, 92]⟩ 7) _ [92, 117, 48, 48, 49, 98] _ rfl HO7.out hB7 (Nat.le_trans (Nat.add_le_add_left (by decide) _) HL.out) rfl rfl ?_)
        intro v' w' ho hb
        have HR2 : Hid (EscR s w v' (k + 1) w') := ⟨by rw [HF.out]; exact ho, HB7.out.trans hb⟩
        clear ho hb HF HL HO7 n0 n1 n2 n3 n4 n5 n6 n7
        go_wp2_with (fail)
        go_roundw
        case rel => exact ⟨k + 1, by go_num, by omega, HR2⟩
        case measure => simp [intOf]; omega
      by_cases h28 : s[k] = 28
      · have i1 : ((s[k].toNat : Nat) : Int) = 28 := by rw [h28]; rfl
        have HF : Hid (34 :: (s.data.toList.take (k + 1)).flatMap decB = (34 :: (s.data.toList.take k).flatMap decB) ++ [92, 117, 48, 48, 49, 99]) := by show _ = _; rw [HT.out, h28]; rfl
        clear h28 HT h0 h1 h2 h3 h4 h5 h6 h7 h8 h9 h10 h11 h12 h13 h14 h15 h16 h17 h18 h19 h20 h21 h22 h23 h24 h25 h26 h27
        go_wp2_with (fail)
        refine wp_loop_rounds 9 ?_
        rw [rounds_succ]
        go_wp2_with (fail)
        rw [rounds_succ]
        go_wp2_with (fail)
        rw [rounds_succ]
        go_wp2_with (fail)
        rw [rounds_succ]
        go_wp2_with (fail)
        rw [rounds_succ]
        go_wp2_with (fail)
        rw [rounds_succ]
        go_wp2_with (fail)
        rw [rounds_succ]
        go_wp2_with (fail)
        rw [rounds_succ]
        go_wp2_with (at_builtin; refine wpList_appN rfl _ _ rfl w.heap.size (wr.iter ⟨#[8, 9, 10, 12, 13, 34, 92]⟩ 7) _ [92, 117, 48, 48, 49, 99] _ rfl HO7.out hB7 (Nat.le_trans (Nat.add_le_add_left (by decide) _) HL.out) rfl rfl ?_)
        intro v' w' ho hb
        have HR2 : Hid (EscR s w v' (k + 1) w') := ⟨by rw [HF.out]; exact ho, HB7.out.trans hb⟩
        clear ho hb HF HL HO7 n0 n1 n2 n3 n4 n5 n6 n7
        go_wp2_with (fail)
        go_roundw
        case rel => exact ⟨k + 1, by go_num, by omega, HR2⟩
        case measure => simp [intOf]; omega
      by_cases h29 : s[k] = 29
      · have i1 : ((s[k].toNat : Nat) : Int) = 29 := by rw [h29]; rfl
        have HF : Hid (34 :: (s.data.toList.take (k + 1)).flatMap decB = (34 :: (s.data.toList.take k).flatMap decB) ++ [92, 117, 48, 48, 49, 100]) := by show _ = _; rw [HT.out, h29]; rfl
        clear h29 HT h0 h1 h2 h3 h4 h5 h6 h7 h8 h9 h10 h11 h12 h13 h14 h15 h16 h17 h18 h19 h20 h21 h22 h23 h24 h25 h26 h27 h28
        go_wp2_with (fail)
        refine wp_loop_rounds 9 ?_
        rw [rounds_succ]
        go_wp2_with (fail)
        rw [rounds_succ]
        go_wp2_with (fail)
        rw [rounds_succ]
        go_wp2_with (fail)
        rw [rounds_succ]
        go_wp2_with (fail)
        rw [rounds_succ]
        go_wp2_with (fail)
        rw [rounds_succ]
        go_wp2_with (fail)
        rw [rounds_succ]
        go_wp2_with (fail)
        rw [rounds_succ]
        go_wp2_with (at_builtin; refine wpList_appN rfl _ _ rfl w.heap.size (wr.iter ⟨#[8, 9, 10, 12, 13, 34, 92]⟩ 7) _ [92, 117, 48, 48, 49, 100] _ rfl HO7.out hB7 (Nat.le_trans (Nat.add_le_add_left (by decide) _) HL.out) rfl rfl ?_)
        intro v' w' ho hb
        have HR2 : Hid (EscR s w v' (k + 1) w') := ⟨by rw [HF.out]; exact ho, HB7.out.trans hb⟩
        clear ho hb HF HL HO7 n0 n1 n2 n3 n4 n5 n6 n7
        go_wp2_with (fail)
        go_roundw
        case rel => exact ⟨k + 1, by go_num, by omega, HR2⟩
        case measure => simp [intOf]; omega
      by_cases h30 : s[k] = 30
      · have i1 : ((s[k].toNat : Nat) : Int) = 30 := by rw [h30]; rfl
        have HF : Hid (34 :: (s.data.toList.take (k + 1)).flatMap decB = (34 :: (s.data.toList.take k).flatMap decB) ++ [92, 117, 48, 48, 49, 101]) := by show _ = _; rw [HT.out, h30]; rfl
        clear h30 HT h0 h1 h2 h3 h4 h5 h6 h7 h8 h9 h10 h11 h12 h13 h14 h15 h16 h17 h18 h19 h20 h21 h22 h23 h24 h25 h26 h27 h28 h29
        go_wp2_with (fail)
        refine wp_loop_rounds 9 ?_
        rw [rounds_succ]
        go_wp2_with (fail)
        rw [rounds_succ]
        go_wp2_with (fail)
        rw [rounds_succ]
        go_wp2_with (fail)
        rw [rounds_succ]
        go_wp2_with (fail)
        rw [rounds_succ]
        go_wp2_with (fail)
        rw [rounds_succ]
        go_wp2_with (fail)
        rw [rounds_succ]
        go_wp2_with (fail)
        rw [rounds_succ]
        go_wp2_with (at_builtin; refine wpList_appN rfl _ _ rfl w.heap.size (wr.iter ⟨#[8, 9, 10, 12, 13, 34, 92]⟩ 7) _ [92, 117, 48, 48, 49, 101] _ rfl HO7.out hB7 (Nat.le_trans (Nat.add_le_add_left (by decide) _) HL.out) rfl rfl ?_)
        intro v' w' ho hb
        have HR2 : Hid (EscR s w v' (k + 1) w') := ⟨by rw [HF.out]; exact ho, HB7.out.trans hb⟩
        clear ho hb HF HL HO7 n0 n1 n2 n3 n4 n5 n6 n7
        go_wp2_with (fail)
        go_roundw
        case rel => exact ⟨k + 1, by go_num, by omega, HR2⟩
        case measure => simp [intOf]; omega
      by_cases h31 : s[k] = 31
      · have i1 : ((s[k].toNat : Nat) : Int) = 31 := by rw [h31]; rfl
        have HF : Hid (34 :: (s.data.toList.take (k + 1)).flatMap decB = (34 :: (s.data.toList.take k).flatMap decB) ++ [92, 117, 48, 48, 49, 102]) := by show _ = _; rw [HT.out, h31]; rfl
        clear h31 HT h0 h1 h2 h3 h4 h5 h6 h7 h8 h9 h10 h11 h12 h13 h14 h15 h16 h17 h18 h19 h20 h21 h22 h23 h24 h25 h26 h27 h28 h29 h30
        go_wp2_with (fail)
        refine wp_loop_rounds 9 ?_
        rw [rounds_succ]
        go_wp2_with (fail)
        rw [rounds_succ]
        go_wp2_with (fail)
        rw [rounds_succ]
        go_wp2_with (fail)
        rw [rounds_succ]
        go_wp2_with (fail)
        rw [rounds_succ]
        go_wp2_with (fail)
        rw [rounds_succ]
        go_wp2_with (fail)
        rw [rounds_succ]
        go_wp2_with (fail)
        rw [rounds_succ]
        go_wp2_with (at_builtin; refine wpList_appN rfl _ _ rfl w.heap.size (wr.iter ⟨#[8, 9, 10, 12, 13, 34, 92]⟩ 7) _ [92, 117, 48, 48, 49, 102] _ rfl HO7.out hB7 (Nat.le_trans (Nat.add_le_add_left (by decide) _) HL.out) rfl rfl ?_)
        intro v' w' ho hb
        have HR2 : Hid (EscR s w v' (k + 1) w') := ⟨by rw [HF.out]; exact ho, HB7.out.trans hb⟩
        clear ho hb HF HL HO7 n0 n1 n2 n3 n4 n5 n6 n7
        go_wp2_with (fail)
        go_roundw
        case rel => exact ⟨k + 1, by go_num, by omega, HR2⟩
        case measure => simp [intOf]; omega
      by_cases h34 : s[k] = 34
      · have i1 : ((s[k].toNat : Nat) : Int) = 34 := by rw [h34]; rfl
        have HF : Hid (34 :: (s.data.toList.take (k + 1)).flatMap decB = (34 :: (s.data.toList.take k).flatMap decB) ++ [92, 34]) := by show _ = _; rw [HT.out, h34]; rfl
        clear h34 HT h0 h1 h2 h3 h4 h5 h6 h7 h8 h9 h10 h11 h12 h13 h14 h15 h16 h17 h18 h19 h20 h21 h22 h23 h24 h25 h26 h27 h28 h29 h30 h31
        go_wp2_with (fail)
        refine wp_loop_rounds 9 ?_
        rw [rounds_succ]
        go_wp2_with (fail)
        rw [rounds_succ]
        go_wp2_with (fail)
        rw [rounds_succ]
        go_wp2_with (fail)
        rw [rounds_succ]
        go_wp2_with (fail)
        rw [rounds_succ]
        go_wp2_with (fail)
        rw [rounds_succ]
        go_wp2_with (fail)
        rw [rounds_succ]
        go_wp2_with (fail)
        rw [rounds_succ]
        go_wp2_with (at_builtin; refine wpList_appN rfl _ _ rfl w.heap.size (wr.iter ⟨#[8, 9, 10, 12, 13, 34, 92]⟩ 7) _ [92, 34] _ rfl HO7.out hB7 (Nat.le_trans (Nat.add_le_add_left (by decide) _) HL.out) rfl rfl ?_)
        intro v' w' ho hb
        have HR2 : Hid (EscR s w v' (k + 1) w') := ⟨by rw [HF.out]; exact ho, HB7.out.trans hb⟩
        clear ho hb HF HL HO7 n0 n1 n2 n3 n4 n5 n6 n7
        go_wp2_with (fail)
        go_roundw
        case rel => exact ⟨k + 1, by go_num, by omega, HR2⟩
        case measure => simp [intOf]; omega
      by_cases h92 : s[k] = 92
      · have i1 : ((s[k].toNat : Nat) : Int) = 92 := by rw [h92]; rfl
        have HF : Hid (34 :: (s.data.toList.take (k + 1)).flatMap decB = (34 :: (s.data.toList.take k).flatMap decB) ++ [92, 92]) := by show _ = _; rw [HT.out, h92]; rfl
        clear h92 HT h0 h1 h2 h3 h4 h5 h6 h7 h8 h9 h10 h11 h12 h13 h14 h15 h16 h17 h18 h19 h20 h21 h22 h23 h24 h25 h26 h27 h28 h29 h30 h31 h34
        go_wp2_with (fail)
        refine wp_loop_rounds 9 ?_
        rw [rounds_succ]
        go_wp2_with (fail)
        rw [rounds_succ]
        go_wp2_with (fail)
        rw [rounds_succ]
        go_wp2_with (fail)
        rw [rounds_succ]
        go_wp2_with (fail)
        rw [rounds_succ]
        go_wp2_with (fail)
        rw [rounds_succ]
        go_wp2_with (fail)
        rw [rounds_succ]
        go_wp2_with (fail)
        rw [rounds_succ]
        go_wp2_with (at_builtin; refine wpList_appN rfl _ _ rfl w.heap.size (wr.iter ⟨#[8, 9, 10, 12, 13, 34, 92]⟩ 7) _ [92, 92] _ rfl HO7.out hB7 (Nat.le_trans (Nat.add_le_add_left (by decide) _) HL.out) rfl rfl ?_)
        intro v' w' ho hb
        have HR2 : Hid (EscR s w v' (k + 1) w') := ⟨by rw [HF.out]; exact ho, HB7.out.trans hb⟩
        clear ho hb HF HL HO7 n0 n1 n2 n3 n4 n5 n6 n7
        go_wp2_with (fail)
        go_roundw
        case rel => exact ⟨k + 1, by go_num, by omega, HR2⟩
        case measure => simp [intOf]; omega
      have hc : ∀ v : UInt8, v ∈ ([8, 9, 10, 12, 13, 34, 92] : List UInt8) → ¬ ((v.toNat : Nat) : Int) = ((s[k].toNat : Nat) : Int) := by
        intro v hv e
        have e2 : v = s[k] := UInt8.toNat_inj.1 (by omega)
        simp only [List.mem_cons, List.not_mem_nil, or_false] at hv
        rcases hv with rfl | rfl | rfl | rfl | rfl | rfl | rfl
        · exact h8 e2.symm
        · exact h9 e2.symm
        · exact h10 e2.symm
        · exact h12 e2.symm
        · exact h13 e2.symm
        · exact h34 e2.symm
        · exact h92 e2.symm
      have j8 := hc 8 (by decide)
      have j9 := hc 9 (by decide)
      have j10 := hc 10 (by decide)
      have j12 := hc 12 (by decide)
      have j13 := hc 13 (by decide)
      have j34 := hc 34 (by decide)
      have j92 := hc 92 (by decide)
      have h32 : ¬ s[k].toNat < 32 := by
        intro hl
        have : ∀ m : Nat, m < 32 → s[k].toNat = m → s[k] = UInt8.ofNat m := fun m hm e => UInt8.toNat_inj.1 (by rw [e, UInt8.toNat_ofNat_of_lt' (by show _ < 256; omega)])
        have hx := this _ hl rfl
        revert hx hl
        generalize s[k].toNat = m
        intro hl
        match m, hl with
        | 0, _ => intro hx; exact h0 hx
        | 1, _ => intro hx; exact h1 hx
        | 2, _ => intro hx; exact h2 hx
        | 3, _ => intro hx; exact h3 hx
        | 4, _ => intro hx; exact h4 hx
        | 5, _ => intro hx; exact h5 hx
        | 6, _ => intro hx; exact h6 hx
        | 7, _ => intro hx; exact h7 hx
        | 8, _ => intro hx; exact h8 hx
        | 9, _ => intro hx; exact h9 hx
        | 10, _ => intro hx; exact h10 hx
        | 11, _ => intro hx; exact h11 hx
        | 12, _ => intro hx; exact h12 hx
        | 13, _ => intro hx; exact h13 hx
        | 14, _ => intro hx; exact h14 hx
        | 15, _ => intro hx; exact h15 hx
        | 16, _ => intro hx; exact h16 hx
        | 17, _ => intro hx; exact h17 hx
        | 18, _ => intro hx; exact h18 hx
        | 19, _ => intro hx; exact h19 hx
        | 20, _ => intro hx; exact h20 hx
        | 21, _ => intro hx; exact h21 hx
        | 22, _ => intro hx; exact h22 hx
        | 23, _ => intro hx; exact h23 hx
        | 24, _ => intro hx; exact h24 hx
        | 25, _ => intro hx; exact h25 hx
        | 26, _ => intro hx; exact h26 hx
        | 27, _ => intro hx; exact h27 hx
        | 28, _ => intro hx; exact h28 hx
        | 29, _ => intro hx; exact h29 hx
        | 30, _ => intro hx; exact h30 hx
        | 31, _ => intro hx; exact h31 hx
        | m + 32, hl => exact absurd hl (by omega)
      have hd : decB s[k] = [s[k]] := by
        have : binE s[k] = none := by unfold binE; rw [if_neg h92, if_neg h34, if_neg h8, if_neg h12, if_neg h10, if_neg h13, if_neg h9]
        rw [decB, this]; simp only; rw [if_neg h32]
      have i32 : ¬ ((s[k].toNat : Nat) : Int) < 32 := by omega
      have HF : Hid (34 :: (s.data.toList.take (k + 1)).flatMap decB = (34 :: (s.data.toList.take k).flatMap decB) ++ [s[k]]) := by show _ = _; rw [HT.out, hd]
      clear hc hd h32 HT h0 h1 h2 h3 h4 h5 h6 h7 h8 h9 h10 h11 h12 h13 h14 h15 h16 h17 h18 h19 h20 h21 h22 h23 h24 h25 h26 h27 h28 h29 h30 h31 h34 h92
      simp only [show ((8 : UInt8).toNat : Int) = 8 from rfl, show ((9 : UInt8).toNat : Int) = 9 from rfl, show ((10 : UInt8).toNat : Int) = 10 from rfl, show ((12 : UInt8).toNat : Int) = 12 from rfl, show ((13 : UInt8).toNat : Int) = 13 from rfl, show ((34 : UInt8).toNat : Int) = 34 from rfl, show ((92 : UInt8).toNat : Int) = 92 from rfl] at j8 j9 j10 j12 j13 j34 j92
      go_wp2_with (fail)
      refine wp_loop_rounds 9 ?_
      rw [rounds_succ]
      go_wp2_with (fail)
      rw [rounds_succ]
      go_wp2_with (fail)
      rw [rounds_succ]
      go_wp2_with (fail)
      rw [rounds_succ]
      go_wp2_with (fail)
      rw [rounds_succ]
      go_wp2_with (fail)
      rw [rounds_succ]
      go_wp2_with (fail)
      rw [rounds_succ]
      go_wp2_with (fail)
      rw [rounds_succ]
      go_wp2_with (at_builtin; refine wpList_app1 rfl _ _ rfl w.heap.size (wr.iter ⟨#[8, 9, 10, 12, 13, 34, 92]⟩ 7) _ _ s[k] rfl HO7.out hB7 (Nat.le_trans (Nat.add_le_add_left (by decide) _) HL.out) rfl rfl ?_)
      intro v' w' ho hb
      have HR2 : Hid (EscR s w v' (k + 1) w') := ⟨by rw [HF.out]; exact ho, HB7.out.trans hb⟩
      clear ho hb HF HL HO7 n0 n1 n2 n3 n4 n5 n6 n7
      go_wp2_with (fail)
      go_roundw
      case rel => exact ⟨k + 1, by go_num, by omega, HR2⟩
      case measure => simp [intOf]; omega
    · have HO := Lib.hid HR.out.1
      have hB := HR.out.2.size
      have HE : Hid (deco s.data.toList = (34 :: (s.data.toList.take k).flatMap decB) ++ [34]) := by show _ = _; rw [deco, List.take_of_length_le (by rw [← Lib.size_eq s]; omega)]
      clear n0 n1 n2 n3 n4 n5 n6 n7 HO7 HB7 hB7
      go_wp2_with (at_builtin; refine wpList_app1 rfl _ _ rfl w.heap.size wr _ 34 34 rfl HO.out hB (Nat.le_trans (Nat.add_le_add_left (by decide) _) HL.out) rfl rfl ?_)
      intro v2 w2 ho2 hb2
      have ho3 : OwnB w2 w.heap.size v2 (deco s.data.toList) := by rw [HE.out]; exact ho2
      have HB2 := Lib.hid (HR.out.2.trans hb2)
      have cv := ho3.src.conv
      clear ho2 ho3 hb2 HO HE
      go_wp2_with (fail)
      go_ret
      exact ⟨rfl, HB2.out⟩
end Go.Proofs.YtpkkokhoeiimcaaGreatDoor
