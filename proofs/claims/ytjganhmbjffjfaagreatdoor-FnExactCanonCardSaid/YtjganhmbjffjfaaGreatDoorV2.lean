/- laws.canonical. -/
import Derived.Test.YtjganhmbjffjfaaGreatDoorV0
open Go Go.RowKit
namespace Go.Proofs.YtjganhmbjffjfaaGreatDoor
/-- The canonical text of the OLPC kind, within the marks. -/
def canB (l : List UInt8) : List UInt8 := l.flatMap fun c => if c = 34 ∨ c = 92 then [92, c] else [c]
theorem canB_snoc (l : List UInt8) (c : UInt8) : canB (l ++ [c]) = canB l ++ (if c = 34 ∨ c = 92 then [92, c] else [c]) := by simp [canB]
theorem canB_len (l : List UInt8) : (canB l).length ≤ 2 * l.length := by
  induction l with
  | nil => simp [canB]
  | cons c l ih =>
    unfold canB at ih ⊢
    rw [List.flatMap_cons, List.length_append, List.length_cons]
    have : (if c = 34 ∨ c = 92 then [92, c] else [c]).length ≤ 2 := by split <;> simp
    omega
theorem encStr_can (l : List UInt8) : encStr l = 34 :: canB l ++ [34] := by
  unfold encStr
  congr 2
  unfold canB repB
  rw [List.flatMap_assoc]
  congr 1
  funext c
  by_cases h1 : c = 92
  · subst h1; simp
  · by_cases h2 : c = 34
    · subst h2; simp
    · simp [h1, h2]
set_option maxRecDepth 100000 in
set_option maxHeartbeats 8000000 in
theorem canonical_any (s : ByteArray) (hs : s.size ≤ 1073741824) (w : World) : Calls Tryz.prog 13 #[.string s] w fun e w' => e = .returned (.string ⟨(encStr s.data.toList).toArray⟩) ∧ Below w.heap.size w w' := by
  obtain ⟨W, hW⟩ : ∃ W, W = w.alloc (.cells #[.int .u8 34] 5) := ⟨_, rfl⟩
  have HO0 : Hid (OwnB W w.heap.size (.slice (some ⟨w.heap.size, 0, none⟩) 1 1) [34]) := by show OwnB _ _ _ _; rw [hW]; exact OwnB.new w 34
  have HB0 : Hid (Below w.heap.size w W) := by show Below _ _ _; rw [hW]; exact (Below.refl _ _).alloc (Nat.le_refl _) _
  have HW := Lib.hid hW
  clear hW
  go_enter Tryz.func13, Tryz.ntmps13
  go_wp2_with (fail)
  rw [← HW.out]
  go_loopw [3, 4] (fun v i wr => ∃ k : Nat, i = .int .i64 k ∧ k ≤ s.size ∧ Hid (OwnB wr w.heap.size v (34 :: canB (s.data.toList.take k))) ∧ Hid (Below w.heap.size w wr)) (fun _ i _ => s.size - (intOf i).toNat)
  case atStart => exact ⟨0, rfl, Nat.zero_le _, HO0.out, HB0.out⟩
  case round =>
    obtain ⟨k, rfl, hk, HO, HB⟩ := hrel
    have HL : Hid ((34 :: canB (s.data.toList.take k)).length ≤ 2147483650) := by
      show _ ≤ _
      have h1 := canB_len (s.data.toList.take k)
      have h2 : (s.data.toList.take k).length ≤ k := List.length_take_le _ _
      rw [List.length_cons]; omega
    by_cases hlt : k < s.size
    · have HT : Hid (canB (s.data.toList.take (k + 1)) = canB (s.data.toList.take k) ++ (if s[k] = 34 ∨ s[k] = 92 then [92, s[k]] else [s[k]])) := by show _ = _; rw [take_snoc' s k hlt, canB_snoc]
      have hB := HB.out.size
      have hl := HL.out
      have hl1 : (34 :: (canB (s.data.toList.take k) ++ [92])).length + 1 ≤ 140737488355328 := by simp only [List.length_cons, List.length_append, List.length_nil] at hl ⊢; omega
      by_cases h1 : s[k] = 34
      · have i1 : ((s[k].toNat : Nat) : Int) = 34 := by rw [h1]; rfl
        have HT2 : Hid (34 :: canB (s.data.toList.take (k + 1)) = 34 :: (canB (s.data.toList.take k) ++ [92, 34])) := by show _ = _; rw [HT.out, if_pos (.inl h1), h1]
        clear h1 HT
        go_wp2_with (at_builtin; refine wpList_app1 rfl _ _ rfl w.heap.size wr _ 92 92 rfl HO.out hB (by omega) rfl rfl ?_)
        intro v1 w1 ho1 hb1
        have HO1 := Lib.hid ho1
        have HB1 := Lib.hid (HB.out.trans (hb1.mono (Nat.le_refl _)))
        have hB1 := HB1.out.size
        clear ho1 hb1 HO
        go_wp2_with (at_builtin; refine wpList_app1 rfl _ _ rfl w.heap.size w1 _ 34 34 rfl HO1.out hB1 hl1 rfl rfl ?_)
        intro v2 w2 ho2 hb2
        rw [← HT2.out] at ho2
        have HO2 := Lib.hid ho2
        have HB2 := Lib.hid (HB1.out.trans hb2)
        clear ho2 hb2 HO1 HT2
        go_wp2_with (fail)
        go_roundw
        case rel => exact ⟨k + 1, by go_num, by omega, HO2.out, HB2.out⟩
        case measure => simp [intOf]; omega
      · by_cases h2 : s[k] = 92
        · have i1 : ((s[k].toNat : Nat) : Int) = 92 := by rw [h2]; rfl
          have HT2 : Hid (34 :: canB (s.data.toList.take (k + 1)) = 34 :: (canB (s.data.toList.take k) ++ [92, 92])) := by show _ = _; rw [HT.out, if_pos (.inr h2), h2]
          clear h1 h2 HT
          go_wp2_with (at_builtin; refine wpList_app1 rfl _ _ rfl w.heap.size wr _ 92 92 rfl HO.out hB (by omega) rfl rfl ?_)
          intro v1 w1 ho1 hb1
          have HO1 := Lib.hid ho1
          have HB1 := Lib.hid (HB.out.trans (hb1.mono (Nat.le_refl _)))
          have hB1 := HB1.out.size
          clear ho1 hb1 HO
          go_wp2_with (at_builtin; refine wpList_app1 rfl _ _ rfl w.heap.size w1 _ 92 92 rfl HO1.out hB1 hl1 rfl rfl ?_)
          intro v2 w2 ho2 hb2
          rw [← HT2.out] at ho2
          have HO2 := Lib.hid ho2
          have HB2 := Lib.hid (HB1.out.trans hb2)
          clear ho2 hb2 HO1 HT2
          go_wp2_with (fail)
          go_roundw
          case rel => exact ⟨k + 1, by go_num, by omega, HO2.out, HB2.out⟩
          case measure => simp [intOf]; omega
        · have n1 : ¬ s[k].toNat = 34 := fun e => h1 (UInt8.toNat_inj.1 (by rw [e]; rfl))
          have n2 : ¬ s[k].toNat = 92 := fun e => h2 (UInt8.toNat_inj.1 (by rw [e]; rfl))
          have i1 : (((s[k].toNat : Nat) : Int) == 34) = false := by rw [beq_eq_false_iff_ne]; omega
          have i2 : (((s[k].toNat : Nat) : Int) == 92) = false := by rw [beq_eq_false_iff_ne]; omega
          have HT2 : Hid (34 :: canB (s.data.toList.take (k + 1)) = 34 :: (canB (s.data.toList.take k) ++ [s[k]])) := by show _ = _; rw [HT.out, if_neg (by intro h; rcases h with h | h; exact h1 h; exact h2 h)]
          clear h1 h2 n1 n2 HT
          go_wp2_with (at_builtin; refine wpList_app1 rfl _ _ rfl w.heap.size wr _ _ s[k] rfl HO.out hB (by omega) rfl rfl ?_)
          intro v2 w2 ho2 hb2
          rw [← HT2.out] at ho2
          have HO2 := Lib.hid ho2
          have HB2 := Lib.hid (HB.out.trans hb2)
          clear ho2 hb2 HO HT2
          go_wp2_with (fail)
          go_roundw
          case rel => exact ⟨k + 1, by go_num, by omega, HO2.out, HB2.out⟩
          case measure => simp [intOf]; omega
    · have hB := HB.out.size
      have hl := HL.out
      have HE : Hid (encStr s.data.toList = 34 :: (canB (s.data.toList.take k) ++ [34])) := by show _ = _; rw [encStr_can, List.take_of_length_le (by rw [← Lib.size_eq s]; omega)]; rfl
      go_wp2_with (at_builtin; refine wpList_app1 rfl _ _ rfl w.heap.size wr _ 34 34 rfl HO.out hB (by omega) rfl rfl ?_)
      intro v2 w2 ho2 hb2
      rw [← HE.out] at ho2
      have HB2 := Lib.hid (HB.out.trans hb2)
      have cv := ho2.src.conv
      clear ho2 hb2 HO HE
      go_wp2_with (fail)
      go_ret
      exact ⟨rfl, HB2.out⟩
end Go.Proofs.YtjganhmbjffjfaaGreatDoor
