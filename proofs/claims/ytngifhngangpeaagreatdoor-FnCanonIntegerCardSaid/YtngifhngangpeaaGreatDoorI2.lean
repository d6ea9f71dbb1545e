/- impl.Canon at a number; laws.FnCanonInteger. -/
import Derived.Test.YtngifhngangpeaaGreatDoorC9
import Derived.Test.YtngifhngangpeaaGreatDoorI1
import Derived.Test.YtngifhngangpeaaGreatDoorA2
import Derived.Deep.RegionHeld3
open Go Go.RowKit
namespace Go.Proofs.YtngifhngangpeaaGreatDoor
theorem below_step6 {n : Nat} {w W W' : World} (h : Below n w W) (hn : n ≤ w.heap.size) (h2 : Below W.heap.size W W') : Below n w W' := h.trans (h2.mono (Nat.le_trans hn h.size))
set_option maxRecDepth 100000 in
set_option maxHeartbeats 4000000 in
theorem value_num (s : ByteArray) (w : World) : Calls Tryz.prog 42 #[.agg #[.string ⟨#[110, 117, 109, 98, 101, 114]⟩, .string s, .slice none 0 0, .slice none 0 0]] w fun e w' => e = .returned (.tuple #[.iface 117 (.string s), .bool true]) ∧ Below w.heap.size w w' := by
  go_enter Tryz.func42, Tryz.ntmps42
  go_wp2_with (fail)
  go_ret2
  exact ⟨rfl, (Below.refl _ _).alloc (Nat.le_refl _) _⟩
set_option maxRecDepth 100000 in
set_option maxHeartbeats 8000000 in
theorem canon_num (s : ByteArray) (hs : s.size ≤ 65536) (v : Int) (h : Lib.parseIntB 64 s.data.toList = .ok v) (w : World) :
    Calls Tryz.prog 20 #[.agg #[.string ⟨#[110, 117, 109, 98, 101, 114]⟩, .string s, .slice none 0 0, .slice none 0 0]] w fun e w' => ∃ v, e = .returned (.tuple #[v, .bool true]) ∧ BSrc w' v s.data.toList ∧ Below w.heap.size w w' := by
  obtain ⟨W, hW⟩ : ∃ W, W = w.alloc (.cells #[.string ⟨#[110, 117, 109, 98, 101, 114]⟩, .string s, .slice none 0 0, .slice none 0 0] 39) := ⟨_, rfl⟩
  have HB : Hid (Below w.heap.size w W) := by show Below _ _ _; rw [hW]; exact (Below.refl _ _).alloc (Nat.le_refl _) _
  have HW := Lib.hid hW
  have HE : Hid (∀ w, Calls Tryz.prog 43 #[.iface 117 (.string s)] w fun e w' => ∃ v, e = .returned (.tuple #[v, .nilIface]) ∧ BSrc w' v s.data.toList ∧ Below w.heap.size w w') := fun w => encodeCanonical_at (enc_num s (by omega) v h) (by rw [← Lib.size_eq s]; omega)
  clear hW h
  go_enter Tryz.func20, Tryz.ntmps20
  go_wp2_with (fail)
  rw [← HW.out]
  clear HW
  refine (value_num s W).mono ?_
  rintro e w1 ⟨rfl, hb⟩
  have HB1 := Lib.hid (HB.out.trans (hb.mono HB.out.size))
  clear hb
  go_wp2_with (fail)
  refine (HE.out _).mono ?_
  rintro e w2 ⟨v, rfl, hv, hb⟩
  have HV := Lib.hid hv
  have HB2 := Lib.hid (HB1.out.trans (hb.mono HB1.out.size))
  clear hv hb
  go_wp2_with (fail)
  go_quiet (fail)
  go_wp2_with (fail)
  go_ret2
  exact ⟨v, rfl, HV.out, ⟨HB2.out.os, HB2.out.tape, HB2.out.output, HB2.out.size, HB2.out.block⟩⟩
set_option maxRecDepth 100000 in
set_option maxHeartbeats 8000000 in
theorem canon_num_bad (s : ByteArray) (hs : s.size ≤ 65536) (h : Lib.parseIntB 64 s.data.toList = .«syntax») {N : Nat} {w : World} (hN : TL N w) :
    Calls Tryz.prog 20 #[.agg #[.string ⟨#[110, 117, 109, 98, 101, 114]⟩, .string s, .slice none 0 0, .slice none 0 0]] w fun e w' => ∃ v, e = .returned (.tuple #[v, .bool false]) ∧ Below w.heap.size w w' := by
  have HN := Lib.hid hN
  obtain ⟨W, hW⟩ : ∃ W, W = w.alloc (.cells #[.string ⟨#[110, 117, 109, 98, 101, 114]⟩, .string s, .slice none 0 0, .slice none 0 0] 39) := ⟨_, rfl⟩
  have HB : Hid (Below w.heap.size w W) := by show Below _ _ _; rw [hW]; exact (Below.refl _ _).alloc (Nat.le_refl _) _
  have HW := Lib.hid hW
  have HE : Hid (∀ w, TL N w → Calls Tryz.prog 43 #[.iface 117 (.string s)] w fun e w' => ∃ T M, e = .returned (.tuple #[.slice none 0 0, .iface T M]) ∧ Below w.heap.size w w') := fun w hN => encodeCanonical_bad (fun b W hW => enc_num_bad s (by omega) h b hW) hN
  clear hW h hN
  go_enter Tryz.func20, Tryz.ntmps20
  go_wp2_with (fail)
  rw [← HW.out]
  clear HW
  refine (value_num s W).mono ?_
  rintro e w1 ⟨rfl, hb⟩
  have HB1 := Lib.hid (HB.out.trans (hb.mono HB.out.size))
  clear hb
  go_wp2_with (fail)
  refine (HE.out _ (HN.out.mono HN.out.le HB1.out)).mono ?_
  rintro e w2 ⟨T, M, rfl, hb⟩
  have HB2 := Lib.hid (HB1.out.trans (hb.mono HB1.out.size))
  clear hb
  go_wp2_with (fail)
  go_quiet (fail)
  go_wp2_with (fail)
  go_ret2
  exact ⟨_, rfl, ⟨HB2.out.os, HB2.out.tape, HB2.out.output, HB2.out.size, HB2.out.block⟩⟩
end Go.Proofs.YtngifhngangpeaaGreatDoor
