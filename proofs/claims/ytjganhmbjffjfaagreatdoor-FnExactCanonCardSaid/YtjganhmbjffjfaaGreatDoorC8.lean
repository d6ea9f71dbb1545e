/- cjson's numbers: written as they stand, or a panic; EncodeCanonical and Canon at a number. -/
import Derived.Test.YtjganhmbjffjfaaGreatDoorV0
open Go Go.RowKit
namespace Go.Proofs.YtjganhmbjffjfaaGreatDoor
theorem as_n_s (v : Value) (w : World) : (Instr.typeAssert (.iface 128 v) 20 9 true).run Tryz.prog w = .ok (.tuple #[.string ⟨#[]⟩, .bool false]) w := by kernel_rfl
theorem as_n_b (v : Value) (w : World) : (Instr.typeAssert (.iface 128 v) 20 4 true).run Tryz.prog w = .ok (.tuple #[.bool false, .bool false]) w := by kernel_rfl
theorem as_n_yes (v : Value) (w : World) : (Instr.typeAssert (.iface 128 v) 20 128 true).run Tryz.prog w = .ok (.tuple #[v, .bool true]) w := by kernel_rfl
theorem parseInt_ok (s : ByteArray) (hs : s.size ≤ 4294967296) (v : Int) (h : Lib.parseIntB 64 s.data.toList = .ok v) (W : World) : Calls Tryz.prog 94 #[.string s, .int .i64 10, .int .i64 64] W fun e w' => e = .returned (.tuple #[.int .i64 v, .nilIface]) ∧ Below W.heap.size W w' := by
  refine (Tryz.strconv_ParseInt_10_at64_ok s (by omega) v h W).mono ?_
  rintro e w' ⟨he, hw⟩
  refine ⟨he, ?_⟩
  rcases hw with rfl | ⟨t, rfl⟩
  · exact Below.refl _ _
  · exact Lib.bytesWorld_below W _ t
set_option maxRecDepth 100000 in
set_option maxHeartbeats 4000000 in
theorem enc_num (s : ByteArray) (hs : s.size ≤ 4294967296) (v : Int) (h : Lib.parseIntB 64 s.data.toList = .ok v) : EncAt (.iface 128 (.string s)) s.data.toList := by
  intro R b l w hS hl
  have HS := Lib.hid hS
  have hsl : s.data.toList.length = s.size := (Lib.size_eq s).symm
  rw [hsl] at hl
  have HPI := Lib.hid (parseInt_ok s hs v h)
  have HR : Hid (R ≤ w.heap.size) := by obtain ⟨_, _, _, _, _, _, hR⟩ := hS; exact hR
  clear hS h hsl
  have a1 := as_n_s
  have a2 := as_n_b
  have a3 := as_n_yes
  go_enter Tryz.func64, Tryz.ntmps64
  go_wp2_with (fail)
  refine (HPI.out _).mono ?_
  rintro e w1 ⟨rfl, hb⟩
  have HB := Lib.hid hb
  clear hb HPI
  go_wp2_with (fail)
  refine (writeString_any s (HS.out.below HB.out) (by omega)).mono ?_
  rintro e w2 ⟨rfl, hf, hS⟩
  have HP : Hid (FrR R b w w2 ∧ SB R b (l ++ s.data.toList) w2) := ⟨((FrR.refl R b w).below HR.out HB.out).trans hf, hS⟩
  clear hf hS
  go_wp2_with (fail)
  go_ret
  exact ⟨rfl, HP.out⟩
/-- A panic with a text. -/
def PanicText (w : World) (e : Ending) (w' : World) : Prop := ∃ m : ByteArray, e = .panicked [{ v := .iface 9 (.string m), recovered := false }] ∧ Below w.heap.size w w'
end Go.Proofs.YtjganhmbjffjfaaGreatDoor
