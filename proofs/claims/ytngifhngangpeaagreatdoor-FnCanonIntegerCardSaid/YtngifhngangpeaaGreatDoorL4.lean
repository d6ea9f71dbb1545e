/- The shortest digits of 1.0. -/
import Derived.Test.YtngifhngangpeaaGreatDoorL3
import Derived.Test.YtngifhngangpeaaGreatDoorShelf
import Derived.Test.YtngifhngangpeaaGreatDoorJ9
open Go Go.RowKit
namespace Go.Proofs.YtngifhngangpeaaGreatDoor
set_option maxRecDepth 100000 in
set_option maxHeartbeats 1000000 in
theorem skewed_10 (w : World) : Calls Tryz.prog 232 #[.int .i64 (-52)] w fun e w' => e = .returned (.int .i64 (-16)) ∧ w = w' := by
  go_enter Tryz.func232, Tryz.ntmps232
  go_wp2
  go_ret
  exact ⟨rfl, rfl⟩
set_option maxRecDepth 100000 in
set_option maxHeartbeats 1000000 in
theorem log2_10 (w : World) : Calls Tryz.prog 222 #[.int .i64 16] w fun e w' => e = .returned (.int .i64 53) ∧ w = w' := by
  go_enter Tryz.func222, Tryz.ntmps222
  go_wp2
  go_ret
  exact ⟨rfl, rfl⟩
def T16At (w : World) : Prop := w.cell? ⟨15, 728, none⟩ = some (.int .u64 10240000000000000000) ∧ w.cell? ⟨15, 729, none⟩ = some (.int .u64 0)
def Sc (w : World) (c : Nat) (a b d : Value) : Prop := w.heap[c]? = some (.cells #[a, b, d] 298 (0, 0))
set_option maxRecDepth 100000 in
set_option maxHeartbeats 1000000 in
theorem prescale_10 (c : Nat) (a b d : Value) (w : World) (h : Sc w c a b d) (hT : T16At w) (hc : 15 < c) :
    Calls Tryz.prog 223 #[.pointer (some ⟨c, 0, none⟩), .int .i64 (-63), .int .i64 16, .int .i64 53] w fun e w' => e = .returned (.tuple #[]) ∧ Sc w' c (.int .u64 10240000000000000000) (.int .u64 0) (.int .i64 7) ∧ w' = ((w.setCell ⟨c, 0, none⟩ (.int .u64 10240000000000000000)).setCell ⟨c, 1, none⟩ (.int .u64 0)).setCell ⟨c, 2, none⟩ (.int .i64 7) := by
  obtain ⟨h1, h2⟩ := hT
  unfold Sc at *
  have HS := Lib.hid h
  have c0 : w.cell? ⟨c, 0, none⟩ = some a := by simp [World.cell?, h]
  have c1 : w.cell? ⟨c, 1, none⟩ = some b := by simp [World.cell?, h]
  have c2 : w.cell? ⟨c, 2, none⟩ = some d := by simp [World.cell?, h]
  have f0 : w.frozen? ⟨c, 0, none⟩ = false := by simp [World.frozen?, h]
  have f1 : w.frozen? ⟨c, 1, none⟩ = false := by simp [World.frozen?, h]
  have f2 : w.frozen? ⟨c, 2, none⟩ = false := by simp [World.frozen?, h]
  have hne : ¬ c = 15 := by omega
  have hne2 : ¬ 15 = c := by omega
  clear h
  go_enter Tryz.func223, Tryz.ntmps223
  go_wp2
  go_end0
  have hh : ((w.setCell ⟨c, 0, none⟩ (.int .u64 10240000000000000000)).setCell ⟨c, 1, none⟩ (.int .u64 0)).setCell ⟨c, 2, none⟩ (.int .i64 7) |>.heap[c]? = some (.cells #[.int .u64 10240000000000000000, .int .u64 0, .int .i64 7] 298 (0, 0)) := by
    have := setAt (setAt (setAt HS.out 0 (.int .u64 10240000000000000000)) 1 (.int .u64 0)) 2 (.int .i64 7)
    simpa using this
  exact ⟨rfl, hh, rfl⟩
set_option maxRecDepth 100000 in
set_option maxHeartbeats 2000000 in
theorem uscale_min (c : Nat) (w : World) (h : Sc w c (.int .u64 10240000000000000000) (.int .u64 0) (.int .i64 7)) :
    Calls Tryz.prog 224 #[.int .u64 9223372036854775296, .pointer (some ⟨c, 0, none⟩)] w fun e w' => e = .returned (.int .u64 39999999999999997) ∧ w' = w := by
  unfold Sc at h
  have c0 : w.cell? ⟨c, 0, none⟩ = some (.int .u64 10240000000000000000) := by simp [World.cell?, h]
  have c1 : w.cell? ⟨c, 1, none⟩ = some (.int .u64 0) := by simp [World.cell?, h]
  have c2 : w.cell? ⟨c, 2, none⟩ = some (.int .i64 7) := by simp [World.cell?, h]
  have hm : Calls Tryz.prog 243 #[.int .u64 9223372036854775296, .int .u64 10240000000000000000] w fun e w' => e = .returned (.tuple #[.int .u64 5119999999999999715, .int .u64 14442061007222210560]) ∧ w' = w := Tryz.bits_Mul64 9223372036854775296 10240000000000000000 (by decide) (by decide) w
  have HM := Lib.hid hm
  have hb : bits BinOp.and IntKind.i64 7 63 = 7 := by decide
  have ho : bits BinOp.or IntKind.u64 39999999999999997 1 = 39999999999999997 := by kernel_rfl
  clear h hm
  go_enter Tryz.func224, Tryz.ntmps224
  go_wp2_with (fail)
  refine HM.out.mono ?_
  rintro e w' ⟨rfl, rfl⟩
  go_wp2_with (fail)
  go_ret
  exact ⟨rfl, rfl⟩
set_option maxRecDepth 100000 in
set_option maxHeartbeats 2000000 in
theorem uscale_max (c : Nat) (w : World) (h : Sc w c (.int .u64 10240000000000000000) (.int .u64 0) (.int .i64 7)) :
    Calls Tryz.prog 224 #[.int .u64 9223372036854776832, .pointer (some ⟨c, 0, none⟩)] w fun e w' => e = .returned (.int .u64 40000000000000005) ∧ w' = w := by
  unfold Sc at h
  have c0 : w.cell? ⟨c, 0, none⟩ = some (.int .u64 10240000000000000000) := by simp [World.cell?, h]
  have c1 : w.cell? ⟨c, 1, none⟩ = some (.int .u64 0) := by simp [World.cell?, h]
  have c2 : w.cell? ⟨c, 2, none⟩ = some (.int .i64 7) := by simp [World.cell?, h]
  have hm : Calls Tryz.prog 243 #[.int .u64 9223372036854776832, .int .u64 10240000000000000000] w fun e w' => e = .returned (.tuple #[.int .u64 5120000000000000568, .int .u64 8009366132974682112]) ∧ w' = w := Tryz.bits_Mul64 9223372036854776832 10240000000000000000 (by decide) (by decide) w
  have HM := Lib.hid hm
  have hb : bits BinOp.and IntKind.i64 7 63 = 7 := by decide
  have ho : bits BinOp.or IntKind.u64 40000000000000004 1 = 40000000000000005 := by kernel_rfl
  clear h hm
  go_enter Tryz.func224, Tryz.ntmps224
  go_wp2_with (fail)
  refine HM.out.mono ?_
  rintro e w' ⟨rfl, rfl⟩
  go_wp2_with (fail)
  go_ret
  exact ⟨rfl, rfl⟩
set_option maxRecDepth 100000 in
set_option maxHeartbeats 1000000 in
theorem nudge_min (w : World) : Calls Tryz.prog 233 #[.int .u64 39999999999999997, .int .i64 0] w fun e w' => e = .returned (.int .u64 39999999999999997) ∧ w = w' := by
  go_enter Tryz.func233, Tryz.ntmps233
  go_wp2
  go_ret
  exact ⟨rfl, rfl⟩
set_option maxRecDepth 100000 in
set_option maxHeartbeats 1000000 in
theorem nudge_max (w : World) : Calls Tryz.prog 233 #[.int .u64 40000000000000005, .int .i64 0] w fun e w' => e = .returned (.int .u64 40000000000000005) ∧ w = w' := by
  go_enter Tryz.func233, Tryz.ntmps233
  go_wp2
  go_ret
  exact ⟨rfl, rfl⟩
set_option maxRecDepth 100000 in
set_option maxHeartbeats 1000000 in
theorem ceil_min (w : World) : Calls Tryz.prog 234 #[.int .u64 39999999999999997] w fun e w' => e = .returned (.int .u64 10000000000000000) ∧ w = w' := by
  go_enter Tryz.func234, Tryz.ntmps234
  go_wp2
  go_ret
  exact ⟨rfl, rfl⟩
set_option maxRecDepth 100000 in
set_option maxHeartbeats 1000000 in
theorem floor_max (w : World) : Calls Tryz.prog 235 #[.int .u64 40000000000000005] w fun e w' => e = .returned (.int .u64 10000000000000001) ∧ w = w' := by
  go_enter Tryz.func235, Tryz.ntmps235
  go_wp2
  go_ret
  exact ⟨rfl, rfl⟩
set_option maxRecDepth 100000 in
set_option maxHeartbeats 4000000 in
theorem short_10 (w : World) (hT : T16At w) : Calls Tryz.prog 218 #[.int .u64 9223372036854775808, .int .i64 (-63)] w fun e w' => e = .returned (.tuple #[.int .u64 1000000000000000, .int .i64 (-15)]) ∧ Below w.heap.size w w' := by
  go_enter Tryz.func218, Tryz.ntmps218
  have hgl : 15 < w.heap.size := World.lt_of_cell hT.1
  have HT := Lib.hid hT
  have HSC : Hid (Sc (w.alloc (.cells #[.int .u64 0, .int .u64 0, .int .i64 0] 298)) w.heap.size (.int .u64 0) (.int .u64 0) (.int .i64 0)) := alloc_at _ _
  have hbo : bits BinOp.and IntKind.i64 4503599627370496 1 = 0 := by kernel_rfl
  have HTA : Hid (T16At (w.alloc (.cells #[.int .u64 0, .int .u64 0, .int .i64 0] 298))) := by
    have hb : Below w.heap.size w (w.alloc (.cells #[.int .u64 0, .int .u64 0, .int .i64 0] 298)) := (Below.refl _ _).alloc (Nat.le_refl _) _
    exact ⟨(hb.cell (p := ⟨15, 728, none⟩) hgl).trans hT.1, (hb.cell (p := ⟨15, 729, none⟩) hgl).trans hT.2⟩
  have HB : Hid (Below w.heap.size w (((w.alloc (.cells #[.int .u64 0, .int .u64 0, .int .i64 0] 298)).setCell ⟨w.heap.size, 0, none⟩ (.int .u64 10240000000000000000)).setCell ⟨w.heap.size, 1, none⟩ (.int .u64 0) |>.setCell ⟨w.heap.size, 2, none⟩ (.int .i64 7))) :=
    ((((Below.refl _ _).alloc (Nat.le_refl _) _).setCell (Nat.le_refl _) _).setCell (Nat.le_refl _) _).setCell (Nat.le_refl _) _
  clear hT
  go_wp2_with (fail)
  refine (skewed_10 _).mono ?_
  rintro e w' ⟨rfl, rfl⟩
  go_wp2_with (fail)
  refine (log2_10 _).mono ?_
  rintro e w' ⟨rfl, rfl⟩
  go_wp2_with (fail)
  refine (prescale_10 w.heap.size _ _ _ _ HSC.out HTA.out hgl).mono ?_
  rintro e w2 ⟨rfl, hsc, hw2⟩
  have HS2 := Lib.hid hsc
  have HB2 : Hid (Below w.heap.size w w2) := by show Below _ _ _; rw [hw2]; exact HB.out
  clear hsc hw2 HB HSC HTA
  go_wp2_with (fail)
  refine (uscale_min _ _ HS2.out).mono ?_
  rintro e w' ⟨rfl, rfl⟩
  go_wp2_with (fail)
  refine (nudge_min _).mono ?_
  rintro e w' ⟨rfl, rfl⟩
  go_wp2_with (fail)
  refine (ceil_min _).mono ?_
  rintro e w' ⟨rfl, rfl⟩
  go_wp2_with (fail)
  refine (uscale_max _ _ HS2.out).mono ?_
  rintro e w' ⟨rfl, rfl⟩
  go_wp2_with (fail)
  refine (nudge_max _).mono ?_
  rintro e w' ⟨rfl, rfl⟩
  go_wp2_with (fail)
  refine (floor_max _).mono ?_
  rintro e w' ⟨rfl, rfl⟩
  go_wp2_with (fail)
  go_ret2
  exact ⟨rfl, HB2.out⟩
end Go.Proofs.YtngifhngangpeaaGreatDoor
