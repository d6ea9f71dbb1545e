/- jcs.literals, isNumber at "1.0", parseLiteral at "true". isNumber, ParseFloat, NumberToJSON at "1.0". ParseFloat at "1.0". -/
import Derived.Test.YtngifhngangpeaaGreatDoorJ3
import Derived.LoopN
import Derived.Lib.Strings
import Derived.Deep.LoopGhost
open Go Go.RowKit
namespace Go.Proofs.YtngifhngangpeaaGreatDoor
theorem alloc_at0 (w : World) (o : Obj) : (w.alloc o).heap[w.heap.size]? = some o := by rw [World.alloc]; simp
def sTrue : ByteArray := ⟨#[116, 114, 117, 101]⟩
def litRow : Obj := .cells #[.string ⟨#[116, 114, 117, 101]⟩, .string ⟨#[102, 97, 108, 115, 101]⟩, .string ⟨#[110, 117, 108, 108]⟩] 9
set_option maxRecDepth 100000 in
set_option maxHeartbeats 1000000 in
theorem literals_any (w : World) : Calls Tryz.prog 162 #[] w fun e w' => e = .returned (.slice (some ⟨w.heap.size, 0, none⟩) 3 3) ∧ w' = w.alloc litRow := by
  go_enter Tryz.func162, Tryz.ntmps162
  go_wp2
  go_ret
  exact ⟨rfl, rfl⟩
set_option maxRecDepth 100000 in
set_option maxHeartbeats 1000000 in
theorem pLit_true (w : World) : Calls Tryz.prog 141 #[.string ⟨#[116, 114, 117, 101]⟩] w fun e w' => e = .returned (.tuple #[.string ⟨#[116, 114, 117, 101]⟩, .nilIface]) ∧ Below w.heap.size w w' := by
  go_enter Tryz.func141, Tryz.ntmps141
  go_wp2_with (go_at_call 162; refine (literals_any _).mono ?_; rintro e w' ⟨rfl, rfl⟩)
  have hb : Below w.heap.size w (w.alloc litRow) := (Below.refl _ _).alloc (Nat.le_refl _) _
  obtain ⟨W, hW⟩ : ∃ W, W = w.alloc litRow := ⟨_, rfl⟩
  have c0 : (w.alloc litRow).cell? ⟨w.heap.size, 0, none⟩ = some (.string ⟨#[116, 114, 117, 101]⟩) := by
    simp only [World.cell?, alloc_at0, litRow]
    rfl
  rw [← hW] at c0 hb ⊢
  clear hW
  go_wp2
  refine wp_loop_rounds 4 ?_
  rw [rounds_succ]
  go_wp2
  go_ret2
  exact ⟨rfl, hb⟩
set_option maxRecDepth 100000 in
set_option maxHeartbeats 1000000 in
theorem digits_0 (s : ByteArray) (HS : Hid (s = ⟨#[49, 46, 48]⟩)) (w : World) : Calls Tryz.prog 179 #[.string s, .int .i64 0] w fun e w' => e = .returned (.int .i64 1) ∧ w = w' := by
  have hz : Hid (s.size = 3) := by show _ = _; rw [HS.out]; rfl
  have z1 : 0 < s.size := by rw [hz.out]; decide
  have z2 : 1 < s.size := by rw [hz.out]; decide
  have z3 : 2 < s.size := by rw [hz.out]; decide
  have z4 : ¬ 3 < s.size := by rw [hz.out]; decide
  have z5 : s.size ≤ 3 := by rw [hz.out]; decide
  have z6 : ¬ s.size ≤ 2 := by rw [hz.out]; decide
  have z7 : ¬ s.size ≤ 0 := by rw [hz.out]; decide
  have ne : ¬ s = ByteArray.empty := by intro e; have := hz.out; rw [e] at this; cases this
  have z8 : (2 : Int) < (s.size : Int) := by omega
  have e3 : ((3 : Int) == (s.size : Int)) = true := by rw [hz.out]; rfl
  have e0 : ((s.size : Int) == 0) = false := by rw [hz.out]; rfl
  have b0 : ∀ h : 0 < s.size, ((s[0]'h).toNat : Int) = 49 := by rw [HS.out]; intro h; rfl
  have b1 : ∀ h : 1 < s.size, ((s[1]'h).toNat : Int) = 46 := by rw [HS.out]; intro h; rfl
  have b2 : ∀ h : 2 < s.size, ((s[2]'h).toNat : Int) = 48 := by rw [HS.out]; intro h; rfl
  go_enter Tryz.func179, Tryz.ntmps179
  go_wp2
  refine wp_loop_rounds 4 ?_
  rw [rounds_succ]
  go_wp2
  rw [rounds_succ]
  go_wp2
  go_ret
  exact ⟨rfl, rfl⟩
set_option maxRecDepth 100000 in
set_option maxHeartbeats 1000000 in
theorem digits_2 (s : ByteArray) (HS : Hid (s = ⟨#[49, 46, 48]⟩)) (w : World) : Calls Tryz.prog 179 #[.string s, .int .i64 2] w fun e w' => e = .returned (.int .i64 3) ∧ w = w' := by
  have hz : Hid (s.size = 3) := by show _ = _; rw [HS.out]; rfl
  have z1 : 0 < s.size := by rw [hz.out]; decide
  have z2 : 1 < s.size := by rw [hz.out]; decide
  have z3 : 2 < s.size := by rw [hz.out]; decide
  have z4 : ¬ 3 < s.size := by rw [hz.out]; decide
  have z5 : s.size ≤ 3 := by rw [hz.out]; decide
  have z6 : ¬ s.size ≤ 2 := by rw [hz.out]; decide
  have z7 : ¬ s.size ≤ 0 := by rw [hz.out]; decide
  have ne : ¬ s = ByteArray.empty := by intro e; have := hz.out; rw [e] at this; cases this
  have z8 : (2 : Int) < (s.size : Int) := by omega
  have e3 : ((3 : Int) == (s.size : Int)) = true := by rw [hz.out]; rfl
  have e0 : ((s.size : Int) == 0) = false := by rw [hz.out]; rfl
  have b0 : ∀ h : 0 < s.size, ((s[0]'h).toNat : Int) = 49 := by rw [HS.out]; intro h; rfl
  have b1 : ∀ h : 1 < s.size, ((s[1]'h).toNat : Int) = 46 := by rw [HS.out]; intro h; rfl
  have b2 : ∀ h : 2 < s.size, ((s[2]'h).toNat : Int) = 48 := by rw [HS.out]; intro h; rfl
  go_enter Tryz.func179, Tryz.ntmps179
  go_wp2
  refine wp_loop_rounds 4 ?_
  rw [rounds_succ]
  go_wp2
  rw [rounds_succ]
  go_wp2
  go_ret
  exact ⟨rfl, rfl⟩
set_option maxRecDepth 100000 in
set_option maxHeartbeats 2000000 in
theorem isNumber_10 (s : ByteArray) (HS : Hid (s = ⟨#[49, 46, 48]⟩)) (w : World) : Calls Tryz.prog 163 #[.string s] w fun e w' => e = .returned (.bool true) ∧ w = w' := by
  have hz : Hid (s.size = 3) := by show _ = _; rw [HS.out]; rfl
  have z1 : 0 < s.size := by rw [hz.out]; decide
  have z2 : 1 < s.size := by rw [hz.out]; decide
  have z3 : 2 < s.size := by rw [hz.out]; decide
  have z4 : ¬ 3 < s.size := by rw [hz.out]; decide
  have z5 : s.size ≤ 3 := by rw [hz.out]; decide
  have z6 : ¬ s.size ≤ 2 := by rw [hz.out]; decide
  have z7 : ¬ s.size ≤ 0 := by rw [hz.out]; decide
  have ne : ¬ s = ByteArray.empty := by intro e; have := hz.out; rw [e] at this; cases this
  have z8 : (2 : Int) < (s.size : Int) := by omega
  have e3 : ((3 : Int) == (s.size : Int)) = true := by rw [hz.out]; rfl
  have e0 : ((s.size : Int) == 0) = false := by rw [hz.out]; rfl
  have b0 : ∀ h : 0 < s.size, ((s[0]'h).toNat : Int) = 49 := by rw [HS.out]; intro h; rfl
  have b1 : ∀ h : 1 < s.size, ((s[1]'h).toNat : Int) = 46 := by rw [HS.out]; intro h; rfl
  have b2 : ∀ h : 2 < s.size, ((s[2]'h).toNat : Int) = 48 := by rw [HS.out]; intro h; rfl
  go_enter Tryz.func163, Tryz.ntmps163
  go_wp2_with (fail)
  refine (digits_0 s HS _).mono ?_
  rintro e w' ⟨rfl, rfl⟩
  go_wp2_with (fail)
  refine (digits_2 s HS _).mono ?_
  rintro e w' ⟨rfl, rfl⟩
  go_wp2_with (fail)
  go_ret
  exact ⟨rfl, rfl⟩
set_option maxRecDepth 100000 in
set_option maxHeartbeats 1000000 in
theorem special_10 (s : ByteArray) (HS : Hid (s = ⟨#[49, 46, 48]⟩)) (w : World) : Calls Tryz.prog 194 #[.string s] w fun e w' => e = .returned (.tuple #[.float .f64 0, .int .i64 0, .bool false]) ∧ w = w' := by
  have hz : Hid (s.size = 3) := by show _ = _; rw [HS.out]; rfl
  have z1 : 0 < s.size := by rw [hz.out]; decide
  have z2 : 1 < s.size := by rw [hz.out]; decide
  have z3 : 2 < s.size := by rw [hz.out]; decide
  have z4 : ¬ 3 < s.size := by rw [hz.out]; decide
  have z5 : s.size ≤ 3 := by rw [hz.out]; decide
  have z6 : ¬ s.size ≤ 2 := by rw [hz.out]; decide
  have z7 : ¬ s.size ≤ 0 := by rw [hz.out]; decide
  have ne : ¬ s = ByteArray.empty := by intro e; have := hz.out; rw [e] at this; cases this
  have z8 : (2 : Int) < (s.size : Int) := by omega
  have e3 : ((3 : Int) == (s.size : Int)) = true := by rw [hz.out]; rfl
  have e0 : ((s.size : Int) == 0) = false := by rw [hz.out]; rfl
  have b0 : ∀ h : 0 < s.size, ((s[0]'h).toNat : Int) = 49 := by rw [HS.out]; intro h; rfl
  have b1 : ∀ h : 1 < s.size, ((s[1]'h).toNat : Int) = 46 := by rw [HS.out]; intro h; rfl
  have b2 : ∀ h : 2 < s.size, ((s[2]'h).toNat : Int) = 48 := by rw [HS.out]; intro h; rfl
  go_enter Tryz.func194, Tryz.ntmps194
  go_wp2
  go_ret3
  exact ⟨rfl, rfl⟩
set_option maxRecDepth 100000 in
set_option maxHeartbeats 4000000 in
theorem readFloat_10 (s : ByteArray) (HS : Hid (s = ⟨#[49, 46, 48]⟩)) (w : World) : Calls Tryz.prog 195 #[.string s] w fun e w' => e = .returned (.tuple #[.int .u64 10, .int .i64 (-1), .bool false, .bool false, .bool false, .int .i64 3, .bool true]) ∧ w = w' := by
  have hz : Hid (s.size = 3) := by show _ = _; rw [HS.out]; rfl
  have z1 : 0 < s.size := by rw [hz.out]; decide
  have z2 : 1 < s.size := by rw [hz.out]; decide
  have z3 : 2 < s.size := by rw [hz.out]; decide
  have z4 : ¬ 3 < s.size := by rw [hz.out]; decide
  have z5 : s.size ≤ 3 := by rw [hz.out]; decide
  have z6 : ¬ s.size ≤ 2 := by rw [hz.out]; decide
  have z7 : ¬ s.size ≤ 0 := by rw [hz.out]; decide
  have ne : ¬ s = ByteArray.empty := by intro e; have := hz.out; rw [e] at this; cases this
  have z8 : (2 : Int) < (s.size : Int) := by omega
  have e3 : ((3 : Int) == (s.size : Int)) = true := by rw [hz.out]; rfl
  have e0 : ((s.size : Int) == 0) = false := by rw [hz.out]; rfl
  have b0 : ∀ h : 0 < s.size, ((s[0]'h).toNat : Int) = 49 := by rw [HS.out]; intro h; rfl
  have b1 : ∀ h : 1 < s.size, ((s[1]'h).toNat : Int) = 46 := by rw [HS.out]; intro h; rfl
  have b2 : ∀ h : 2 < s.size, ((s[2]'h).toNat : Int) = 48 := by rw [HS.out]; intro h; rfl
  go_enter Tryz.func195, Tryz.ntmps195
  go_wp2
  go_step3
  go_wp2_with (fail)
  go_step3
  go_wp2_with (fail)
  refine wp_loop_rounds 5 ?_
  rw [rounds_succ]
  go_wp2_with (fail)
  rw [rounds_succ]
  go_wp2_with (fail)
  rw [rounds_succ]
  go_wp2_with (fail)
  rw [rounds_succ]
  go_wp2_with (fail)
  all_goals first | rw [Exit.noGoto_ret] | skip
  exact bodyPost_ret (v := .tuple #[.int .u64 10, .int .i64 (-1), .bool false, .bool false, .bool false, .int .i64 3, .bool true]) (by simp [results, Tryz.results195, go_sem]) rfl ⟨rfl, rfl⟩
def P10At (w : World) : Prop := ∃ b o c, w.cell? ⟨14, 0, none⟩ = some (.slice (some ⟨b, o, none⟩) 23 c) ∧ w.cell? ⟨b, o + 1, none⟩ = some (.float .f64 4621819117588971520)
theorem f10 : floatOfInt FloatKind.f64 10 = 4621819117588971520 := by kernel_rfl
theorem quo_10 (w : World) : (binOp BinOp.quo 232 (Value.float FloatKind.f64 4621819117588971520) (Value.float FloatKind.f64 4621819117588971520)).run Tryz.prog w = .ok (.float .f64 4607182418800017408) w := by
  kernel_rfl
set_option maxRecDepth 100000 in
set_option maxHeartbeats 1000000 in
theorem atof64exact_10 (w : World) (hT : P10At w) (hI : w.cell? ⟨11, 0, none⟩ = some (.int .u64 52)) :
    Calls Tryz.prog 205 #[.int .u64 10, .int .i64 (-1), .bool false] w fun e w' => e = .returned (.tuple #[.float .f64 4607182418800017408, .bool true]) ∧ w = w' := by
  obtain ⟨b, o, c, h1, h2⟩ := hT
  have hf := f10
  have hq := quo_10
  go_enter Tryz.func205, Tryz.ntmps205
  go_wp2_with (fail)
  go_ret2
  exact ⟨rfl, rfl⟩
set_option maxRecDepth 100000 in
set_option maxHeartbeats 1000000 in
theorem bool2u64_f (w : World) : Calls Tryz.prog 203 #[.bool false] w fun e w' => e = .returned (.int .u64 0) ∧ w = w' := by
  go_enter Tryz.func203, Tryz.ntmps203
  go_wp2
  go_ret
  exact ⟨rfl, rfl⟩
/-- What "1.0" asks of the laid variables. -/
structure N10 (w : World) : Prop where
  p10 : P10At w
  info : w.cell? ⟨11, 0, none⟩ = some (.int .u64 52)
  opt : w.cell? ⟨10, 0, none⟩ = some (.bool true)
set_option maxRecDepth 100000 in
set_option maxHeartbeats 4000000 in
theorem atof64_10 (s : ByteArray) (HS : Hid (s = ⟨#[49, 46, 48]⟩)) (w : World) (hN : N10 w) : Calls Tryz.prog 191 #[.string s] w fun e w' => e = .returned (.tuple #[.float .f64 4607182418800017408, .int .i64 3, .nilIface]) ∧ w = w' := by
  have HN := Lib.hid hN
  have ho := hN.opt
  clear hN
  go_enter Tryz.func191, Tryz.ntmps191
  go_wp2_with (fail)
  refine (special_10 s HS _).mono ?_
  rintro e w' ⟨rfl, rfl⟩
  go_wp2_with (fail)
  refine (readFloat_10 s HS _).mono ?_
  rintro e w' ⟨rfl, rfl⟩
  go_wp2_with (fail)
  refine (bool2u64_f _).mono ?_
  rintro e w' ⟨rfl, rfl⟩
  go_wp2_with (fail)
  refine (atof64exact_10 _ HN.out.p10 HN.out.info).mono ?_
  rintro e w' ⟨rfl, rfl⟩
  go_wp2_with (fail)
  go_ret3
  exact ⟨rfl, rfl⟩
set_option maxRecDepth 100000 in
set_option maxHeartbeats 4000000 in
theorem prefix_10 (s : ByteArray) (HS : Hid (s = ⟨#[49, 46, 48]⟩)) (w : World) (hN : N10 w) : Calls Tryz.prog 187 #[.string s, .int .i64 64] w fun e w' => e = .returned (.tuple #[.float .f64 4607182418800017408, .int .i64 3, .nilIface]) ∧ w = w' := by
  have HN := Lib.hid hN
  clear hN
  go_enter Tryz.func187, Tryz.ntmps187
  go_wp2_with (fail)
  refine (atof64_10 s HS _ HN.out).mono ?_
  rintro e w' ⟨rfl, rfl⟩
  go_wp2_with (fail)
  go_ret3
  exact ⟨rfl, rfl⟩
set_option maxRecDepth 100000 in
set_option maxHeartbeats 4000000 in
theorem iParseFloat_10 (s : ByteArray) (HS : Hid (s = ⟨#[49, 46, 48]⟩)) (w : World) (hN : N10 w) : Calls Tryz.prog 180 #[.string s, .int .i64 64] w fun e w' => e = .returned (.tuple #[.float .f64 4607182418800017408, .nilIface]) ∧ w = w' := by
  have hz : Hid (s.size = 3) := by show _ = _; rw [HS.out]; rfl
  have z1 : 0 < s.size := by rw [hz.out]; decide
  have z2 : 1 < s.size := by rw [hz.out]; decide
  have z3 : 2 < s.size := by rw [hz.out]; decide
  have z4 : ¬ 3 < s.size := by rw [hz.out]; decide
  have z5 : s.size ≤ 3 := by rw [hz.out]; decide
  have z6 : ¬ s.size ≤ 2 := by rw [hz.out]; decide
  have z7 : ¬ s.size ≤ 0 := by rw [hz.out]; decide
  have ne : ¬ s = ByteArray.empty := by intro e; have := hz.out; rw [e] at this; cases this
  have e3 : ((3 : Int) == (s.size : Int)) = true := by rw [hz.out]; rfl
  have e0 : ((s.size : Int) == 0) = false := by rw [hz.out]; rfl
  have b0 : ∀ h : 0 < s.size, ((s[0]'h).toNat : Int) = 49 := by rw [HS.out]; intro h; rfl
  have b1 : ∀ h : 1 < s.size, ((s[1]'h).toNat : Int) = 46 := by rw [HS.out]; intro h; rfl
  have b2 : ∀ h : 2 < s.size, ((s[2]'h).toNat : Int) = 48 := by rw [HS.out]; intro h; rfl
  have HN := Lib.hid hN
  clear hN
  go_enter Tryz.func180, Tryz.ntmps180
  go_wp2_with (fail)
  refine (prefix_10 s HS _ HN.out).mono ?_
  rintro e w' ⟨rfl, rfl⟩
  go_wp2_with (fail)
  go_ret2
  exact ⟨rfl, rfl⟩
set_option maxRecDepth 100000 in
set_option maxHeartbeats 4000000 in
theorem parseFloat_10 (s : ByteArray) (HS : Hid (s = ⟨#[49, 46, 48]⟩)) (w : World) (hN : N10 w) : Calls Tryz.prog 164 #[.string s, .int .i64 64] w fun e w' => e = .returned (.tuple #[.float .f64 4607182418800017408, .nilIface]) ∧ w = w' := by
  have HN := Lib.hid hN
  clear hN
  go_enter Tryz.func164, Tryz.ntmps164
  go_wp2_with (fail)
  refine (iParseFloat_10 s HS _ HN.out).mono ?_
  rintro e w' ⟨rfl, rfl⟩
  go_wp2_with (fail)
  go_ret2
  exact ⟨rfl, rfl⟩
end Go.Proofs.YtngifhngangpeaaGreatDoor
