/- jcs.literals, isNumber at "1.0", parseLiteral at "true". isNumber, ParseFloat, NumberToJSON at "1.0". ParseFloat at "1.0". The shortest digits of 1.0. The text of 1.0. FormatFloat at 1.0. NumberToJSON and parseLiteral at 1.0. -/
import Derived.Test.YtjganhmbjffjfaaGreatDoorJ3
import Derived.LoopN
import Derived.Lib.Strings
import Derived.Deep.LoopGhost
import Derived.Test.YtjganhmbjffjfaaGreatDoorShelf
import Derived.Test.YtjganhmbjffjfaaGreatDoorJ9
import Derived.Maps.AppendAt
import Derived.Test.YtjganhmbjffjfaaGreatDoorN5
import Derived.Deep.RegionHeld3
import Derived.OwnWalk
import Derived.Laws.BytesArg
open Go Go.RowKit
namespace Go.Proofs.YtjganhmbjffjfaaGreatDoor
theorem alloc_at0 (w : World) (o : Obj) : (w.alloc o).heap[w.heap.size]? = some o := by rw [World.alloc]; simp
def sTrue : ByteArray := ⟨#[116, 114, 117, 101]⟩
def litRow : Obj := .cells #[.string ⟨#[116, 114, 117, 101]⟩, .string ⟨#[102, 97, 108, 115, 101]⟩, .string ⟨#[110, 117, 108, 108]⟩] 9
set_option maxRecDepth 100000 in
set_option maxHeartbeats 1000000 in
theorem literals_any (w : World) : Calls Tryz.prog 202 #[] w fun e w' => e = .returned (.slice (some ⟨w.heap.size, 0, none⟩) 3 3) ∧ w' = w.alloc litRow := by
  go_enter Tryz.func202, Tryz.ntmps202
  go_wp2
  go_ret
  exact ⟨rfl, rfl⟩
set_option maxRecDepth 100000 in
set_option maxHeartbeats 1000000 in
theorem pLit_true (w : World) : Calls Tryz.prog 180 #[.string ⟨#[116, 114, 117, 101]⟩] w fun e w' => e = .returned (.tuple #[.string ⟨#[116, 114, 117, 101]⟩, .nilIface]) ∧ Below w.heap.size w w' := by
  go_enter Tryz.func180, Tryz.ntmps180
  go_wp2_with (go_at_call 202; refine (literals_any _).mono ?_; rintro e w' ⟨rfl, rfl⟩)
  have hb : Below w.heap.size w (w.alloc litRow) := (Below.refl _ _).alloc (Nat.le_refl _) _
  obtain ⟨W, hW⟩ : ∃ W, W = w.alloc litRow := ⟨_, rfl⟩
  have c0 : (w.alloc litRow).cell? ⟨w.heap.size, 0, none⟩ = some (.string ⟨#[116, 114, 117, 101]⟩) := by
    simp only [World.cell?, alloc_at0, litRow]
    rfl
  rw [← hW] at c0 hb ⊢
  clear hW
  go_wp2
  refine wp_loop_rounds 4 ?_
  rw [rounds_succ]
  go_wp2
  go_ret2
  exact ⟨rfl, hb⟩
set_option maxRecDepth 100000 in
set_option maxHeartbeats 1000000 in
theorem digits_0 (s : ByteArray) (HS : Hid (s = ⟨#[49, 46, 48]⟩)) (w : World) : Calls Tryz.prog 219 #[.string s, .int .i64 0] w fun e w' => e = .returned (.int .i64 1) ∧ w = w' := by
  have hz : Hid (s.size = 3) := by show _ = _; rw [HS.out]; rfl
  have z1 : 0 < s.size := by rw [hz.out]; decide
  have z2 : 1 < s.size := by rw [hz.out]; decide
  have z3 : 2 < s.size := by rw [hz.out]; decide
  have z4 : ¬ 3 < s.size := by rw [hz.out]; decide
  have z5 : s.size ≤ 3 := by rw [hz.out]; decide
  have z6 : ¬ s.size ≤ 2 := by rw [hz.out]; decide
  have z7 : ¬ s.size ≤ 0 := by rw [hz.out]; decide
  have ne : ¬ s = ByteArray.empty := by intro e; have := hz.out; rw [e] at this; cases this
  have z8 : (2 : Int) < (s.size : Int) := by omega
  have e3 : ((3 : Int) == (s.size : Int)) = true := by rw [hz.out]; rfl
  have e0 : ((s.size : Int) == 0) = false := by rw [hz.out]; rfl
  have b0 : ∀ h : 0 < s.size, ((s[0]'h).toNat : Int) = 49 := by rw [HS.out]; intro h; rfl
  have b1 : ∀ h : 1 < s.size, ((s[1]'h).toNat : Int) = 46 := by rw [HS.out]; intro h; rfl
  have b2 : ∀ h : 2 < s.size, ((s[2]'h).toNat : Int) = 48 := by rw [HS.out]; intro h; rfl
  go_enter Tryz.func219, Tryz.ntmps219
  go_wp2
  refine wp_loop_rounds 4 ?_
  rw [rounds_succ]
  go_wp2
  rw [rounds_succ]
  go_wp2
  go_ret
  exact ⟨rfl, rfl⟩
set_option maxRecDepth 100000 in
set_option maxHeartbeats 1000000 in
theorem digits_2 (s : ByteArray) (HS : Hid (s = ⟨#[49, 46, 48]⟩)) (w : World) : Calls Tryz.prog 219 #[.string s, .int .i64 2] w fun e w' => e = .returned (.int .i64 3) ∧ w = w' := by
  have hz : Hid (s.size = 3) := by show _ = _; rw [HS.out]; rfl
  have z1 : 0 < s.size := by rw [hz.out]; decide
  have z2 : 1 < s.size := by rw [hz.out]; decide
  have z3 : 2 < s.size := by rw [hz.out]; decide
  have z4 : ¬ 3 < s.size := by rw [hz.out]; decide
  have z5 : s.size ≤ 3 := by rw [hz.out]; decide
  have z6 : ¬ s.size ≤ 2 := by rw [hz.out]; decide
  have z7 : ¬ s.size ≤ 0 := by rw [hz.out]; decide
  have ne : ¬ s = ByteArray.empty := by intro e; have := hz.out; rw [e] at this; cases this
  have z8 : (2 : Int) < (s.size : Int) := by omega
  have e3 : ((3 : Int) == (s.size : Int)) = true := by rw [hz.out]; rfl
  have e0 : ((s.size : Int) == 0) = false := by rw [hz.out]; rfl
  have b0 : ∀ h : 0 < s.size, ((s[0]'h).toNat : Int) = 49 := by rw [HS.out]; intro h; rfl
  have b1 : ∀ h : 1 < s.size, ((s[1]'h).toNat : Int) = 46 := by rw [HS.out]; intro h; rfl
  have b2 : ∀ h : 2 < s.size, ((s[2]'h).toNat : Int) = 48 := by rw [HS.out]; intro h; rfl
  go_enter Tryz.func219, Tryz.ntmps219
  go_wp2
  refine wp_loop_rounds 4 ?_
  rw [rounds_succ]
  go_wp2
  rw [rounds_succ]
  go_wp2
  go_ret
  exact ⟨rfl, rfl⟩
set_option maxRecDepth 100000 in
set_option maxHeartbeats 2000000 in
theorem isNumber_10 (s : ByteArray) (HS : Hid (s = ⟨#[49, 46, 48]⟩)) (w : World) : Calls Tryz.prog 203 #[.string s] w fun e w' => e = .returned (.bool true) ∧ w = w' := by
  have hz : Hid (s.size = 3) := by show _ = _; rw [HS.out]; rfl
  have z1 : 0 < s.size := by rw [hz.out]; decide
  have z2 : 1 < s.size := by rw [hz.out]; decide
  have z3 : 2 < s.size := by rw [hz.out]; decide
  have z4 : ¬ 3 < s.size := by rw [hz.out]; decide
  have z5 : s.size ≤ 3 := by rw [hz.out]; decide
  have z6 : ¬ s.size ≤ 2 := by rw [hz.out]; decide
  have z7 : ¬ s.size ≤ 0 := by rw [hz.out]; decide
  have ne : ¬ s = ByteArray.empty := by intro e; have := hz.out; rw [e] at this; cases this
  have z8 : (2 : Int) < (s.size : Int) := by omega
  have e3 : ((3 : Int) == (s.size : Int)) = true := by rw [hz.out]; rfl
  have e0 : ((s.size : Int) == 0) = false := by rw [hz.out]; rfl
  have b0 : ∀ h : 0 < s.size, ((s[0]'h).toNat : Int) = 49 := by rw [HS.out]; intro h; rfl
  have b1 : ∀ h : 1 < s.size, ((s[1]'h).toNat : Int) = 46 := by rw [HS.out]; intro h; rfl
  have b2 : ∀ h : 2 < s.size, ((s[2]'h).toNat : Int) = 48 := by rw [HS.out]; intro h; rfl
  go_enter Tryz.func203, Tryz.ntmps203
  go_wp2_with (fail)
  refine (digits_0 s HS _).mono ?_
  rintro e w' ⟨rfl, rfl⟩
  go_wp2_with (fail)
  refine (digits_2 s HS _).mono ?_
  rintro e w' ⟨rfl, rfl⟩
  go_wp2_with (fail)
  go_ret
  exact ⟨rfl, rfl⟩
set_option maxRecDepth 100000 in
set_option maxHeartbeats 1000000 in
theorem special_10 (s : ByteArray) (HS : Hid (s = ⟨#[49, 46, 48]⟩)) (w : World) : Calls Tryz.prog 234 #[.string s] w fun e w' => e = .returned (.tuple #[.float .f64 0, .int .i64 0, .bool false]) ∧ w = w' := by
  have hz : Hid (s.size = 3) := by show _ = _; rw [HS.out]; rfl
  have z1 : 0 < s.size := by rw [hz.out]; decide
  have z2 : 1 < s.size := by rw [hz.out]; decide
  have z3 : 2 < s.size := by rw [hz.out]; decide
  have z4 : ¬ 3 < s.size := by rw [hz.out]; decide
  have z5 : s.size ≤ 3 := by rw [hz.out]; decide
  have z6 : ¬ s.size ≤ 2 := by rw [hz.out]; decide
  have z7 : ¬ s.size ≤ 0 := by rw [hz.out]; decide
  have ne : ¬ s = ByteArray.empty := by intro e; have := hz.out; rw [e] at this; cases this
  have z8 : (2 : Int) < (s.size : Int) := by omega
  have e3 : ((3 : Int) == (s.size : Int)) = true := by rw [hz.out]; rfl
  have e0 : ((s.size : Int) == 0) = false := by rw [hz.out]; rfl
  have b0 : ∀ h : 0 < s.size, ((s[0]'h).toNat : Int) = 49 := by rw [HS.out]; intro h; rfl
  have b1 : ∀ h : 1 < s.size, ((s[1]'h).toNat : Int) = 46 := by rw [HS.out]; intro h; rfl
  have b2 : ∀ h : 2 < s.size, ((s[2]'h).toNat : Int) = 48 := by rw [HS.out]; intro h; rfl
  go_enter Tryz.func234, Tryz.ntmps234
  go_wp2
  go_ret3
  exact ⟨rfl, rfl⟩
set_option maxRecDepth 100000 in
set_option maxHeartbeats 4000000 in
theorem readFloat_10 (s : ByteArray) (HS : Hid (s = ⟨#[49, 46, 48]⟩)) (w : World) : Calls Tryz.prog 235 #[.string s] w fun e w' => e = .returned (.tuple #[.int .u64 10, .int .i64 (-1), .bool false, .bool false, .bool false, .int .i64 3, .bool true]) ∧ w = w' := by
  have hz : Hid (s.size = 3) := by show _ = _; rw [HS.out]; rfl
  have z1 : 0 < s.size := by rw [hz.out]; decide
  have z2 : 1 < s.size := by rw [hz.out]; decide
  have z3 : 2 < s.size := by rw [hz.out]; decide
  have z4 : ¬ 3 < s.size := by rw [hz.out]; decide
  have z5 : s.size ≤ 3 := by rw [hz.out]; decide
  have z6 : ¬ s.size ≤ 2 := by rw [hz.out]; decide
  have z7 : ¬ s.size ≤ 0 := by rw [hz.out]; decide
  have ne : ¬ s = ByteArray.empty := by intro e; have := hz.out; rw [e] at this; cases this
  have z8 : (2 : Int) < (s.size : Int) := by omega
  have e3 : ((3 : Int) == (s.size : Int)) = true := by rw [hz.out]; rfl
  have e0 : ((s.size : Int) == 0) = false := by rw [hz.out]; rfl
  have b0 : ∀ h : 0 < s.size, ((s[0]'h).toNat : Int) = 49 := by rw [HS.out]; intro h; rfl
  have b1 : ∀ h : 1 < s.size, ((s[1]'h).toNat : Int) = 46 := by rw [HS.out]; intro h; rfl
  have b2 : ∀ h : 2 < s.size, ((s[2]'h).toNat : Int) = 48 := by rw [HS.out]; intro h; rfl
  go_enter Tryz.func235, Tryz.ntmps235
  go_wp2
  go_step3
  go_wp2_with (fail)
  go_step3
  go_wp2_with (fail)
  refine wp_loop_rounds 5 ?_
  rw [rounds_succ]
  go_wp2_with (fail)
  rw [rounds_succ]
  go_wp2_with (fail)
  rw [rounds_succ]
  go_wp2_with (fail)
  rw [rounds_succ]
  go_wp2_with (fail)
  all_goals first | rw [Exit.noGoto_ret] | skip
  exact bodyPost_ret (v := .tuple #[.int .u64 10, .int .i64 (-1), .bool false, .bool false, .bool false, .int .i64 3, .bool true]) (by simp [results, Tryz.results235, go_sem]) rfl ⟨rfl, rfl⟩
def P10At (w : World) : Prop := ∃ b o c, w.cell? ⟨14, 0, none⟩ = some (.slice (some ⟨b, o, none⟩) 23 c) ∧ w.cell? ⟨b, o + 1, none⟩ = some (.float .f64 4621819117588971520)
theorem f10 : floatOfInt FloatKind.f64 10 = 4621819117588971520 := by kernel_rfl
theorem quo_10 (w : World) : (binOp BinOp.quo 341 (Value.float FloatKind.f64 4621819117588971520) (Value.float FloatKind.f64 4621819117588971520)).run Tryz.prog w = .ok (.float .f64 4607182418800017408) w := by
  kernel_rfl
set_option maxRecDepth 100000 in
set_option maxHeartbeats 1000000 in
theorem atof64exact_10 (w : World) (hT : P10At w) (hI : w.cell? ⟨11, 0, none⟩ = some (.int .u64 52)) :
    Calls Tryz.prog 245 #[.int .u64 10, .int .i64 (-1), .bool false] w fun e w' => e = .returned (.tuple #[.float .f64 4607182418800017408, .bool true]) ∧ w = w' := by
  obtain ⟨b, o, c, h1, h2⟩ := hT
  have hf := f10
  have hq := quo_10
  go_enter Tryz.func245, Tryz.ntmps245
  go_wp2_with (fail)
  go_ret2
  exact ⟨rfl, rfl⟩
set_option maxRecDepth 100000 in
set_option maxHeartbeats 1000000 in
theorem bool2u64_f (w : World) : Calls Tryz.prog 243 #[.bool false] w fun e w' => e = .returned (.int .u64 0) ∧ w = w' := by
  go_enter Tryz.func243, Tryz.ntmps243
  go_wp2
  go_ret
  exact ⟨rfl, rfl⟩
/-- What "1.0" asks of the laid variables. -/
structure N10 (w : World) : Prop where
  p10 : P10At w
  info : w.cell? ⟨11, 0, none⟩ = some (.int .u64 52)
  opt : w.cell? ⟨10, 0, none⟩ = some (.bool true)
set_option maxRecDepth 100000 in
set_option maxHeartbeats 4000000 in
theorem atof64_10 (s : ByteArray) (HS : Hid (s = ⟨#[49, 46, 48]⟩)) (w : World) (hN : N10 w) : Calls Tryz.prog 231 #[.string s] w fun e w' => e = .returned (.tuple #[.float .f64 4607182418800017408, .int .i64 3, .nilIface]) ∧ w = w' := by
  have HN := Lib.hid hN
  have ho := hN.opt
  clear hN
  go_enter Tryz.func231, Tryz.ntmps231
  go_wp2_with (fail)
  refine (special_10 s HS _).mono ?_
  rintro e w' ⟨rfl, rfl⟩
  go_wp2_with (fail)
  refine (readFloat_10 s HS _).mono ?_
  rintro e w' ⟨rfl, rfl⟩
  go_wp2_with (fail)
  refine (bool2u64_f _).mono ?_
  rintro e w' ⟨rfl, rfl⟩
  go_wp2_with (fail)
  refine (atof64exact_10 _ HN.out.p10 HN.out.info).mono ?_
  rintro e w' ⟨rfl, rfl⟩
  go_wp2_with (fail)
  go_ret3
  exact ⟨rfl, rfl⟩
set_option maxRecDepth 100000 in
set_option maxHeartbeats 4000000 in
theorem prefix_10 (s : ByteArray) (HS : Hid (s = ⟨#[49, 46, 48]⟩)) (w : World) (hN : N10 w) : Calls Tryz.prog 227 #[.string s, .int .i64 64] w fun e w' => e = .returned (.tuple #[.float .f64 4607182418800017408, .int .i64 3, .nilIface]) ∧ w = w' := by
  have HN := Lib.hid hN
  clear hN
  go_enter Tryz.func227, Tryz.ntmps227
  go_wp2_with (fail)
  refine (atof64_10 s HS _ HN.out).mono ?_
  rintro e w' ⟨rfl, rfl⟩
  go_wp2_with (fail)
  go_ret3
  exact ⟨rfl, rfl⟩
set_option maxRecDepth 100000 in
set_option maxHeartbeats 4000000 in
theorem iParseFloat_10 (s : ByteArray) (HS : Hid (s = ⟨#[49, 46, 48]⟩)) (w : World) (hN : N10 w) : Calls Tryz.prog 220 #[.string s, .int .i64 64] w fun e w' => e = .returned (.tuple #[.float .f64 4607182418800017408, .nilIface]) ∧ w = w' := by
  have hz : Hid (s.size = 3) := by show _ = _; rw [HS.out]; rfl
  have z1 : 0 < s.size := by rw [hz.out]; decide
  have z2 : 1 < s.size := by rw [hz.out]; decide
  have z3 : 2 < s.size := by rw [hz.out]; decide
  have z4 : ¬ 3 < s.size := by rw [hz.out]; decide
  have z5 : s.size ≤ 3 := by rw [hz.out]; decide
  have z6 : ¬ s.size ≤ 2 := by rw [hz.out]; decide
  have z7 : ¬ s.size ≤ 0 := by rw [hz.out]; decide
  have ne : ¬ s = ByteArray.empty := by intro e; have := hz.out; rw [e] at this; cases this
  have e3 : ((3 : Int) == (s.size : Int)) = true := by rw [hz.out]; rfl
  have e0 : ((s.size : Int) == 0) = false := by rw [hz.out]; rfl
  have b0 : ∀ h : 0 < s.size, ((s[0]'h).toNat : Int) = 49 := by rw [HS.out]; intro h; rfl
  have b1 : ∀ h : 1 < s.size, ((s[1]'h).toNat : Int) = 46 := by rw [HS.out]; intro h; rfl
  have b2 : ∀ h : 2 < s.size, ((s[2]'h).toNat : Int) = 48 := by rw [HS.out]; intro h; rfl
  have HN := Lib.hid hN
  clear hN
  go_enter Tryz.func220, Tryz.ntmps220
  go_wp2_with (fail)
  refine (prefix_10 s HS _ HN.out).mono ?_
  rintro e w' ⟨rfl, rfl⟩
  go_wp2_with (fail)
  go_ret2
  exact ⟨rfl, rfl⟩
set_option maxRecDepth 100000 in
set_option maxHeartbeats 4000000 in
theorem parseFloat_10 (s : ByteArray) (HS : Hid (s = ⟨#[49, 46, 48]⟩)) (w : World) (hN : N10 w) : Calls Tryz.prog 204 #[.string s, .int .i64 64] w fun e w' => e = .returned (.tuple #[.float .f64 4607182418800017408, .nilIface]) ∧ w = w' := by
  have HN := Lib.hid hN
  clear hN
  go_enter Tryz.func204, Tryz.ntmps204
  go_wp2_with (fail)
  refine (iParseFloat_10 s HS _ HN.out).mono ?_
  rintro e w' ⟨rfl, rfl⟩
  go_wp2_with (fail)
  go_ret2
  exact ⟨rfl, rfl⟩
set_option maxRecDepth 100000 in
set_option maxHeartbeats 1000000 in
theorem skewed_10 (w : World) : Calls Tryz.prog 272 #[.int .i64 (-52)] w fun e w' => e = .returned (.int .i64 (-16)) ∧ w = w' := by
  go_enter Tryz.func272, Tryz.ntmps272
  go_wp2
  go_ret
  exact ⟨rfl, rfl⟩
set_option maxRecDepth 100000 in
set_option maxHeartbeats 1000000 in
theorem log2_10 (w : World) : Calls Tryz.prog 262 #[.int .i64 16] w fun e w' => e = .returned (.int .i64 53) ∧ w = w' := by
  go_enter Tryz.func262, Tryz.ntmps262
  go_wp2
  go_ret
  exact ⟨rfl, rfl⟩
def T16At (w : World) : Prop := w.cell? ⟨15, 728, none⟩ = some (.int .u64 10240000000000000000) ∧ w.cell? ⟨15, 729, none⟩ = some (.int .u64 0)
def Sc (w : World) (c : Nat) (a b d : Value) : Prop := w.heap[c]? = some (.cells #[a, b, d] 407 (0, 0))
set_option maxRecDepth 100000 in
set_option maxHeartbeats 1000000 in
theorem prescale_10 (c : Nat) (a b d : Value) (w : World) (h : Sc w c a b d) (hT : T16At w) (hc : 15 < c) :
    Calls Tryz.prog 263 #[.pointer (some ⟨c, 0, none⟩), .int .i64 (-63), .int .i64 16, .int .i64 53] w fun e w' => e = .returned (.tuple #[]) ∧ Sc w' c (.int .u64 10240000000000000000) (.int .u64 0) (.int .i64 7) ∧ w' = ((w.setCell ⟨c, 0, none⟩ (.int .u64 10240000000000000000)).setCell ⟨c, 1, none⟩ (.int .u64 0)).setCell ⟨c, 2, none⟩ (.int .i64 7) := by
  obtain ⟨h1, h2⟩ := hT
  unfold Sc at *
  have HS := Lib.hid h
  have c0 : w.cell? ⟨c, 0, none⟩ = some a := by simp [World.cell?, h]
  have c1 : w.cell? ⟨c, 1, none⟩ = some b := by simp [World.cell?, h]
  have c2 : w.cell? ⟨c, 2, none⟩ = some d := by simp [World.cell?, h]
  have f0 : w.frozen? ⟨c, 0, none⟩ = false := by simp [World.frozen?, h]
  have f1 : w.frozen? ⟨c, 1, none⟩ = false := by simp [World.frozen?, h]
  have f2 : w.frozen? ⟨c, 2, none⟩ = false := by simp [World.frozen?, h]
  have hne : ¬ c = 15 := by omega
  have hne2 : ¬ 15 = c := by omega
  clear h
  go_enter Tryz.func263, Tryz.ntmps263
  go_wp2
  go_end0
  have hh : ((w.setCell ⟨c, 0, none⟩ (.int .u64 10240000000000000000)).setCell ⟨c, 1, none⟩ (.int .u64 0)).setCell ⟨c, 2, none⟩ (.int .i64 7) |>.heap[c]? = some (.cells #[.int .u64 10240000000000000000, .int .u64 0, .int .i64 7] 407 (0, 0)) := by
    have := setAt (setAt (setAt HS.out 0 (.int .u64 10240000000000000000)) 1 (.int .u64 0)) 2 (.int .i64 7)
    simpa using this
  exact ⟨rfl, hh, rfl⟩
set_option maxRecDepth 100000 in
set_option maxHeartbeats 2000000 in
theorem uscale_min (c : Nat) (w : World) (h : Sc w c (.int .u64 10240000000000000000) (.int .u64 0) (.int .i64 7)) :
    Calls Tryz.prog 264 #[.int .u64 9223372036854775296, .pointer (some ⟨c, 0, none⟩)] w fun e w' => e = .returned (.int .u64 39999999999999997) ∧ w' = w := by
  unfold Sc at h
  have c0 : w.cell? ⟨c, 0, none⟩ = some (.int .u64 10240000000000000000) := by simp [World.cell?, h]
  have c1 : w.cell? ⟨c, 1, none⟩ = some (.int .u64 0) := by simp [World.cell?, h]
  have c2 : w.cell? ⟨c, 2, none⟩ = some (.int .i64 7) := by simp [World.cell?, h]
  have hm : Calls Tryz.prog 283 #[.int .u64 9223372036854775296, .int .u64 10240000000000000000] w fun e w' => e = .returned (.tuple #[.int .u64 5119999999999999715, .int .u64 14442061007222210560]) ∧ w' = w := Tryz.bits_Mul64 9223372036854775296 10240000000000000000 (by decide) (by decide) w
  have HM := Lib.hid hm
  have hb : bits BinOp.and IntKind.i64 7 63 = 7 := by decide
  have ho : bits BinOp.or IntKind.u64 39999999999999997 1 = 39999999999999997 := by kernel_rfl
  clear h hm
  go_enter Tryz.func264, Tryz.ntmps264
  go_wp2_with (fail)
  refine HM.out.mono ?_
  rintro e w' ⟨rfl, rfl⟩
  go_wp2_with (fail)
  go_ret
  exact ⟨rfl, rfl⟩
set_option maxRecDepth 100000 in
set_option maxHeartbeats 2000000 in
theorem uscale_max (c : Nat) (w : World) (h : Sc w c (.int .u64 10240000000000000000) (.int .u64 0) (.int .i64 7)) :
    Calls Tryz.prog 264 #[.int .u64 9223372036854776832, .pointer (some ⟨c, 0, none⟩)] w fun e w' => e = .returned (.int .u64 40000000000000005) ∧ w' = w := by
  unfold Sc at h
  have c0 : w.cell? ⟨c, 0, none⟩ = some (.int .u64 10240000000000000000) := by simp [World.cell?, h]
  have c1 : w.cell? ⟨c, 1, none⟩ = some (.int .u64 0) := by simp [World.cell?, h]
  have c2 : w.cell? ⟨c, 2, none⟩ = some (.int .i64 7) := by simp [World.cell?, h]
  have hm : Calls Tryz.prog 283 #[.int .u64 9223372036854776832, .int .u64 10240000000000000000] w fun e w' => e = .returned (.tuple #[.int .u64 5120000000000000568, .int .u64 8009366132974682112]) ∧ w' = w := Tryz.bits_Mul64 9223372036854776832 10240000000000000000 (by decide) (by decide) w
  have HM := Lib.hid hm
  have hb : bits BinOp.and IntKind.i64 7 63 = 7 := by decide
  have ho : bits BinOp.or IntKind.u64 40000000000000004 1 = 40000000000000005 := by kernel_rfl
  clear h hm
  go_enter Tryz.func264, Tryz.ntmps264
  go_wp2_with (fail)
  refine HM.out.mono ?_
  rintro e w' ⟨rfl, rfl⟩
  go_wp2_with (fail)
  go_ret
  exact ⟨rfl, rfl⟩
set_option maxRecDepth 100000 in
set_option maxHeartbeats 1000000 in
theorem nudge_min (w : World) : Calls Tryz.prog 273 #[.int .u64 39999999999999997, .int .i64 0] w fun e w' => e = .returned (.int .u64 39999999999999997) ∧ w = w' := by
  go_enter Tryz.func273, Tryz.ntmps273
  go_wp2
  go_ret
  exact ⟨rfl, rfl⟩
set_option maxRecDepth 100000 in
set_option maxHeartbeats 1000000 in
theorem nudge_max (w : World) : Calls Tryz.prog 273 #[.int .u64 40000000000000005, .int .i64 0] w fun e w' => e = .returned (.int .u64 40000000000000005) ∧ w = w' := by
  go_enter Tryz.func273, Tryz.ntmps273
  go_wp2
  go_ret
  exact ⟨rfl, rfl⟩
set_option maxRecDepth 100000 in
set_option maxHeartbeats 1000000 in
theorem ceil_min (w : World) : Calls Tryz.prog 274 #[.int .u64 39999999999999997] w fun e w' => e = .returned (.int .u64 10000000000000000) ∧ w = w' := by
  go_enter Tryz.func274, Tryz.ntmps274
  go_wp2
  go_ret
  exact ⟨rfl, rfl⟩
set_option maxRecDepth 100000 in
set_option maxHeartbeats 1000000 in
theorem floor_max (w : World) : Calls Tryz.prog 275 #[.int .u64 40000000000000005] w fun e w' => e = .returned (.int .u64 10000000000000001) ∧ w = w' := by
  go_enter Tryz.func275, Tryz.ntmps275
  go_wp2
  go_ret
  exact ⟨rfl, rfl⟩
set_option maxRecDepth 100000 in
set_option maxHeartbeats 4000000 in
theorem short_10 (w : World) (hT : T16At w) : Calls Tryz.prog 258 #[.int .u64 9223372036854775808, .int .i64 (-63)] w fun e w' => e = .returned (.tuple #[.int .u64 1000000000000000, .int .i64 (-15)]) ∧ Below w.heap.size w w' := by
  go_enter Tryz.func258, Tryz.ntmps258
  have hgl : 15 < w.heap.size := World.lt_of_cell hT.1
  have HT := Lib.hid hT
  have HSC : Hid (Sc (w.alloc (.cells #[.int .u64 0, .int .u64 0, .int .i64 0] 407)) w.heap.size (.int .u64 0) (.int .u64 0) (.int .i64 0)) := alloc_at _ _
  have hbo : bits BinOp.and IntKind.i64 4503599627370496 1 = 0 := by kernel_rfl
  have HTA : Hid (T16At (w.alloc (.cells #[.int .u64 0, .int .u64 0, .int .i64 0] 407))) := by
    have hb : Below w.heap.size w (w.alloc (.cells #[.int .u64 0, .int .u64 0, .int .i64 0] 407)) := (Below.refl _ _).alloc (Nat.le_refl _) _
    exact ⟨(hb.cell (p := ⟨15, 728, none⟩) hgl).trans hT.1, (hb.cell (p := ⟨15, 729, none⟩) hgl).trans hT.2⟩
  have HB : Hid (Below w.heap.size w (((w.alloc (.cells #[.int .u64 0, .int .u64 0, .int .i64 0] 407)).setCell ⟨w.heap.size, 0, none⟩ (.int .u64 10240000000000000000)).setCell ⟨w.heap.size, 1, none⟩ (.int .u64 0) |>.setCell ⟨w.heap.size, 2, none⟩ (.int .i64 7))) :=
    ((((Below.refl _ _).alloc (Nat.le_refl _) _).setCell (Nat.le_refl _) _).setCell (Nat.le_refl _) _).setCell (Nat.le_refl _) _
  clear hT
  go_wp2_with (fail)
  refine (skewed_10 _).mono ?_
  rintro e w' ⟨rfl, rfl⟩
  go_wp2_with (fail)
  refine (log2_10 _).mono ?_
  rintro e w' ⟨rfl, rfl⟩
  go_wp2_with (fail)
  refine (prescale_10 w.heap.size _ _ _ _ HSC.out HTA.out hgl).mono ?_
  rintro e w2 ⟨rfl, hsc, hw2⟩
  have HS2 := Lib.hid hsc
  have HB2 : Hid (Below w.heap.size w w2) := by show Below _ _ _; rw [hw2]; exact HB.out
  clear hsc hw2 HB HSC HTA
  go_wp2_with (fail)
  refine (uscale_min _ _ HS2.out).mono ?_
  rintro e w' ⟨rfl, rfl⟩
  go_wp2_with (fail)
  refine (nudge_min _).mono ?_
  rintro e w' ⟨rfl, rfl⟩
  go_wp2_with (fail)
  refine (ceil_min _).mono ?_
  rintro e w' ⟨rfl, rfl⟩
  go_wp2_with (fail)
  refine (uscale_max _ _ HS2.out).mono ?_
  rintro e w' ⟨rfl, rfl⟩
  go_wp2_with (fail)
  refine (nudge_max _).mono ?_
  rintro e w' ⟨rfl, rfl⟩
  go_wp2_with (fail)
  refine (floor_max _).mono ?_
  rintro e w' ⟨rfl, rfl⟩
  go_wp2_with (fail)
  go_ret2
  exact ⟨rfl, HB2.out⟩
open Go.Lib in
theorem dg_10 : ∀ t, t < 16 → dg 1000000000000000 (16 - 1 - t) = if t = 0 then 49 else 48 := by decide
def encU (b : UInt8) : Value := Value.int .u8 (b.toNat : Int)
def Zs (w : World) (blk : Nat) : Prop := ∃ T, w.heap[blk]? = some (.cells (Array.replicate 32 (Value.int .u8 0)) T (0, 0))
def DigAt (w w' : World) (blk : Nat) : Prop := Below blk w w' ∧ w'.cell? ⟨blk, 0, none⟩ = some (Value.int .u8 49) ∧ (∀ t, 1 ≤ t → t < 16 → w'.cell? ⟨blk, t, none⟩ = some (Value.int .u8 48))
open Go.Lib Go.Sort in
theorem base10_10 (w : World) (blk : Nat) (hz : Zs w blk) :
    Calls Tryz.prog 160 #[.slice (some ⟨blk, 0, none⟩) 16 32, .int .u64 1000000000000000] w fun e w' => e = .returned (.tuple #[]) ∧ DigAt w w' blk := by
  have hH : Holds (fun (b : UInt8) => Value.int .u8 (b.toNat : Int)) w blk 0 (Array.replicate 16 (0 : UInt8)) := by
    intro j hj
    have hj' : j < 16 := by simpa using hj
    obtain ⟨T, hz⟩ := hz
    refine ⟨?_, by simp [World.frozen?, hz]⟩
    rw [Nat.zero_add]
    simp only [World.cell?, hz]
    have h1 : (Array.replicate 32 (Value.int .u8 0))[j]? = some (Value.int .u8 0) := by
      rw [Array.getElem?_replicate]; rw [if_pos (by omega)]
    have h2 : (Array.replicate 16 (0 : UInt8))[j]! = 0 := by
      rw [getElem!_pos _ j (by simpa using hj')]; simp
    rw [h2]; exact h1
  refine (Tryz.internal_strconv_formatBase10 blk 0 32 1000000000000000 (Array.replicate 16 (0 : UInt8)) w hH (by simp) (by decide) (by simp)).mono ?_
  rintro e w' ⟨rfl, n, v', dk, rfl, hf⟩
  have hs : dk.size = 16 := by simpa using hf.size
  have hc : ∀ t, t < 16 → ((putRow (fun (b : UInt8) => Value.int .u8 (b.toNat : Int)) w blk 0 dk).drewN n).cell? ⟨blk, t, none⟩ = some (Value.int .u8 ((dg 1000000000000000 (16 - 1 - t)).toNat : Int)) := by
    intro t ht
    have h1 := cell?_putRow (fun (b : UInt8) => Value.int .u8 (b.toNat : Int)) w blk 0 _ dk hH (by simpa using hs) t (by omega)
    have h2 := hf.done t (Nat.zero_le _) (by simpa using ht)
    rw [Nat.zero_add] at h1
    refine Eq.trans h1 ?_
    rw [h2]; simp
  refine ⟨rfl, ⟨rfl, rfl, rfl, ?_, fun k hk => ?_⟩, ?_, ?_⟩
  · simp [putRow, mapBlock, World.drewN]
  · show (putRow _ w blk 0 dk).heap[k]? = _
    simp only [putRow, mapBlock]
    rw [Array.getElem?_modify, if_neg (by omega)]
  · rw [hc 0 (by omega), dg_10 0 (by omega)]; rfl
  · intro t h1 h2
    rw [hc t h2, dg_10 t h2, if_neg (by omega)]; rfl
set_option maxRecDepth 100000 in
set_option maxHeartbeats 2000000 in
theorem setDigits_10 (w : World) (blk : Nat) (hz : Zs w blk) :
    Calls Tryz.prog 253 #[.slice (some ⟨blk, 0, none⟩) 32 32, .int .u64 1000000000000000, .int .i64 (-15), .int .i64 16] w fun e w' => e = .returned (.tuple #[.int .i64 1, .int .i64 1]) ∧ DigAt w w' blk := by
  have HZ := Lib.hid hz
  clear hz
  go_enter Tryz.func253, Tryz.ntmps253
  go_wp2_with (fail)
  refine (base10_10 w blk HZ.out).mono ?_
  rintro e w2 ⟨rfl, hd⟩
  have HD := Lib.hid hd
  have d0 := hd.2.1
  clear hd
  go_wp2_with (fail)
  go_loop [3] (fun v => ∃ m : Nat, 1 ≤ m ∧ m ≤ 16 ∧ v = .int .i64 m) (fun v => (intOf v).toNat)
  case atStart => exact ⟨16, by omega, by omega, rfl⟩
  case round =>
    obtain ⟨m, hm1, hm2, rfl⟩ := hrel
    by_cases h1 : m = 1
    · subst h1
      go_wp2_with (fail)
      go_ret2
      exact ⟨rfl, HD.out⟩
    · obtain ⟨k, rfl⟩ : ∃ k, m = k + 1 := ⟨m - 1, by omega⟩
      have hck : w2.cell? ⟨blk, k, none⟩ = some (Value.int .u8 48) := HD.out.2.2 k (by omega) (by omega)
      have hk0 : (0 : Int) < (k : Int) + 1 := by omega
      go_wp2_with (fail)
      go_round
      case rel => exact ⟨k, by omega, by omega, by go_num⟩
      case measure => simp [intOf]
theorem bits_10 (w : World) : (callFunc 248 #[.float .f64 4607182418800017408]).run Tryz.prog w = .ok (.value (.int .u64 4607182418800017408)) w := by kernel_rfl
theorem mbits_10 (w : World) : (callFunc 221 #[.float .f64 4607182418800017408]).run Tryz.prog w = .ok (.value (.int .u64 4607182418800017408)) w := by kernel_rfl
theorem info_u8' : (Tryz.prog.info? 5).map (fun i => (i.zero, i.size, i.bytes)) = some (some (.int .u8 0), 1, 1) := by kernel_rfl
theorem ownsRow_lt' {w : World} {R k n : Nat} {T : TypeId} {v : Value} {xs : List Value} (h : w.ownsRow R T k v n xs) : ∀ g, v.ownBlock = some g → R ≤ g := by
  intro g' e
  rcases h.2 with ⟨rfl, _⟩ | ⟨g, cap, cur, rfl, hb, hg, rest⟩
  · cases e
  · cases e; exact hb
theorem below_app' {w3 w4 : World} {M : Nat} {o : Obj} {r : Option Nat} (hM : M ≤ w3.heap.size) (hg : (w3.alloc o).grownBy w4 r) (hr : ∀ g, r = some g → M ≤ g) : Below M w3 w4 :=
  ⟨hg.os, hg.tape, hg.output, by have := hg.size; rw [World.size_alloc] at this; omega, fun k hk => by
    rw [hg.block k (by rw [World.size_alloc]; omega) (fun e => by have := hr k e.symm; omega), Below.heap_alloc _ _ _ (by omega)]⟩
set_option maxRecDepth 100000 in
set_option maxHeartbeats 4000000 in
theorem fmtEFG_10 (w : World) (R g blk : Nat) (hown : w.ownsRow R 5 1 (.slice (some ⟨g, 0, none⟩) 0 24) 0 []) (hc : w.cell? ⟨blk, 0, none⟩ = some (Value.int .u8 49)) (hR : R ≤ w.heap.size) :
    Calls Tryz.prog 251 #[.slice (some ⟨g, 0, none⟩) 0 24, .bool false, .slice (some ⟨blk, 0, none⟩) 32 32, .int .i64 1, .int .i64 1, .int .i64 0, .int .u8 102, .bool true] w fun e w' => ∃ v', e = .returned v' ∧ w'.ownsRow R 5 1 v' 1 [.int .u8 49] ∧ Below R w w' := by
  obtain ⟨i0, hi, hz0, hz1, hz2⟩ := info_parts info_u8'
  have HOWN := Lib.hid hown
  clear hown
  go_enter Tryz.func251, Tryz.ntmps251
  go_wp2_with (fail)
  refine wp_loop_rounds 3 ?_
  rw [rounds_succ]
  go_wp2_with (at_builtin; refine wpList_append_own_at _ rfl _ _ 31 rfl R 5 i0 (.int .u8 0) 1 1 Tryz.underlying31 hi hz0 hz1 hz2 rfl (by decide) _ _ _ rfl (ownsRow_alloc HOWN.out _) ⟨w.heap.size, 0, none⟩ 1 1 [.int .u8 49] rfl rfl (cell_one_new w (.int .u8 49) 5) (by simp [Value.oneCell']) (by unfold maxLen; omega) (by omega) (by rw [World.size_alloc]; omega) ?_)
  intro v' w2 hown' hgr hnil hat
  have hol := ownsRow_lt' HOWN.out
  have HB : Hid (Below R w w2) := below_app' hR hgr hol
  have HO2 := Lib.hid hown'
  obtain ⟨aa, cc, rfl, _⟩ := ownsRow.slice hown'
  clear hown' hgr hnil hat hol
  go_wp2_with (fail)
  rw [rounds_succ]
  go_wp2_with (fail)
  refine wp_loop_rounds 2 ?_
  rw [rounds_succ]
  go_wp2_with (fail)
  go_ret
  exact ⟨_, rfl, HO2.out, HB.out⟩
theorem len_10 (w : World) : Calls Tryz.prog 156 #[.int .u64 4503599627370496] w fun e w' => e = .returned (.int .i64 53) ∧ w' = w := by
  have h := Tryz.bits_Len64 4503599627370496 w (by decide) (by decide)
  have e : Lib.bitLen (4503599627370496 : Int).toNat = 53 := by kernel_rfl
  rw [e] at h
  exact h
theorem num_10 (w : World) (ht : Lib.TabIs Tryz.prog w "internal/strconv.uint64pow10" .u64 Lib.pow10Tab) : Calls Tryz.prog 159 #[.int .u64 1000000000000000] w fun e w' => e = .returned (.int .i64 16) ∧ w = w' := by
  have h := Tryz.internal_strconv_numDigits 1000000000000000 (by decide) (by decide) w ht
  have e : Lib.nDigits 1000000000000000 = 16 := by kernel_rfl
  rw [e] at h
  exact h.mono fun _ _ ⟨h1, h2⟩ => ⟨h1, h2.symm⟩
/-- The state of the formatting. -/
structure F10 (R g N : Nat) (w W : World) : Prop where
  own : W.ownsRow R 5 1 (.slice (some ⟨g, 0, none⟩) 0 24) 0 []
  zs : Zs W w.heap.size
  tl : TL N W
  bel : Below w.heap.size w W
  lt : w.heap.size < W.heap.size
  gl : g < w.heap.size
theorem ownsRow_old {w w' : World} {R k n : Nat} {T : TypeId} {v : Value} {xs : List Value} (h : w.ownsRow R T k v n xs) (hb : Below w.heap.size w w') : w'.ownsRow R T k v n xs := by
  refine ⟨h.1, ?_⟩
  rcases h.2 with hn | ⟨g, cap, cur, rfl, hb2, hg, rest⟩
  · exact .inl hn
  · refine .inr ⟨g, cap, cur, rfl, hb2, ?_, rest⟩
    rw [hb.block g ?_]; exact hg
    rcases Nat.lt_or_ge g w.heap.size with h1 | h1
    · exact h1
    · rw [Array.getElem?_eq_none h1] at hg; cases hg
theorem F10.start {R g N : Nat} {w : World} (hown : w.ownsRow R 5 1 (.slice (some ⟨g, 0, none⟩) 0 24) 0 []) (_hR : R ≤ w.heap.size) (hN : TL N w) (_hNR : N ≤ R) (q : Nat) : F10 R g N w ((w.drewN q).alloc (.cells (Array.replicate 32 (Value.int .u8 0)) 356)) := by
  have hb : Below w.heap.size w ((w.drewN q).alloc (.cells (Array.replicate 32 (Value.int .u8 0)) 356)) := (show Below w.heap.size w (w.drewN q) from ⟨rfl, rfl, rfl, Nat.le_refl _, fun _ _ => rfl⟩).alloc (Nat.le_refl _) _
  refine ⟨ownsRow_old hown hb, ⟨_, alloc_at (w.drewN q) _⟩, hN.below hb, hb, by rw [World.size_alloc]; exact Nat.lt_succ_self _, ?_⟩
  rcases hown.2 with ⟨e, _⟩ | ⟨g', cap, cur, e, _, hg, _⟩
  · cases e
  · cases e
    rcases Nat.lt_or_ge g w.heap.size with h1 | h1
    · exact h1
    · rw [Array.getElem?_eq_none h1] at hg; cases hg
theorem F10.below {R g N : Nat} {w W W' : World} (h : F10 R g N w W) (hb : Below W.heap.size W W') : F10 R g N w W' := by
  obtain ⟨T, hz⟩ := h.zs
  exact ⟨ownsRow_old h.own hb, ⟨T, by rw [hb.block _ h.lt]; exact hz⟩, h.tl.below hb, h.bel.trans (hb.mono (Nat.le_of_lt h.lt)), Nat.lt_of_lt_of_le h.lt hb.size, h.gl⟩
set_option maxRecDepth 100000 in
set_option maxHeartbeats 8000000 in
theorem ftoa64_10 (w : World) (R g N : Nat) (hown : w.ownsRow R 5 1 (.slice (some ⟨g, 0, none⟩) 0 24) 0 []) (hR : R ≤ w.heap.size) (hN : TL N w) (hNR : N ≤ R) :
    Calls Tryz.prog 233 #[.slice (some ⟨g, 0, none⟩) 0 24, .float .f64 4607182418800017408, .int .u8 102, .int .i64 (-1)] w fun e w' => ∃ v', e = .returned v' ∧ w'.ownsRow R 5 1 v' 1 [.int .u8 49] ∧ Below R w w' := by
  have hb := bits_10
  have HF : Hid (∀ q, F10 R g N w ((w.drewN q).alloc (.cells (Array.replicate 32 (Value.int .u8 0)) 356))) := fun q => F10.start hown hR hN hNR q
  have HOWN := Lib.hid hown
  have HN := Lib.hid hN
  clear hown hN
  go_enter Tryz.func233, Tryz.ntmps233
  have hx1 : bits BinOp.and IntKind.i64 1023 2047 = 1023 := by kernel_rfl
  have hx2 : bits BinOp.and IntKind.u64 4607182418800017408 4503599627370495 = 0 := by kernel_rfl
  have hx3 : bits BinOp.or IntKind.u64 0 4503599627370496 = 4503599627370496 := by kernel_rfl
  go_wp2_with (fail)
  go_quiet (fail)
  go_wp2_with (fail)
  refine (fun (k : ∀ W, F10 R g N w W → Calls _ _ _ W _) => k _ (HF.out _)) ?_
  intro W hF
  have HF2 := Lib.hid hF
  clear hF HF HOWN HN
  refine (len_10 W).mono ?_
  rintro e w' ⟨rfl, rfl⟩
  go_wp2_with (fail)
  refine (short_10 _ HF2.out.tl.t16).mono ?_
  rintro e w2 ⟨rfl, hb2⟩
  have HF3 := Lib.hid (HF2.out.below hb2)
  clear hb2 HF2
  go_wp2_with (fail)
  have HFQ : Hid (∀ q, F10 R g N w (w2.drewN q)) := fun q => ⟨HF3.out.own, HF3.out.zs, HF3.out.tl.drewN q, ⟨HF3.out.bel.os, HF3.out.bel.tape, HF3.out.bel.output, HF3.out.bel.size, HF3.out.bel.block⟩, HF3.out.lt, HF3.out.gl⟩
  go_region_held3 (fun w' => True) (trivial) (first | (go_at_call 159; refine (num_10 _ (HFQ.out _).tl.tab).mono ?_; rintro e w' ⟨rfl, rfl⟩) | (go_at_call 253; refine (setDigits_10 _ w.heap.size (HFQ.out _).zs).mono ?_; rintro e w3 ⟨rfl, hd⟩))
  have HO3 : Hid (w3.ownsRow R 5 1 (.slice (some ⟨g, 0, none⟩) 0 24) 0 []) := by
    have h := HF3.out.own
    refine ⟨h.1, ?_⟩
    rcases h.2 with hn | ⟨g', cap, cur, e, hb2, hg, rest⟩
    · exact .inl hn
    · refine .inr ⟨g', cap, cur, e, hb2, ?_, rest⟩
      have : g' = g := by cases e; rfl
      rw [hd.1.block g' (by have := HF3.out.gl; omega)]; exact hg
  have HC3 := Lib.hid hd.2.1
  have HB3 : Hid (Below R w w3) := (HF3.out.bel.mono hR).trans ((show Below R w2 (w2.drewN 1) from ⟨rfl, rfl, rfl, Nat.le_refl _, fun _ _ => rfl⟩).trans (hd.1.mono hR))
  have hR3 : R ≤ w3.heap.size := Nat.le_trans hR HB3.out.size
  clear hd HFQ HF3
  go_wp2_with (fail)
  refine (fmtEFG_10 w3 R g w.heap.size HO3.out HC3.out hR3).mono ?_
  rintro e w4 ⟨v', rfl, hown4, hb4⟩
  have HO4 := Lib.hid hown4
  have HB4 := Lib.hid (HB3.out.trans hb4)
  obtain ⟨aa, cc, rfl, _⟩ := ownsRow.slice hown4
  clear hown4 hb4
  go_wp2_with (fail)
  go_ret
  exact ⟨_, rfl, HO4.out, HB4.out⟩
set_option maxRecDepth 100000 in
set_option maxHeartbeats 4000000 in
theorem iFormat_10 (w : World) (N : Nat) (hN : TL N w) : Calls Tryz.prog 228 #[.float .f64 4607182418800017408, .int .u8 102, .int .i64 (-1), .int .i64 64] w fun e w' => e = .returned (.string ⟨#[49]⟩) ∧ Below w.heap.size w w' := by
  obtain ⟨i0, hi, hz0, hz1, hz2⟩ := info_parts info_u8'
  have HN := Lib.hid hN
  clear hN
  go_enter Tryz.func228, Tryz.ntmps228
  go_wp2_with (at_make; refine wpList_make_own _ rfl _ _ 31 rfl w.heap.size 5 i0 (.int .u8 0) 1 Tryz.underlying31 hi hz0 hz1 .i64 .i64 _ 24 rfl rfl rfl (by rw [hz2]; omega) (by unfold maxLen; omega) (Nat.le_refl _) ?_)
  intro w1 hown hgr
  have hB1 : Below w.heap.size w w1 := ⟨hgr.os, hgr.tape, hgr.output, hgr.size, fun k hk => hgr.block k hk (by simp)⟩
  have HB1 := Lib.hid hB1
  have HT1 := Lib.hid (HN.out.mono HN.out.le hB1)
  have HO1 := Lib.hid hown
  have hNle := HN.out.le
  clear hown hgr hB1
  go_wp2_with (fail)
  refine (ftoa64_10 w1 w.heap.size w.heap.size N HO1.out HB1.out.size HT1.out hNle).mono ?_
  rintro e w2 ⟨v', rfl, hown2, hb2⟩
  have HB2 := Lib.hid (HB1.out.trans hb2)
  obtain ⟨g2, cap2, rfl, hc⟩ : ∃ g2 cap2, v' = .slice (some ⟨g2, 0, none⟩) 1 cap2 ∧ w2.cell? ⟨g2, 0, none⟩ = some (.int .u8 49) := by
    rcases hown2.2 with ⟨_, h0⟩ | ⟨g2, cap2, cur, rfl, _⟩
    · cases h0
    · have := hown2.cells (g := g2) rfl 0 (.int .u8 49) rfl
      rw [addrAdd] at this
      exact ⟨g2, cap2, rfl, this⟩
  have hcv := run_convert_bytes_arg (P := Tryz.prog) w2 31 5 Tryz.underlying31 Tryz.underlying5 g2 0 1 cap2 [49] rfl (fun t ht => by
    obtain rfl : t = 0 := by omega
    exact hc) 9 Tryz.underlying9
  clear hown2 hb2 hc
  have hs : strOfNums [49] = ⟨#[49]⟩ := rfl
  rw [hs] at hcv
  clear hs
  go_wp2_with (fail)
  go_ret
  exact ⟨rfl, HB2.out⟩
set_option maxRecDepth 100000 in
set_option maxHeartbeats 4000000 in
theorem format_10 (w : World) (N : Nat) (hN : TL N w) : Calls Tryz.prog 222 #[.float .f64 4607182418800017408, .int .u8 102, .int .i64 (-1), .int .i64 64] w fun e w' => e = .returned (.string ⟨#[49]⟩) ∧ Below w.heap.size w w' := by
  have HN := Lib.hid hN
  clear hN
  go_enter Tryz.func222, Tryz.ntmps222
  go_wp2_with (fail)
  refine (iFormat_10 w N HN.out).mono ?_
  rintro e w2 ⟨rfl, hb⟩
  have HB := Lib.hid hb
  clear hb
  go_wp2_with (fail)
  go_ret
  exact ⟨rfl, HB.out⟩
set_option maxRecDepth 100000 in
set_option maxHeartbeats 4000000 in
theorem index_10 (s : ByteArray) (HS : Hid (s = ⟨#[49]⟩)) (w : World) : Calls Tryz.prog 223 #[.string s, .int .u8 101] w fun e w' => e = .returned (.int .i64 (-1)) ∧ w = w' := by
  have hz : Hid (s.size = 1) := by show _ = _; rw [HS.out]; rfl
  have z1 : 0 < s.size := by rw [hz.out]; decide
  have z2 : ¬ 1 < s.size := by rw [hz.out]; decide
  have b0 : ∀ h : 0 < s.size, ((s[0]'h).toNat : Int) = 49 := by rw [HS.out]; intro h; rfl
  go_enter Tryz.func223, Tryz.ntmps223
  go_wp2
  refine wp_loop_rounds 3 ?_
  rw [rounds_succ]
  go_wp2
  rw [rounds_succ]
  go_wp2
  go_ret
  exact ⟨rfl, rfl⟩
set_option maxRecDepth 100000 in
set_option maxHeartbeats 4000000 in
theorem numberToJSON_10 (w : World) (N : Nat) (hN : TL N w) : Calls Tryz.prog 205 #[.float .f64 4607182418800017408] w fun e w' => e = .returned (.tuple #[.string ⟨#[49]⟩, .nilIface]) ∧ Below w.heap.size w w' := by
  have HN := Lib.hid hN
  have hm := mbits_10
  have hx : bits BinOp.and IntKind.u64 4607182418800017408 9218868437227405312 = 4607182418800017408 := by kernel_rfl
  clear hN
  go_enter Tryz.func205, Tryz.ntmps205
  go_wp2_with (fail)
  refine (format_10 w N HN.out).mono ?_
  rintro e w2 ⟨rfl, hb⟩
  have HB := Lib.hid hb
  clear hb
  go_wp2_with (fail)
  refine (index_10 ⟨#[49]⟩ rfl _).mono ?_
  rintro e w' ⟨rfl, rfl⟩
  go_wp2_with (fail)
  go_ret2
  exact ⟨rfl, HB.out⟩
set_option maxRecDepth 100000 in
set_option maxHeartbeats 4000000 in
theorem pLit_10 (s : ByteArray) (HS : Hid (s = ⟨#[49, 46, 48]⟩)) (w : World) (N : Nat) (hN : TL N w) : Calls Tryz.prog 180 #[.string s] w fun e w' => e = .returned (.tuple #[.string ⟨#[49]⟩, .nilIface]) ∧ Below w.heap.size w w' := by
  have HN := Lib.hid hN
  have hs : s.toList = [49, 46, 48] := by rw [HS.out]; kernel_rfl
  have n1 : (([116, 114, 117, 101] : List UInt8) == s.toList) = false := by rw [hs]; kernel_rfl
  have n2 : (([102, 97, 108, 115, 101] : List UInt8) == s.toList) = false := by rw [hs]; kernel_rfl
  have n3 : (([110, 117, 108, 108] : List UInt8) == s.toList) = false := by rw [hs]; kernel_rfl
  clear hs
  clear hN
  go_enter Tryz.func180, Tryz.ntmps180
  go_wp2_with (go_at_call 202; refine (literals_any _).mono ?_; rintro e w' ⟨rfl, rfl⟩)
  have hb : Below w.heap.size w (w.alloc litRow) := (Below.refl _ _).alloc (Nat.le_refl _) _
  have c0 : (w.alloc litRow).cell? ⟨w.heap.size, 0, none⟩ = some (.string ⟨#[116, 114, 117, 101]⟩) := by
    simp only [World.cell?, alloc_at0, litRow]
    rfl
  have c1 : (w.alloc litRow).cell? ⟨w.heap.size, 1, none⟩ = some (.string ⟨#[102, 97, 108, 115, 101]⟩) := by
    simp only [World.cell?, alloc_at0, litRow]
    rfl
  have c2 : (w.alloc litRow).cell? ⟨w.heap.size, 2, none⟩ = some (.string ⟨#[110, 117, 108, 108]⟩) := by
    simp only [World.cell?, alloc_at0, litRow]
    rfl
  have hN2 := HN.out.below hb
  obtain ⟨W, hW⟩ : ∃ W, W = w.alloc litRow := ⟨_, rfl⟩
  rw [← hW] at c0 c1 c2 hb hN2 ⊢
  clear hW
  have HB := Lib.hid hb
  have HN2 := Lib.hid hN2
  have hN10 : N10 W := ⟨HN2.out.f64pow10, HN2.out.info.1, HN2.out.info.2⟩
  have H10 := Lib.hid hN10
  clear hb hN2 hN10
  go_wp2_with (fail)
  refine wp_loop_rounds 4 ?_
  rw [rounds_succ]
  go_wp2_with (fail)
  rw [rounds_succ]
  go_wp2_with (fail)
  rw [rounds_succ]
  go_wp2_with (fail)
  rw [rounds_succ]
  go_wp2_with (fail)
  refine (isNumber_10 s HS _).mono ?_
  rintro e w' ⟨rfl, rfl⟩
  go_wp2_with (fail)
  refine (parseFloat_10 s HS _ H10.out).mono ?_
  rintro e w' ⟨rfl, rfl⟩
  go_wp2_with (fail)
  refine (numberToJSON_10 _ N HN2.out).mono ?_
  rintro e w3 ⟨rfl, hb3⟩
  have HB3 := Lib.hid (HB.out.trans (hb3.mono HB.out.size))
  clear hb3
  go_wp2_with (fail)
  go_ret2
  exact ⟨rfl, HB3.out⟩
end Go.Proofs.YtjganhmbjffjfaaGreatDoor
