/- NumberToJSON and parseLiteral at 1.0. -/
import Derived.Test.YtngifhngangpeaaGreatDoorL6
import Derived.OwnWalk
import Derived.Laws.BytesArg
open Go Go.RowKit
namespace Go.Proofs.YtngifhngangpeaaGreatDoor
set_option maxRecDepth 100000 in
set_option maxHeartbeats 4000000 in
theorem iFormat_10 (w : World) (N : Nat) (hN : TL N w) : Calls Tryz.prog 188 #[.float .f64 4607182418800017408, .int .u8 102, .int .i64 (-1), .int .i64 64] w fun e w' => e = .returned (.string ⟨#[49]⟩) ∧ Below w.heap.size w w' := by
  obtain ⟨i0, hi, hz0, hz1, hz2⟩ := info_parts info_u8'
  have HN := Lib.hid hN
  clear hN
  go_enter Tryz.func188, Tryz.ntmps188
  go_wp2_with (at_make; refine wpList_make_own _ rfl _ _ 22 rfl w.heap.size 5 i0 (.int .u8 0) 1 Tryz.underlying22 hi hz0 hz1 .i64 .i64 _ 24 rfl rfl rfl (by rw [hz2]; omega) (by unfold maxLen; omega) (Nat.le_refl _) ?_)
  intro w1 hown hgr
  have hB1 : Below w.heap.size w w1 := ⟨hgr.os, hgr.tape, hgr.output, hgr.size, fun k hk => hgr.block k hk (by simp)⟩
  have HB1 := Lib.hid hB1
  have HT1 := Lib.hid (HN.out.mono HN.out.le hB1)
  have HO1 := Lib.hid hown
  have hNle := HN.out.le
  clear hown hgr hB1
  go_wp2_with (fail)
  refine (ftoa64_10 w1 w.heap.size w.heap.size N HO1.out HB1.out.size HT1.out hNle).mono ?_
  rintro e w2 ⟨v', rfl, hown2, hb2⟩
  have HB2 := Lib.hid (HB1.out.trans hb2)
  obtain ⟨g2, cap2, rfl, hc⟩ : ∃ g2 cap2, v' = .slice (some ⟨g2, 0, none⟩) 1 cap2 ∧ w2.cell? ⟨g2, 0, none⟩ = some (.int .u8 49) := by
    rcases hown2.2 with ⟨_, h0⟩ | ⟨g2, cap2, cur, rfl, _⟩
    · cases h0
    · have := hown2.cells (g := g2) rfl 0 (.int .u8 49) rfl
      rw [addrAdd] at this
      exact ⟨g2, cap2, rfl, this⟩
  have hcv := run_convert_bytes_arg (P := Tryz.prog) w2 22 5 Tryz.underlying22 Tryz.underlying5 g2 0 1 cap2 [49] rfl (fun t ht => by
    obtain rfl : t = 0 := by omega
    exact hc) 9 Tryz.underlying9
  clear hown2 hb2 hc
  have hs : strOfNums [49] = ⟨#[49]⟩ := rfl
  rw [hs] at hcv
  clear hs
  go_wp2_with (fail)
  go_ret
  exact ⟨rfl, HB2.out⟩
set_option maxRecDepth 100000 in
set_option maxHeartbeats 4000000 in
theorem format_10 (w : World) (N : Nat) (hN : TL N w) : Calls Tryz.prog 182 #[.float .f64 4607182418800017408, .int .u8 102, .int .i64 (-1), .int .i64 64] w fun e w' => e = .returned (.string ⟨#[49]⟩) ∧ Below w.heap.size w w' := by
  have HN := Lib.hid hN
  clear hN
  go_enter Tryz.func182, Tryz.ntmps182
  go_wp2_with (fail)
  refine (iFormat_10 w N HN.out).mono ?_
  rintro e w2 ⟨rfl, hb⟩
  have HB := Lib.hid hb
  clear hb
  go_wp2_with (fail)
  go_ret
  exact ⟨rfl, HB.out⟩
set_option maxRecDepth 100000 in
set_option maxHeartbeats 4000000 in
theorem index_10 (s : ByteArray) (HS : Hid (s = ⟨#[49]⟩)) (w : World) : Calls Tryz.prog 183 #[.string s, .int .u8 101] w fun e w' => e = .returned (.int .i64 (-1)) ∧ w = w' := by
  have hz : Hid (s.size = 1) := by show _ = _; rw [HS.out]; rfl
  have z1 : 0 < s.size := by rw [hz.out]; decide
  have z2 : ¬ 1 < s.size := by rw [hz.out]; decide
  have b0 : ∀ h : 0 < s.size, ((s[0]'h).toNat : Int) = 49 := by rw [HS.out]; intro h; rfl
  go_enter Tryz.func183, Tryz.ntmps183
  go_wp2
  refine wp_loop_rounds 3 ?_
  rw [rounds_succ]
  go_wp2
  rw [rounds_succ]
  go_wp2
  go_ret
  exact ⟨rfl, rfl⟩
set_option maxRecDepth 100000 in
set_option maxHeartbeats 4000000 in
theorem numberToJSON_10 (w : World) (N : Nat) (hN : TL N w) : Calls Tryz.prog 165 #[.float .f64 4607182418800017408] w fun e w' => e = .returned (.tuple #[.string ⟨#[49]⟩, .nilIface]) ∧ Below w.heap.size w w' := by
  have HN := Lib.hid hN
  have hm := mbits_10
  have hx : bits BinOp.and IntKind.u64 4607182418800017408 9218868437227405312 = 4607182418800017408 := by kernel_rfl
  clear hN
  go_enter Tryz.func165, Tryz.ntmps165
  go_wp2_with (fail)
  refine (format_10 w N HN.out).mono ?_
  rintro e w2 ⟨rfl, hb⟩
  have HB := Lib.hid hb
  clear hb
  go_wp2_with (fail)
  refine (index_10 ⟨#[49]⟩ rfl _).mono ?_
  rintro e w' ⟨rfl, rfl⟩
  go_wp2_with (fail)
  go_ret2
  exact ⟨rfl, HB.out⟩
set_option maxRecDepth 100000 in
set_option maxHeartbeats 4000000 in
theorem pLit_10 (s : ByteArray) (HS : Hid (s = ⟨#[49, 46, 48]⟩)) (w : World) (N : Nat) (hN : TL N w) : Calls Tryz.prog 141 #[.string s] w fun e w' => e = .returned (.tuple #[.string ⟨#[49]⟩, .nilIface]) ∧ Below w.heap.size w w' := by
  have HN := Lib.hid hN
  have hs : s.toList = [49, 46, 48] := by rw [HS.out]; kernel_rfl
  have n1 : (([116, 114, 117, 101] : List UInt8) == s.toList) = false := by rw [hs]; kernel_rfl
  have n2 : (([102, 97, 108, 115, 101] : List UInt8) == s.toList) = false := by rw [hs]; kernel_rfl
  have n3 : (([110, 117, 108, 108] : List UInt8) == s.toList) = false := by rw [hs]; kernel_rfl
  clear hs
  clear hN
  go_enter Tryz.func141, Tryz.ntmps141
  go_wp2_with (go_at_call 162; refine (literals_any _).mono ?_; rintro e w' ⟨rfl, rfl⟩)
  have hb : Below w.heap.size w (w.alloc litRow) := (Below.refl _ _).alloc (Nat.le_refl _) _
  have c0 : (w.alloc litRow).cell? ⟨w.heap.size, 0, none⟩ = some (.string ⟨#[116, 114, 117, 101]⟩) := by
    simp only [World.cell?, alloc_at0, litRow]
    rfl
  have c1 : (w.alloc litRow).cell? ⟨w.heap.size, 1, none⟩ = some (.string ⟨#[102, 97, 108, 115, 101]⟩) := by
    simp only [World.cell?, alloc_at0, litRow]
    rfl
  have c2 : (w.alloc litRow).cell? ⟨w.heap.size, 2, none⟩ = some (.string ⟨#[110, 117, 108, 108]⟩) := by
    simp only [World.cell?, alloc_at0, litRow]
    rfl
  have hN2 := HN.out.below hb
  obtain ⟨W, hW⟩ : ∃ W, W = w.alloc litRow := ⟨_, rfl⟩
  rw [← hW] at c0 c1 c2 hb hN2 ⊢
  clear hW
  have HB := Lib.hid hb
  have HN2 := Lib.hid hN2
  have hN10 : N10 W := ⟨HN2.out.f64pow10, HN2.out.info.1, HN2.out.info.2⟩
  have H10 := Lib.hid hN10
  clear hb hN2 hN10
  go_wp2_with (fail)
  refine wp_loop_rounds 4 ?_
  rw [rounds_succ]
  go_wp2_with (fail)
  rw [rounds_succ]
  go_wp2_with (fail)
  rw [rounds_succ]
  go_wp2_with (fail)
  rw [rounds_succ]
  go_wp2_with (fail)
  refine (isNumber_10 s HS _).mono ?_
  rintro e w' ⟨rfl, rfl⟩
  go_wp2_with (fail)
  refine (parseFloat_10 s HS _ H10.out).mono ?_
  rintro e w' ⟨rfl, rfl⟩
  go_wp2_with (fail)
  refine (numberToJSON_10 _ N HN2.out).mono ?_
  rintro e w3 ⟨rfl, hb3⟩
  have HB3 := Lib.hid (HB.out.trans (hb3.mono HB.out.size))
  clear hb3
  go_wp2_with (fail)
  go_ret2
  exact ⟨rfl, HB3.out⟩
end Go.Proofs.YtngifhngangpeaaGreatDoor
