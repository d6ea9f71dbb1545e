/- FormatFloat at 1.0. -/
import Derived.Test.YtngifhngangpeaaGreatDoorL5
import Derived.Test.YtngifhngangpeaaGreatDoorN3
import Derived.Deep.RegionHeld3
open Go Go.RowKit
namespace Go.Proofs.YtngifhngangpeaaGreatDoor
theorem bits_10 (w : World) : (callFunc 208 #[.float .f64 4607182418800017408]).run Tryz.prog w = .ok (.value (.int .u64 4607182418800017408)) w := by kernel_rfl
theorem mbits_10 (w : World) : (callFunc 181 #[.float .f64 4607182418800017408]).run Tryz.prog w = .ok (.value (.int .u64 4607182418800017408)) w := by kernel_rfl
theorem info_u8' : (Tryz.prog.info? 5).map (fun i => (i.zero, i.size, i.bytes)) = some (some (.int .u8 0), 1, 1) := by kernel_rfl
theorem ownsRow_lt' {w : World} {R k n : Nat} {T : TypeId} {v : Value} {xs : List Value} (h : w.ownsRow R T k v n xs) : ∀ g, v.ownBlock = some g → R ≤ g := by
  intro g' e
  rcases h.2 with ⟨rfl, _⟩ | ⟨g, cap, cur, rfl, hb, hg, rest⟩
  · cases e
  · cases e; exact hb
theorem below_app' {w3 w4 : World} {M : Nat} {o : Obj} {r : Option Nat} (hM : M ≤ w3.heap.size) (hg : (w3.alloc o).grownBy w4 r) (hr : ∀ g, r = some g → M ≤ g) : Below M w3 w4 :=
  ⟨hg.os, hg.tape, hg.output, by have := hg.size; rw [World.size_alloc] at this; omega, fun k hk => by
    rw [hg.block k (by rw [World.size_alloc]; omega) (fun e => by have := hr k e.symm; omega), Below.heap_alloc _ _ _ (by omega)]⟩
set_option maxRecDepth 100000 in
set_option maxHeartbeats 4000000 in
theorem fmtEFG_10 (w : World) (R g blk : Nat) (hown : w.ownsRow R 5 1 (.slice (some ⟨g, 0, none⟩) 0 24) 0 []) (hc : w.cell? ⟨blk, 0, none⟩ = some (Value.int .u8 49)) (hR : R ≤ w.heap.size) :
    Calls Tryz.prog 211 #[.slice (some ⟨g, 0, none⟩) 0 24, .bool false, .slice (some ⟨blk, 0, none⟩) 32 32, .int .i64 1, .int .i64 1, .int .i64 0, .int .u8 102, .bool true] w fun e w' => ∃ v', e = .returned v' ∧ w'.ownsRow R 5 1 v' 1 [.int .u8 49] ∧ Below R w w' := by
  obtain ⟨i0, hi, hz0, hz1, hz2⟩ := info_parts info_u8'
  have HOWN := Lib.hid hown
  clear hown
  go_enter Tryz.func211, Tryz.ntmps211
  go_wp2_with (fail)
  refine wp_loop_rounds 3 ?_
  rw [rounds_succ]
  go_wp2_with (at_builtin; refine wpList_append_own_at _ rfl _ _ 22 rfl R 5 i0 (.int .u8 0) 1 1 Tryz.underlying22 hi hz0 hz1 hz2 rfl (by decide) _ _ _ rfl (ownsRow_alloc HOWN.out _) ⟨w.heap.size, 0, none⟩ 1 1 [.int .u8 49] rfl rfl (cell_one_new w (.int .u8 49) 5) (by simp [Value.oneCell']) (by unfold maxLen; omega) (by omega) (by rw [World.size_alloc]; omega) ?_)
  intro v' w2 hown' hgr hnil hat
  have hol := ownsRow_lt' HOWN.out
  have HB : Hid (Below R w w2) := below_app' hR hgr hol
  have HO2 := Lib.hid hown'
  obtain ⟨aa, cc, rfl, _⟩ := ownsRow.slice hown'
  clear hown' hgr hnil hat hol
  go_wp2_with (fail)
  rw [rounds_succ]
  go_wp2_with (fail)
  refine wp_loop_rounds 2 ?_
  rw [rounds_succ]
  go_wp2_with (fail)
  go_ret
  exact ⟨_, rfl, HO2.out, HB.out⟩
theorem len_10 (w : World) : Calls Tryz.prog 122 #[.int .u64 4503599627370496] w fun e w' => e = .returned (.int .i64 53) ∧ w' = w := by
  have h := Tryz.bits_Len64 4503599627370496 w (by decide) (by decide)
  have e : Lib.bitLen (4503599627370496 : Int).toNat = 53 := by kernel_rfl
  rw [e] at h
  exact h
theorem num_10 (w : World) (ht : Lib.TabIs Tryz.prog w "internal/strconv.uint64pow10" .u64 Lib.pow10Tab) : Calls Tryz.prog 101 #[.int .u64 1000000000000000] w fun e w' => e = .returned (.int .i64 16) ∧ w = w' := by
  have h := Tryz.internal_strconv_numDigits 1000000000000000 (by decide) (by decide) w ht
  have e : Lib.nDigits 1000000000000000 = 16 := by kernel_rfl
  rw [e] at h
  exact h.mono fun _ _ ⟨h1, h2⟩ => ⟨h1, h2.symm⟩
/-- The state of the formatting. -/
structure F10 (R g N : Nat) (w W : World) : Prop where
  own : W.ownsRow R 5 1 (.slice (some ⟨g, 0, none⟩) 0 24) 0 []
  zs : Zs W w.heap.size
  tl : TL N W
  bel : Below w.heap.size w W
  lt : w.heap.size < W.heap.size
  gl : g < w.heap.size
theorem ownsRow_old {w w' : World} {R k n : Nat} {T : TypeId} {v : Value} {xs : List Value} (h : w.ownsRow R T k v n xs) (hb : Below w.heap.size w w') : w'.ownsRow R T k v n xs := by
  refine ⟨h.1, ?_⟩
  rcases h.2 with hn | ⟨g, cap, cur, rfl, hb2, hg, rest⟩
  · exact .inl hn
  · refine .inr ⟨g, cap, cur, rfl, hb2, ?_, rest⟩
    rw [hb.block g ?_]; exact hg
    rcases Nat.lt_or_ge g w.heap.size with h1 | h1
    · exact h1
    · rw [Array.getElem?_eq_none h1] at hg; cases hg
theorem F10.start {R g N : Nat} {w : World} (hown : w.ownsRow R 5 1 (.slice (some ⟨g, 0, none⟩) 0 24) 0 []) (_hR : R ≤ w.heap.size) (hN : TL N w) (_hNR : N ≤ R) (q : Nat) : F10 R g N w ((w.drewN q).alloc (.cells (Array.replicate 32 (Value.int .u8 0)) 247)) := by
  have hb : Below w.heap.size w ((w.drewN q).alloc (.cells (Array.replicate 32 (Value.int .u8 0)) 247)) := (show Below w.heap.size w (w.drewN q) from ⟨rfl, rfl, rfl, Nat.le_refl _, fun _ _ => rfl⟩).alloc (Nat.le_refl _) _
  refine ⟨ownsRow_old hown hb, ⟨_, alloc_at (w.drewN q) _⟩, hN.below hb, hb, by rw [World.size_alloc]; exact Nat.lt_succ_self _, ?_⟩
  rcases hown.2 with ⟨e, _⟩ | ⟨g', cap, cur, e, _, hg, _⟩
  · cases e
  · cases e
    rcases Nat.lt_or_ge g w.heap.size with h1 | h1
    · exact h1
    · rw [Array.getElem?_eq_none h1] at hg; cases hg
theorem F10.below {R g N : Nat} {w W W' : World} (h : F10 R g N w W) (hb : Below W.heap.size W W') : F10 R g N w W' := by
  obtain ⟨T, hz⟩ := h.zs
  exact ⟨ownsRow_old h.own hb, ⟨T, by rw [hb.block _ h.lt]; exact hz⟩, h.tl.below hb, h.bel.trans (hb.mono (Nat.le_of_lt h.lt)), Nat.lt_of_lt_of_le h.lt hb.size, h.gl⟩
set_option maxRecDepth 100000 in
set_option maxHeartbeats 8000000 in
theorem ftoa64_10 (w : World) (R g N : Nat) (hown : w.ownsRow R 5 1 (.slice (some ⟨g, 0, none⟩) 0 24) 0 []) (hR : R ≤ w.heap.size) (hN : TL N w) (hNR : N ≤ R) :
    Calls Tryz.prog 193 #[.slice (some ⟨g, 0, none⟩) 0 24, .float .f64 4607182418800017408, .int .u8 102, .int .i64 (-1)] w fun e w' => ∃ v', e = .returned v' ∧ w'.ownsRow R 5 1 v' 1 [.int .u8 49] ∧ Below R w w' := by
  have hb := bits_10
  have HF : Hid (∀ q, F10 R g N w ((w.drewN q).alloc (.cells (Array.replicate 32 (Value.int .u8 0)) 247))) := fun q => F10.start hown hR hN hNR q
  have HOWN := Lib.hid hown
  have HN := Lib.hid hN
  clear hown hN
  go_enter Tryz.func193, Tryz.ntmps193
  have hx1 : bits BinOp.and IntKind.i64 1023 2047 = 1023 := by kernel_rfl
  have hx2 : bits BinOp.and IntKind.u64 4607182418800017408 4503599627370495 = 0 := by kernel_rfl
  have hx3 : bits BinOp.or IntKind.u64 0 4503599627370496 = 4503599627370496 := by kernel_rfl
  go_wp2_with (fail)
  go_quiet (fail)
  go_wp2_with (fail)
  refine (fun (k : ∀ W, F10 R g N w W → Calls _ _ _ W _) => k _ (HF.out _)) ?_
  intro W hF
  have HF2 := Lib.hid hF
  clear hF HF HOWN HN
  refine (len_10 W).mono ?_
  rintro e w' ⟨rfl, rfl⟩
  go_wp2_with (fail)
  refine (short_10 _ HF2.out.tl.t16).mono ?_
  rintro e w2 ⟨rfl, hb2⟩
  have HF3 := Lib.hid (HF2.out.below hb2)
  clear hb2 HF2
  go_wp2_with (fail)
  have HFQ : Hid (∀ q, F10 R g N w (w2.drewN q)) := fun q => ⟨HF3.out.own, HF3.out.zs, HF3.out.tl.drewN q, ⟨HF3.out.bel.os, HF3.out.bel.tape, HF3.out.bel.output, HF3.out.bel.size, HF3.out.bel.block⟩, HF3.out.lt, HF3.out.gl⟩
  go_region_held3 (fun w' => True) (trivial) (first | (go_at_call 101; refine (num_10 _ (HFQ.out _).tl.tab).mono ?_; rintro e w' ⟨rfl, rfl⟩) | (go_at_call 213; refine (setDigits_10 _ w.heap.size (HFQ.out _).zs).mono ?_; rintro e w3 ⟨rfl, hd⟩))
  have HO3 : Hid (w3.ownsRow R 5 1 (.slice (some ⟨g, 0, none⟩) 0 24) 0 []) := by
    have h := HF3.out.own
    refine ⟨h.1, ?_⟩
    rcases h.2 with hn | ⟨g', cap, cur, e, hb2, hg, rest⟩
    · exact .inl hn
    · refine .inr ⟨g', cap, cur, e, hb2, ?_, rest⟩
      have : g' = g := by cases e; rfl
      rw [hd.1.block g' (by have := HF3.out.gl; omega)]; exact hg
  have HC3 := Lib.hid hd.2.1
  have HB3 : Hid (Below R w w3) := (HF3.out.bel.mono hR).trans ((show Below R w2 (w2.drewN 1) from ⟨rfl, rfl, rfl, Nat.le_refl _, fun _ _ => rfl⟩).trans (hd.1.mono hR))
  have hR3 : R ≤ w3.heap.size := Nat.le_trans hR HB3.out.size
  clear hd HFQ HF3
  go_wp2_with (fail)
  refine (fmtEFG_10 w3 R g w.heap.size HO3.out HC3.out hR3).mono ?_
  rintro e w4 ⟨v', rfl, hown4, hb4⟩
  have HO4 := Lib.hid hown4
  have HB4 := Lib.hid (HB3.out.trans hb4)
  obtain ⟨aa, cc, rfl, _⟩ := ownsRow.slice hown4
  clear hown4 hb4
  go_wp2_with (fail)
  go_ret
  exact ⟨_, rfl, HO4.out, HB4.out⟩
end Go.Proofs.YtngifhngangpeaaGreatDoor
