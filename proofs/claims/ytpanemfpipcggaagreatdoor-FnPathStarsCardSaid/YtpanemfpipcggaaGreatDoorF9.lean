/- laws.matches. -/
import Derived.Test.YtpanemfpipcggaaGreatDoorF2
import Derived.Test.YtpanemfpipcggaaGreatDoorF3
import Derived.Laws.OwnMore
import Derived.Test.YtpanemfpipcggaaGreatDoorV0
open Go Go.RowKit
namespace Go.Proofs.YtpanemfpipcggaaGreatDoor
/-- A row of n bools of the call's own. -/
def RowB (w : World) (B g n : Nat) (f : Nat → Bool) : Prop := w.ownsRow B 4 1 (.slice (some ⟨g, 0, none⟩) n n) n ((List.range n).map fun j => .bool (f j))
theorem RowB.cell {w : World} {B g n : Nat} {f : Nat → Bool} (h : RowB w B g n f) {j : Nat} (hj : j < n) : w.cell? ⟨g, j, none⟩ = some (.bool (f j)) := by
  rw [World.ownsRow.cellAt h j (by omega), List.getElem?_map, List.getElem?_range hj]; rfl
theorem RowB.open' {w : World} {B g n : Nat} {f : Nat → Bool} (h : RowB w B g n f) (j : Nat) : w.frozen? ⟨g, j, none⟩ = false := World.ownsRow.frozenAt h j
theorem RowB.store {w : World} {B g n : Nat} {f f' : Nat → Bool} (h : RowB w B g n f) {j : Nat} {b : Bool} (hf : ∀ i, i < n → f' i = if i = j then b else f i) : RowB (w.setCell ⟨g, j, none⟩ (.bool b)) B g n f' := by
  have h2 := (World.ownsRow.stored h j (.bool b)).1
  unfold RowB
  have e : ((List.range n).map fun j => Value.bool (f' j)) = ((List.range n).map fun j => Value.bool (f j)).set j (.bool b) := by
    apply List.ext_getElem?
    intro i
    rw [List.getElem?_map, List.getElem?_set, List.getElem?_map, List.length_map, List.length_range]
    rcases Nat.lt_or_ge i n with hi | hi
    · rw [List.getElem?_range hi]
      simp only [Option.map_some]
      rw [hf i hi]
      by_cases hij : i = j
      · subst hij; simp [hi]
      · rw [if_neg hij, if_neg (fun h => hij h.symm)]
    · rw [List.getElem?_eq_none (by simp; exact hi)]
      by_cases hij : j = i
      · subst hij; simp [show ¬ j < n by omega]
      · simp [hij]
  rw [e]; exact h2
theorem RowB.other {w : World} {B g n : Nat} {f : Nat → Bool} (h : RowB w B g n f) {g2 : Nat} (hg : g2 ≠ g) (j : Nat) (u : Value) : RowB (w.setCell ⟨g2, j, none⟩ u) B g n f :=
  ownsRow_setCell_other h (by simp [Value.ownBlock]; exact fun h => hg h.symm) u
theorem RowB.same {w : World} {B g n : Nat} {f f' : Nat → Bool} (h : RowB w B g n f) (hf : ∀ i, i < n → f' i = f i) : RowB w B g n f' := by
  have e : ((List.range n).map fun j => Value.bool (f' j)) = (List.range n).map fun j => Value.bool (f j) := by
    apply List.map_congr_left
    intro i hi
    rw [hf i (List.mem_range.1 hi)]
  unfold RowB
  rw [e]; exact h
theorem RowB.lt {w : World} {B g n : Nat} {f : Nat → Bool} (h : RowB w B g n f) : B ≤ g ∧ g < w.heap.size := World.ownsRow.lt h g rfl
theorem RowB.grown {w w' : World} {B g n : Nat} {f : Nat → Bool} (h : RowB w B g n f) (hg : w.grownBy w' none) : RowB w' B g n f := World.ownsRow.kept h hg (.inr (by simp [Value.ownBlock]))
theorem info_bool : (Tryz.prog.info? 4).map (fun i => (i.zero, i.size, i.bytes)) = some (some (.bool false), 1, 1) := by kernel_rfl
theorem nx_star_hit {c : UInt8} {s : List UInt8} {R : Nat → Bool} {j : Nat} (hc : c = 42) (h : rowP 42 s R j = true) (i : Nat) : nxtP c s R (j + 1) i = if i = j then true else nxtP c s R j i := by
  subst hc; rw [nxt_star, h]
theorem nx_star_miss {c : UInt8} {s : List UInt8} {R : Nat → Bool} {j : Nat} (hc : c = 42) (h : rowP 42 s R j = false) (i : Nat) : nxtP c s R (j + 1) i = nxtP c s R j i := by
  subst hc
  rw [nxt_star, h]
  by_cases hi : i = j
  · subst hi; rw [if_pos rfl, nxtP, if_pos rfl, if_neg (Nat.lt_irrefl _)]
  · rw [if_neg hi]
theorem nx_one_hit {c : UInt8} {s : List UInt8} {R : Nat → Bool} {j : Nat} (hc : c ≠ 42) (h : (R j && okPat c s j) = true) (i : Nat) : nxtP c s R (j + 1) i = if i = j + 1 then true else nxtP c s R j i := by
  rw [nxt_one hc, h]
theorem nx_one_miss {c : UInt8} {s : List UInt8} {R : Nat → Bool} {j : Nat} (hc : c ≠ 42) (h : (R j && okPat c s j) = false) (i : Nat) : nxtP c s R (j + 1) i = nxtP c s R j i := by
  rw [nxt_one hc, h]
  by_cases hi : i = j + 1
  · subst hi; rw [if_pos rfl, nxtP, if_neg hc, if_neg (by omega)]
  · rw [if_neg hi]
/-- make([]bool, n). -/
theorem make_row (w : World) (B n : Nat) (hB : B ≤ w.heap.size) (hn : n ≤ 2147483649) : ∃ w', (Instr.makeSlice 91 (.int .i64 (n : Int)) (.int .i64 (n : Int))).run Tryz.prog w = .ok (.slice (some ⟨w.heap.size, 0, none⟩) n n) w' ∧ RowB w' B w.heap.size n (fun _ => false) ∧ w.grownBy w' none := by
  obtain ⟨i0, hi, hz0, hz1, hz2⟩ := info_parts info_bool
  obtain ⟨w', h1, h2, h3⟩ := run_make_full w B 91 4 i0 (.bool false) 1 Tryz.underlying91 hi hz0 hz1 .i64 .i64 n (by rw [hz2]; omega) (by unfold maxLen; omega) hB
  refine ⟨w', h1, ?_, h3⟩
  unfold RowB
  rw [Nat.mul_one, show (Value.bool false).cells = #[.bool false] from rfl, toList_madeCells_one] at h2
  rw [show ((List.range n).map fun _ => Value.bool false) = List.replicate n (.bool false) by rw [List.map_const', List.length_range]]
  exact h2
theorem below_grown {B : Nat} {w wr w' : World} (h : Below B w wr) (hg : wr.grownBy w' none) (hB : B ≤ wr.heap.size) : Below B w w' := h.grown hg hB (fun k hk => by cases hk)
set_option maxRecDepth 100000 in
set_option maxHeartbeats 16000000 in
theorem matches_any {p s : ByteArray} (hs : s.size ≤ 2147483648) (hp : p.size ≤ 2147483648) (w : World) :
    Calls Tryz.prog 24 #[.string p, .string s] w fun e w' => e = .returned (.bool (matB p.data.toList s.data.toList)) ∧ Below w.heap.size w w' := by
  obtain ⟨w1, hmk, hr0, hg0⟩ := make_row w w.heap.size (s.size + 1) (Nat.le_refl _) (by omega)
  rw [show ((s.size + 1 : Nat) : Int) = (s.size : Int) + 1 by omega] at hmk
  have c0 := hr0.cell (j := 0) (by omega)
  have z0 := hr0.open' 0
  have h01 : 0 < s.size + 1 := by omega
  have HR0 : Hid (RowB (w1.setCell ⟨w.heap.size, 0, none⟩ (.bool true)) w.heap.size w.heap.size (s.size + 1) (headP [] s.data.toList)) := Lib.hid (hr0.store (b := true) (fun i hi => by
    rw [head_nil _ (by rw [bs_size_eq]; omega)]
    by_cases h : i = 0
    · rw [if_pos h, decide_eq_true h]
    · rw [if_neg h, decide_eq_false h]))
  have HB0 : Hid (Below w.heap.size w (w1.setCell ⟨w.heap.size, 0, none⟩ (.bool true))) := Lib.hid ((below_grown (Below.refl _ _) hg0 (Nat.le_refl _)).setCell (Nat.le_refl _) _)
  clear hr0 hg0
  go_enter Tryz.func24, Tryz.ntmps24
  go_wp2_with (fail)
  clear hmk c0 z0
  go_loopg [5, 6] p.size (fun g v5 v6 wr => ∃ (k gb : Nat), k + g = p.size ∧ v5 = .slice (some ⟨gb, 0, none⟩) (s.size + 1) (s.size + 1) ∧ v6 = .int .i64 k ∧ Hid (RowB wr w.heap.size gb (s.size + 1) (headP (p.data.toList.take k) s.data.toList)) ∧ Hid (Below w.heap.size w wr))
  case atStart => exact ⟨0, _, by omega, rfl, rfl, by rw [List.take_zero]; exact HR0, HB0⟩
  case round =>
    obtain ⟨k, gb, hk, rfl, rfl, HR, HB⟩ := hrel
    cases gk with
    | zero =>
      have hkn : ¬ (k : Int) < (p.size : Int) := by omega
      have c1 := HR.out.cell (j := s.size) (by omega)
      have hse : s.size < s.size + 1 := by omega
      have HE : Hid (headP (p.data.toList.take k) s.data.toList s.size = matB p.data.toList s.data.toList) := Lib.hid (by
        unfold headP
        rw [List.take_of_length_le (by rw [bs_size_eq]; omega), List.take_of_length_le (by rw [bs_size_eq]; exact Nat.le_refl _)])
      rw [HE.out] at c1
      clear hk
      go_wp2_with (fail)
      go_ret
      exact ⟨rfl, HB.out⟩
    | succ g =>
      have hlt : k < p.size := by omega
      have hk1 : k + 1 + g = p.size := by omega
      have HK1 := Lib.hid hk1
      clear hk hk1
      have hwr := HB.out.size
      obtain ⟨w2, hmk, hr2, hg2⟩ := make_row wr w.heap.size (s.size + 1) hwr (by omega)
      rw [show ((s.size + 1 : Nat) : Int) = (s.size : Int) + 1 by omega] at hmk
      obtain ⟨R, hR⟩ : ∃ R, R = headP (p.data.toList.take k) s.data.toList := ⟨_, rfl⟩
      have HRE := Lib.hid hR
      rw [← hR] at HR
      obtain ⟨gn, hgn⟩ : ∃ gn, gn = wr.heap.size := ⟨_, rfl⟩
      have HNE : Hid (gn ≠ gb) := Lib.hid (by have := HR.out.lt.2; omega)
      have HGN : Hid (w.heap.size ≤ gn) := Lib.hid (by omega)
      have HRN : Hid (RowB w2 w.heap.size gn (s.size + 1) (nxtP p[k] s.data.toList R 0)) := Lib.hid (by rw [hgn]; exact hr2.same fun i _ => nxt_zero _ _ _ _)
      have HRB : Hid (RowB w2 w.heap.size gb (s.size + 1) R) := Lib.hid (HR.out.grown hg2)
      have HB2 : Hid (Below w.heap.size w w2) := Lib.hid (below_grown HB.out hg2 hwr)
      rw [← hgn] at hmk
      clear hR hgn hr2 hg2
      go_wp2_with (fail)
      clear hmk
      go_loopg [27] (s.size + 1) (fun g2 v27 wy => ∃ j : Nat, j + g2 = s.size + 1 ∧ v27 = .int .i64 j ∧ Hid (RowB wy w.heap.size gn (s.size + 1) (nxtP p[k] s.data.toList R j)) ∧ Hid (RowB wy w.heap.size gb (s.size + 1) R) ∧ Hid (Below w.heap.size w wy))
      case atStart => exact ⟨0, by omega, rfl, HRN, HRB, HB2⟩
      case round =>
        obtain ⟨j, hj, rfl, HNX, HRX, HBX⟩ := hrel
        cases gk with
        | zero =>
          have hjn : ¬ (j : Int) < (s.size : Int) + 1 := by omega
          have hjn2 : ¬ j < s.size + 1 := by omega
          have HNEW : Hid (RowB wr w.heap.size gn (s.size + 1) (headP (p.data.toList.take (k + 1)) s.data.toList)) := Lib.hid (by
            have e : j = s.size + 1 := by omega
            have h1 := HNX.out
            rw [e] at h1
            refine h1.same fun i hi => ?_
            rw [nxt_end (by omega), List.take_add_one, bs_get p k hlt, HRE.out]
            exact head_step _ _ _ (by rw [bs_size_eq]; omega))
          clear hj
          go_wp2_with (fail)
          go_roundg g
          case measure => omega
          case rel => exact ⟨k + 1, gn, HK1.out, rfl, by first | rfl | go_num, HNEW, HBX⟩
        | succ g2 =>
          have hjl : j < s.size + 1 := by omega
          have hj1 : j + 1 + g2 = s.size + 1 := by omega
          have HJ := Lib.hid hj1
          clear hj hj1
          have cR := HRX.out.cell hjl
          have cN := HNX.out.cell hjl
          have zN := HNX.out.open' j
          have HST := Lib.hid (row_star_at s.data.toList R j)
          obtain ⟨r, hr⟩ : ∃ r, r = R j := ⟨_, rfl⟩
          have HRJ := Lib.hid hr
          rw [← hr] at cR
          clear hr
          by_cases h42 : p[k] = 42
          · have i1 : ((p[k].toNat : Int) == 42) = true := by rw [h42]; rfl
            have H42 := Lib.hid h42
            clear h42
            cases r with
            | true =>
              have HN2 : Hid (RowB (wr.setCell ⟨gn, j, none⟩ (.bool true)) w.heap.size gn (s.size + 1) (nxtP p[k] s.data.toList R (j + 1))) := Lib.hid (RowB.store (b := true) HNX.out (fun i _ => nx_star_hit H42.out (by rw [HST.out, ← HRJ.out, Bool.true_or]) i))
              have HR2 : Hid (RowB (wr.setCell ⟨gn, j, none⟩ (.bool true)) w.heap.size gb (s.size + 1) R) := Lib.hid (RowB.other HRX.out HNE.out _ _)
              have HB2 : Hid (Below w.heap.size w (wr.setCell ⟨gn, j, none⟩ (.bool true))) := Lib.hid (HBX.out.setCell HGN.out _)
              go_wp2_with (fail)
              go_roundg g2
              case measure => omega
              case rel => exact ⟨j + 1, HJ.out, by first | rfl | go_num, HN2, HR2, HB2⟩
            | false =>
              cases j with
              | zero =>
                have HN2 : Hid (RowB wr w.heap.size gn (s.size + 1) (nxtP p[k] s.data.toList R (0 + 1))) := Lib.hid (RowB.same HNX.out fun i _ => nx_star_miss H42.out (by rw [HST.out, ← HRJ.out]; rfl) i)
                go_wp2_with (fail)
                go_roundg g2
                case measure => omega
                case rel => exact ⟨0 + 1, HJ.out, by first | rfl | go_num, HN2, HRX, HBX⟩
              | succ i =>
                have cM := HNX.out.cell (j := i) (by omega)
                have hil : i < s.size + 1 := by omega
                obtain ⟨m, hm⟩ : ∃ m, m = nxtP p[k] s.data.toList R (i + 1) i := ⟨_, rfl⟩
                have HM := Lib.hid hm
                rw [← hm] at cM
                clear hm
                cases m with
                | true =>
                  have HN2 : Hid (RowB (wr.setCell ⟨gn, i + 1, none⟩ (.bool true)) w.heap.size gn (s.size + 1) (nxtP p[k] s.data.toList R (i + 1 + 1))) := Lib.hid (RowB.store (b := true) HNX.out (fun i' _ => nx_star_hit H42.out (by have e := HM.out; rw [H42.out] at e; rw [HST.out, ← HRJ.out, Nat.add_sub_cancel, ← e]; simp) i'))
                  have HR2 : Hid (RowB (wr.setCell ⟨gn, i + 1, none⟩ (.bool true)) w.heap.size gb (s.size + 1) R) := Lib.hid (RowB.other HRX.out HNE.out _ _)
                  have HB2 : Hid (Below w.heap.size w (wr.setCell ⟨gn, i + 1, none⟩ (.bool true))) := Lib.hid (HBX.out.setCell HGN.out _)
                  go_wp2_with (fail)
                  go_roundg g2
                  case measure => omega
                  case rel => exact ⟨i + 1 + 1, HJ.out, by first | rfl | go_num, HN2, HR2, HB2⟩
                | false =>
                  have HN2 : Hid (RowB wr w.heap.size gn (s.size + 1) (nxtP p[k] s.data.toList R (i + 1 + 1))) := Lib.hid (RowB.same HNX.out fun i' _ => nx_star_miss H42.out (by have e := HM.out; rw [H42.out] at e; rw [HST.out, ← HRJ.out, Nat.add_sub_cancel, ← e]; simp) i')
                  go_wp2_with (fail)
                  go_roundg g2
                  case measure => omega
                  case rel => exact ⟨i + 1 + 1, HJ.out, by first | rfl | go_num, HN2, HRX, HBX⟩
          · have i1 : ((p[k].toNat : Int) == 42) = false := by rw [beq_eq_false_iff_ne]; exact u8_neI (n := 42) (by decide) h42
            have H42 := Lib.hid h42
            clear h42
            cases r with
            | false =>
              have HN2 : Hid (RowB wr w.heap.size gn (s.size + 1) (nxtP p[k] s.data.toList R (j + 1))) := Lib.hid (RowB.same HNX.out fun i _ => nx_one_miss H42.out (by rw [← HRJ.out, Bool.false_and]) i)
              go_wp2_with (fail)
              go_roundg g2
              case measure => omega
              case rel => exact ⟨j + 1, HJ.out, by first | rfl | go_num, HN2, HRX, HBX⟩
            | true =>
              by_cases hjs : j < s.size
              · have hji : (j : Int) < (s.size : Int) := by omega
                by_cases h63 : p[k] = 63
                · have i2 : ((p[k].toNat : Int) == 63) = true := by rw [h63]; rfl
                  have HOK : Hid ((R j && okPat p[k] s.data.toList j) = true) := Lib.hid (by rw [← HRJ.out, Bool.true_and]; unfold okPat; rw [bs_get s j hjs]; simp [h63])
                  have cP := HNX.out.cell (j := j + 1) (by omega)
                  have zP := HNX.out.open' (j + 1)
                  have hjp : j + 1 < s.size + 1 := by omega
                  clear h63
                  go_wp2_with (fail)
                  go_quiet (fail)
                  go_wp2_with (fail)
                  go_roundg g2
                  case measure => omega
                  case rel => exact ⟨j + 1, HJ.out, by first | rfl | go_num, Lib.hid (RowB.store (b := true) (w := wr.drewN _) HNX.out (fun i _ => nx_one_hit H42.out HOK.out i)), Lib.hid (RowB.other (w := wr.drewN _) HRX.out HNE.out _ _), Lib.hid ((below_drewN HBX.out _).setCell HGN.out _)⟩
                · have i2 : ((p[k].toNat : Int) == 63) = false := by rw [beq_eq_false_iff_ne]; exact u8_neI (n := 63) (by decide) h63
                  by_cases hx : p[k] = s[j]
                  · have i3 : ((p[k].toNat : Int) == (s[j].toNat : Int)) = true := by rw [hx]; simp
                    have HOK : Hid ((R j && okPat p[k] s.data.toList j) = true) := Lib.hid (by rw [← HRJ.out, Bool.true_and]; unfold okPat; rw [bs_get s j hjs]; simp [hx])
                    have cP := HNX.out.cell (j := j + 1) (by omega)
                    have zP := HNX.out.open' (j + 1)
                    have hjp : j + 1 < s.size + 1 := by omega
                    clear h63 hx
                    go_wp2_with (fail)
                    go_quiet (fail)
                    go_wp2_with (fail)
                    go_roundg g2
                    case measure => omega
                    case rel => exact ⟨j + 1, HJ.out, by first | rfl | go_num, Lib.hid (RowB.store (b := true) (w := wr.drewN _) HNX.out (fun i _ => nx_one_hit H42.out HOK.out i)), Lib.hid (RowB.other (w := wr.drewN _) HRX.out HNE.out _ _), Lib.hid ((below_drewN HBX.out _).setCell HGN.out _)⟩
                  · have i3 : ((p[k].toNat : Int) == (s[j].toNat : Int)) = false := by
                      rw [beq_eq_false_iff_ne]; intro e; exact hx (UInt8.toNat_inj.1 (by omega))
                    have HOK : Hid ((R j && okPat p[k] s.data.toList j) = false) := Lib.hid (by unfold okPat; rw [bs_get s j hjs]; simp [h63, hx])
                    clear h63 hx
                    go_wp2_with (fail)
                    go_quiet (fail)
                    go_wp2_with (fail)
                    go_roundg g2
                    case measure => omega
                    case rel => exact ⟨j + 1, HJ.out, by first | rfl | go_num, Lib.hid (RowB.same (w := wr.drewN _) HNX.out fun i _ => nx_one_miss H42.out HOK.out i), HRX, Lib.hid (below_drewN HBX.out _)⟩
              · have hji : ¬ (j : Int) < (s.size : Int) := by omega
                have HOK : Hid ((R j && okPat p[k] s.data.toList j) = false) := Lib.hid (by unfold okPat; rw [List.getElem?_eq_none (by rw [bs_size_eq]; omega)]; simp)
                go_wp2_with (fail)
                go_quiet (fail)
                go_wp2_with (fail)
                go_roundg g2
                case measure => omega
                case rel => exact ⟨j + 1, HJ.out, by first | rfl | go_num, Lib.hid (RowB.same (w := wr.drewN _) HNX.out fun i _ => nx_one_miss H42.out HOK.out i), HRX, Lib.hid (below_drewN HBX.out _)⟩
end Go.Proofs.YtpanemfpipcggaaGreatDoor
