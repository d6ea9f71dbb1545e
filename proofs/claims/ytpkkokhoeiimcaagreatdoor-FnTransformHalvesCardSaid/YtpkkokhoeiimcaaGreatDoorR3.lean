/- A list of one text, plain; laws.in. laws.in. laws.FnTransformString. -/
import Derived.Test.YtpkkokhoeiimcaaGreatDoorQ9
import Derived.Test.YtpkkokhoeiimcaaGreatDoorA1
import Derived.Lib.ConvBytes
import Derived.Test.YtpkkokhoeiimcaaGreatDoorQ2
open Go Go.RowKit
namespace Go.Proofs.YtpkkokhoeiimcaaGreatDoor
theorem pEls_one (lit : Lit) {T t : List UInt8} (h : strOut (T ++ [93]) = .ok t [93]) : pAll lit 10 (91 :: (34 :: T) ++ [93]) = .ok (91 :: t ++ [93]) [] := by
  unfold pAll
  rw [pElem_succ]
  have e1 : (91 :: (34 :: T) ++ [93] : List UInt8).dropWhile wsB = 91 :: 34 :: (T ++ [93]) := by
    rw [List.cons_append, List.dropWhile_cons_of_neg (by decide)]; rfl
  rw [e1]
  simp only
  rw [if_neg (by decide), if_neg (by decide), if_neg (by decide), if_pos trivial, arrOut, if_neg (by decide), pEls_succ]
  have e2 : (34 :: (T ++ [93]) : List UInt8).dropWhile wsB = 34 :: (T ++ [93]) := by
    rw [List.dropWhile_cons_of_neg (by decide)]
  rw [e2]
  simp only
  rw [if_neg (by decide), if_neg (by decide), if_neg (by decide), if_neg (by decide), pElem_succ, e2]
  simp only
  rw [if_neg (by decide), if_neg (by decide), if_pos trivial, h]
  simp only
  rw [if_pos (by decide), pEls_succ]
  have e3 : ([93] : List UInt8).dropWhile wsB = [93] := by rw [List.dropWhile_cons_of_neg (by decide)]
  rw [e3]
  simp only
  rw [if_neg (by decide), if_pos trivial]
  simp only
  rw [if_pos (by decide)]
  simp [joinC]
theorem pEls_bad (lit : Lit) {T : List UInt8} (h : strOut (T ++ [93]) = .err) : pAll lit 10 (91 :: (34 :: T) ++ [93]) = .err := by
  unfold pAll
  rw [pElem_succ]
  have e1 : (91 :: (34 :: T) ++ [93] : List UInt8).dropWhile wsB = 91 :: 34 :: (T ++ [93]) := by
    rw [List.cons_append, List.dropWhile_cons_of_neg (by decide)]; rfl
  rw [e1]
  simp only
  rw [if_neg (by decide), if_neg (by decide), if_neg (by decide), if_pos trivial, arrOut, if_neg (by decide), pEls_succ]
  have e2 : (34 :: (T ++ [93]) : List UInt8).dropWhile wsB = 34 :: (T ++ [93]) := by
    rw [List.dropWhile_cons_of_neg (by decide)]
  rw [e2]
  simp only
  rw [if_neg (by decide), if_neg (by decide), if_neg (by decide), if_neg (by decide), pElem_succ, e2]
  simp only
  rw [if_neg (by decide), if_neg (by decide), if_pos trivial, h]
theorem piece_ne {q bs : List UInt8} (h : Piece q bs) : q ≠ [] := by
  rintro rfl
  have := h []
  simp [pStep] at this
theorem flat_ne : ∀ (ps : List (List UInt8 × List UInt8)), (∀ p ∈ ps, p.1 ≠ []) → ps.length ≤ (ps.flatMap (·.1)).length
  | [], _ => Nat.zero_le _
  | p :: ps, h => by
    have h1 : 0 < p.1.length := List.length_pos_iff.2 (h p List.mem_cons_self)
    have h2 := flat_ne ps fun x hx => h x (List.mem_cons_of_mem _ hx)
    rw [List.flatMap_cons, List.length_append, List.length_cons]; omega
theorem QS.pieces {s : ByteArray} {Q : List UInt8} (h : QS s s.size Q) : ∃ ps : List (List UInt8 × List UInt8), (∀ p ∈ ps, Piece p.1 p.2) ∧ Q = ps.flatMap (·.1) ∧ ps.flatMap (·.2) = s.data.toList ∧ ps.length ≤ Q.length := by
  obtain ⟨ps, h1, h2, h3, _, _⟩ := h
  refine ⟨ps, h1, h2, ?_, by rw [h2]; exact flat_ne ps fun p hp => piece_ne (h1 p hp)⟩
  rw [h3, List.take_of_length_le (by rw [← Lib.size_eq]; exact Nat.le_refl _)]
theorem strOut_text {s : ByteArray} {Q : List UInt8} (h : QS s s.size Q) : strOut ((Q ++ [34]) ++ [93]) = .ok (deco s.data.toList) [93] := by
  obtain ⟨ps, h1, h2, h3, h4⟩ := h.pieces
  unfold strOut
  have e : (Q ++ [34]) ++ [93] = Q ++ 34 :: [93] := by simp
  have hp := pStr_pieces ps h1 ((Q ++ 34 :: [93]).length + 1) [] [93] (by rw [List.length_append]; omega)
  rw [← h2, h3] at hp
  rw [e, hp]
  rfl
theorem in_src (w : World) (S : ByteArray) {D : List UInt8} (hD : S.data.toList = D) (i : Nat) (x : UInt8) (h : D[i]? = some x) : (Lib.bytesWorld w 5 S).cell? ⟨w.heap.size, i, none⟩ = some (.int .u8 x.toNat) := by
  have hi : i < S.size := by rw [ba_len, hD]; exact (List.getElem?_eq_some_iff.1 h).1
  rw [Lib.bytesWorld_cell w 5 S i hi, hD, List.getD_eq_getElem?_getD, h]
  rfl
set_option maxRecDepth 100000 in
set_option maxHeartbeats 8000000 in
theorem in_err (lit : Lit) (hL : LitOK lit) (k : Nat) (s : ByteArray) (hs : s.size ≤ 1073741824) {N : Nat} {w : World} (hN : TL N w) (hA : pAll lit k (91 :: s.data.toList ++ [93]) = .err) (hE : pElem lit k 0 (91 :: s.data.toList ++ [93]) = .err) :
    Calls Tryz.prog 11 #[.string s] w fun e w' => e = .returned (.tuple #[.string ⟨#[]⟩, .bool false]) ∧ Below w.heap.size w w' := by
  obtain ⟨D, hD⟩ : ∃ D, D = 91 :: s.data.toList ++ [93] := ⟨_, rfl⟩
  rw [← hD] at hA hE
  have hSD : ((⟨#[91]⟩ ++ s ++ ⟨#[93]⟩ : ByteArray)).data.toList = D := by rw [ba_app, ba_app, hD]; rfl
  have hSz : ((⟨#[91]⟩ ++ s ++ ⟨#[93]⟩ : ByteArray)).size = D.length := by rw [ba_len, hSD]
  have hDl : D.length = s.size + 2 := by rw [hD, ba_len]; simp
  have hcv := Lib.run_convert_string_bytes (P := Tryz.prog) w 9 22 5 (⟨#[91]⟩ ++ s ++ ⟨#[93]⟩) (u := .string) Tryz.underlying9 Tryz.underlying22 Tryz.underlying5
  have hbel := Lib.bytesWorld_below w 5 (⟨#[91]⟩ ++ s ++ ⟨#[93]⟩)
  have hbsz := Lib.bytesWorld_size w 5 (⟨#[91]⟩ ++ s ++ ⟨#[93]⟩)
  have hdat := in_src w _ hSD
  obtain ⟨W, hW⟩ : ∃ W, W = Lib.bytesWorld w 5 (⟨#[91]⟩ ++ s ++ ⟨#[93]⟩) := ⟨_, rfl⟩
  obtain ⟨cp, hcp⟩ : ∃ cp, cp = grownCap w ((⟨#[91]⟩ ++ s ++ ⟨#[93]⟩ : ByteArray)).size 0 5 := ⟨_, rfl⟩
  rw [← hW, ← hcp, hSz] at hcv
  rw [← hW] at hbel hbsz hdat
  have HT := Lib.hid (implTransform_any lit hL k (w := W) (a := w.heap.size) (cp := cp) (N := N) (D := D) hdat (by rw [hbsz]; omega) (by omega) (hN.mono hN.le hbel) (by rw [hA]; intro e; cases e) (by intro t r e; rw [hE] at e; cases e))
  rw [hA] at HT
  have HB := Lib.hid hbel
  clear hD hA hE hSD hSz hbel hbsz hdat hW hcp hL hN hDl
  go_enter Tryz.func11, Tryz.ntmps11
  go_wp2_with (fail)
  refine HT.out.mono ?_
  rintro e w2 ⟨rfl, hb⟩
  have HB2 := Lib.hid (HB.out.trans (hb.mono HB.out.size))
  clear hb
  go_wp2_with (fail)
  go_ret2
  exact ⟨rfl, HB2.out⟩
set_option maxRecDepth 100000 in
set_option maxHeartbeats 8000000 in
theorem in_ok (lit : Lit) (hL : LitOK lit) (k : Nat) (s : ByteArray) (hs : s.size ≤ 1073741824) (m : List UInt8) (hm : m.length ≤ 4294967296) {N : Nat} {w : World} (hN : TL N w) (hA : pAll lit k (91 :: s.data.toList ++ [93]) = .ok (91 :: m ++ [93]) []) (hE : ∀ t r, pElem lit k 0 (91 :: s.data.toList ++ [93]) = .ok t r → t.length ≤ 549755813888) :
    Calls Tryz.prog 11 #[.string s] w fun e w' => e = .returned (.tuple #[.string ⟨m.toArray⟩, .bool true]) ∧ Below w.heap.size w w' := by
  obtain ⟨D, hD⟩ : ∃ D, D = 91 :: s.data.toList ++ [93] := ⟨_, rfl⟩
  rw [← hD] at hA hE
  have hSD : ((⟨#[91]⟩ ++ s ++ ⟨#[93]⟩ : ByteArray)).data.toList = D := by rw [ba_app, ba_app, hD]; rfl
  have hSz : ((⟨#[91]⟩ ++ s ++ ⟨#[93]⟩ : ByteArray)).size = D.length := by rw [ba_len, hSD]
  have hDl : D.length = s.size + 2 := by rw [hD, ba_len]; simp
  have hcv := Lib.run_convert_string_bytes (P := Tryz.prog) w 9 22 5 (⟨#[91]⟩ ++ s ++ ⟨#[93]⟩) (u := .string) Tryz.underlying9 Tryz.underlying22 Tryz.underlying5
  have hbel := Lib.bytesWorld_below w 5 (⟨#[91]⟩ ++ s ++ ⟨#[93]⟩)
  have hbsz := Lib.bytesWorld_size w 5 (⟨#[91]⟩ ++ s ++ ⟨#[93]⟩)
  have hdat := in_src w _ hSD
  obtain ⟨W, hW⟩ : ∃ W, W = Lib.bytesWorld w 5 (⟨#[91]⟩ ++ s ++ ⟨#[93]⟩) := ⟨_, rfl⟩
  obtain ⟨cp, hcp⟩ : ∃ cp, cp = grownCap w ((⟨#[91]⟩ ++ s ++ ⟨#[93]⟩ : ByteArray)).size 0 5 := ⟨_, rfl⟩
  rw [← hW, ← hcp, hSz] at hcv
  rw [← hW] at hbel hbsz hdat
  have HT := Lib.hid (implTransform_any lit hL k (w := W) (a := w.heap.size) (cp := cp) (N := N) (D := D) hdat (by rw [hbsz]; omega) (by omega) (hN.mono hN.le hbel) (by rw [hA]; intro e; cases e) hE)
  rw [hA] at HT
  have HB := Lib.hid hbel
  clear hD hA hE hSD hSz hbel hbsz hdat hW hcp hL hN hDl
  obtain ⟨T, hT⟩ : ∃ T : ByteArray, T = ⟨m.toArray⟩ := ⟨_, rfl⟩
  rw [← hT]
  have HTE := Lib.hid hT
  clear hT
  go_enter Tryz.func11, Tryz.ntmps11
  go_wp2_with (fail)
  refine HT.out.mono ?_
  rintro e w2 ⟨v, B, rfl, hBB, hown, hb⟩
  have HB2 := Lib.hid (HB.out.trans (hb.mono HB.out.size))
  obtain ⟨g, cap, cur, rfl, hg2, hg3, hg4⟩ : ∃ g cap cur, v = .slice (some ⟨g, 0, none⟩) (m.length + 1 + 1) cap ∧ w2.heap[g]? = some (.cells cur 5 (0, 0)) ∧ m.length + 1 + 1 ≤ cap ∧ cap ≤ maxLen := by
    rcases hown.2 with ⟨_, h0⟩ | ⟨g, cap, cur, rfl, h1, h2, h3, h4, _⟩
    · simp at h0
    · refine ⟨g, cap, cur, ?_, h2, ?_, h4⟩
      · simp
      · simpa using h3
  have hc : ∀ i x, (91 :: m ++ [93])[i]? = some x → w2.cell? ⟨g, i, none⟩ = some (.int .u8 x.toNat) := by
    intro i x hx
    have := hown.cells (g := g) (by simp [Value.ownBlock]) i (.int .u8 x.toNat) (by rw [Lib.byteCells, List.getElem?_map, hx]; rfl)
    rw [addrAdd, Nat.zero_add] at this
    exact this
  have c0 : w2.cell? ⟨g, 0, none⟩ = some (.int .u8 91) := hc 0 91 rfl
  have c1 : w2.cell? ⟨g, m.length + 1, none⟩ = some (.int .u8 93) := hc (m.length + 1) 93 (by rw [List.cons_append, List.getElem?_cons_succ, List.getElem?_append_right (Nat.le_refl _)]; simp)
  have HSRC : Hid (BSrc w2 (.slice (some ⟨g, 1, none⟩) m.length (cap - 1)) m) := by
    refine .inr ⟨⟨g, 1, none⟩, cap - 1, rfl, by unfold maxLen; omega, fun j x hj => ?_⟩
    rw [addrAdd, Nat.add_comm]
    refine hc (j + 1) x ?_
    rw [List.cons_append, List.getElem?_cons_succ, List.getElem?_append_left (List.getElem?_eq_some_iff.1 hj).1]
    exact hj
  have hcv2 := HSRC.out.conv
  rw [← HTE.out] at hcv2
  unfold maxLen at hg4
  obtain ⟨q, hq⟩ : ∃ q, q = m.length := ⟨_, rfl⟩
  rw [← hq] at c1 hcv2 hg3 ⊢
  have hm' : q ≤ 4294967296 := by omega
  have k1 : decide ((q : Int) + 1 + 1 < 2) = false := by simp; omega
  clear hown hb hc hg2 hm hq hBB
  go_wp2_with (fail)
  go_ret2
  exact ⟨rfl, HB2.out⟩
theorem pAll_elem {lit : Lit} {k : Nat} {D t0 : List UInt8} (h : pAll lit k D = .ok t0 []) (t r : List UInt8) (he : pElem lit k 0 D = .ok t r) : t = t0 := by
  unfold pAll at h
  rw [he] at h
  simp only at h
  split at h
  · cases h; rfl
  · cases h
theorem deco_len (s : List UInt8) : (deco s).length ≤ 6 * s.length + 2 := by
  unfold deco
  have := flat_len s
  simp only [List.length_append, List.length_cons, List.length_nil]; omega
set_option maxRecDepth 100000 in
set_option maxHeartbeats 8000000 in
theorem fnTransformString_any (s : ByteArray) {L : List UInt8} {v : Value} {w : World} (hs : s.size ≤ 9223372036854775807) (hv : BSrc w v L) (hN : TL w.heap.size w) :
    Calls Tryz.prog 3 #[.string s, v] w fun e w' => e = .returned (.bool true) ∧ Below w.heap.size w w' := by
  have HN := Lib.hid hN
  have HV := Lib.hid hv
  have hl := hv.len
  obtain ⟨ao, cp, rfl⟩ : ∃ ao cp, v = .slice ao L.length cp := by
    rcases hv with ⟨rfl, rfl⟩ | ⟨ad, cp, rfl, _⟩
    · exact ⟨none, 0, rfl⟩
    · exact ⟨some ad, cp, rfl⟩
  clear hN hv
  unfold maxLen at hl
  by_cases h1 : 2147483647 < s.size
  · have i1 : (2147483647 : Int) < (s.size : Int) := by omega
    go_enter Tryz.func3, Tryz.ntmps3
    go_wp2_with (fail)
    go_ret
    exact ⟨rfl, Below.refl _ _⟩
  have i1 : ¬ (2147483647 : Int) < (s.size : Int) := by omega
  by_cases h2 : 2147483647 < L.length
  · have i2 : (2147483647 : Int) < (L.length : Int) := by omega
    go_enter Tryz.func3, Tryz.ntmps3
    go_wp2_with (fail)
    go_ret
    exact ⟨rfl, Below.refl _ _⟩
  have i2 : ¬ (2147483647 : Int) < (L.length : Int) := by omega
  have HVA := Lib.hid (valid_any s (by omega) w)
  unfold VldP at HVA
  cases hvd : vld s s.size 0 with
  | false =>
    rw [hvd] at HVA
    clear h1 h2
    go_enter Tryz.func3, Tryz.ntmps3
    go_wp2_with (fail)
    refine HVA.out.mono ?_
    rintro e w1 ⟨rfl, hb⟩
    have HB1 := Lib.hid hb
    clear hb
    go_wp2_with (fail)
    refine (awake_true _ w1 (HN.out.mono (Nat.le_refl _) HB1.out)).mono ?_
    rintro e w2 ⟨rfl, hb⟩
    have HB2 := Lib.hid (HB1.out.trans (hb.mono HB1.out.size))
    clear hb
    go_wp2_with (fail)
    go_ret
    exact ⟨rfl, HB2.out⟩
  | true =>
    rw [hvd] at HVA
    by_cases h3 : 4000 < s.size
    · have i3 : (4000 : Int) < (s.size : Int) := by omega
      clear h1 h2
      go_enter Tryz.func3, Tryz.ntmps3
      go_wp2_with (fail)
      refine HVA.out.mono ?_
      rintro e w1 ⟨rfl, hb⟩
      have HB1 := Lib.hid hb
      clear hb
      go_wp2_with (fail)
      refine (awake_true _ w1 (HN.out.mono (Nat.le_refl _) HB1.out)).mono ?_
      rintro e w2 ⟨rfl, hb⟩
      have HB2 := Lib.hid (HB1.out.trans (hb.mono HB1.out.size))
      clear hb
      go_wp2_with (fail)
      go_ret
      exact ⟨rfl, HB2.out⟩
    · have i3 : ¬ (4000 : Int) < (s.size : Int) := by omega
      have HS : Hid (s.size ≤ 4000) := by show _ ≤ _; omega
      have HVD := Lib.hid hvd
      clear h1 h2 h3 hvd
      go_enter Tryz.func3, Tryz.ntmps3
      go_wp2_with (fail)
      refine HVA.out.mono ?_
      rintro e w1 ⟨rfl, hb⟩
      have HB1 := Lib.hid hb
      have HV1 := Lib.hid (HV.out.stay hb)
      clear hb
      have HQU := Lib.hid (wquoted_any s (by have := HS.out; omega) HVD.out (WY.new w1 HV1.out) (by omega))
      have HBA : Hid (Below w.heap.size w (w1.alloc (.cells #[.slice ao L.length cp, .int .i64 0] 29))) := HB1.out.alloc HB1.out.size _
      go_wp2_with (fail)
      refine HQU.out.mono ?_
      rintro e w3 ⟨Q, k', rfl, hq, hwy, hfr, hk'⟩
      have HB3 : Hid (Below w.heap.size w w3) := HBA.out.trans (hfr.toBelow HB1.out.size (by have := HB1.out.size; rw [World.size_alloc]; omega))
      have hQl : Q.length ≤ 12 * 4000 := by
        obtain ⟨_, _, _, _, _, h5⟩ := id hq
        have := HS.out; omega
      have hT : ((⟨(34 :: Q ++ [34]).toArray⟩ : ByteArray)).data.toList = 34 :: (Q ++ [34]) := by simp
      obtain ⟨T, hTe⟩ : ∃ T : ByteArray, T = ⟨(34 :: Q ++ [34]).toArray⟩ := ⟨_, rfl⟩
      rw [← hTe] at hT ⊢
      have hTs : T.size ≤ 1073741824 := by rw [ba_len, hT]; simp; omega
      have hA : pAll lit10 10 (91 :: T.data.toList ++ [93]) = .ok (91 :: deco s.data.toList ++ [93]) [] := by
        rw [hT]
        exact pEls_one lit10 (strOut_text hq)
      have hdl := deco_len s.data.toList
      rw [← ba_len] at hdl
      have HIN := Lib.hid (in_ok lit10 lit10_ok 10 T hTs (deco s.data.toList) (by have := HS.out; omega) (HN.out.mono (Nat.le_refl _) HB3.out) hA (fun t r he => by rw [pAll_elem hA t r he]; simp; have := HS.out; omega))
      obtain ⟨X, hX⟩ : ∃ X : ByteArray, X = ⟨(deco s.data.toList).toArray⟩ := ⟨_, rfl⟩
      rw [← hX] at HIN
      have HES := fun w => escaped_any s (by have := HS.out; omega) w
      rw [← hX] at HES
      have HES := Lib.hid HES
      have hxx : (X.toList == X.toList) = true := by simp
      clear hq hwy hfr hk' hQl hT hTe hTs hA hdl hX
      go_wp2_with (fail)
      refine HIN.out.mono ?_
      rintro e w4 ⟨rfl, hb⟩
      have HB4 := Lib.hid (HB3.out.trans (hb.mono HB3.out.size))
      clear hb
      go_wp2_with (fail)
      refine (HES.out _).mono ?_
      rintro e w5 ⟨rfl, hb⟩
      have HB5 := Lib.hid (HB4.out.trans (hb.mono HB4.out.size))
      clear hb
      go_wp2_with (fail)
      refine (awake_true _ w5 (HN.out.mono (Nat.le_refl _) HB5.out)).mono ?_
      rintro e w6 ⟨rfl, hb⟩
      have HB6 := Lib.hid (HB5.out.trans (hb.mono HB5.out.size))
      clear hb
      go_wp2_with (fail)
      go_ret
      exact ⟨rfl, HB6.out⟩
end Go.Proofs.YtpkkokhoeiimcaaGreatDoor
