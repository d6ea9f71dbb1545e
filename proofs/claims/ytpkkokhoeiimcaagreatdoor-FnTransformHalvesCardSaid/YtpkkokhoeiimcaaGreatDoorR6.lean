/- laws.short at two strings (as in XA5, without the law above it). laws.FnTransformHalves: plain part. laws.FnTransformHalves: the walk. laws.FnTransformHalves, at every input. -/
import Derived.Test.YtpkkokhoeiimcaaGreatDoorT0
import Derived.Test.YtpkkokhoeiimcaaGreatDoorR3
open Go Go.RowKit
namespace Go.Proofs.YtpkkokhoeiimcaaGreatDoor
set_option maxRecDepth 100000 in
set_option maxHeartbeats 4000000 in
theorem short_2 (n : Nat) (a b : ByteArray) (g : Nat) (w : World) (_hn : n ≤ 65536) (hg : w.heap[g]? = some (.cells #[.string a, .string b] 9 (0, 0))) :
    Calls Tryz.prog 14 #[.int .i64 n, .slice (some ⟨g, 0, none⟩) 2 2] w fun e w' => e = .returned (.bool (decide (a.size ≤ n ∧ b.size ≤ n))) ∧ w' = w := by
  have c0 : w.cell? ⟨g, 0, none⟩ = some (.string a) := by simp [World.cell?, hg]
  have c1 : w.cell? ⟨g, 1, none⟩ = some (.string b) := by simp [World.cell?, hg]
  clear hg
  by_cases h1 : a.size ≤ n
  · by_cases h2 : b.size ≤ n
    · have i1 : ¬ (n : Int) < (a.size : Int) := by omega
      have i2 : ¬ (n : Int) < (b.size : Int) := by omega
      have hd : decide (a.size ≤ n ∧ b.size ≤ n) = true := decide_eq_true ⟨h1, h2⟩
      rw [hd]
      clear hd
      go_enter Tryz.func14, Tryz.ntmps14
      go_wp2_with (fail)
      refine wp_loop_rounds 4 ?_
      rw [rounds_succ]
      go_wp2_with (fail)
      rw [rounds_succ]
      go_wp2_with (fail)
      rw [rounds_succ]
      go_wp2_with (fail)
      go_ret
      exact ⟨rfl, rfl⟩
    · have i1 : ¬ (n : Int) < (a.size : Int) := by omega
      have i2 : (n : Int) < (b.size : Int) := by omega
      have hd : decide (a.size ≤ n ∧ b.size ≤ n) = false := decide_eq_false fun h => h2 h.2
      rw [hd]
      clear hd
      go_enter Tryz.func14, Tryz.ntmps14
      go_wp2_with (fail)
      refine wp_loop_rounds 4 ?_
      rw [rounds_succ]
      go_wp2_with (fail)
      rw [rounds_succ]
      go_wp2_with (fail)
      go_ret
      exact ⟨rfl, rfl⟩
  · have i1 : (n : Int) < (a.size : Int) := by omega
    have hd : decide (a.size ≤ n ∧ b.size ≤ n) = false := decide_eq_false fun h => h1 h.1
    rw [hd]
    clear hd
    go_enter Tryz.func14, Tryz.ntmps14
    go_wp2_with (fail)
    refine wp_loop_rounds 4 ?_
    rw [rounds_succ]
    go_wp2_with (fail)
    go_ret
    exact ⟨rfl, rfl⟩
theorem pStr_bad : ∀ (ps : List (List UInt8 × List UInt8)), (∀ p ∈ ps, Piece p.1 p.2) → ∀ (k : Nat) (acc r : List UInt8), pStep r = .err → ps.length < k →
    pStr k acc (ps.flatMap (·.1) ++ r) = none
  | [], _, k, acc, r, hr, hk => by
    obtain ⟨k, rfl⟩ : ∃ m, k = m + 1 := ⟨k - 1, by simp at hk; omega⟩
    simp [pStr, hr]
  | p :: ps, hp, k, acc, r, hr, hk => by
    obtain ⟨k, rfl⟩ : ∃ m, k = m + 1 := ⟨k - 1, by simp at hk; omega⟩
    have h1 := hp p List.mem_cons_self (ps.flatMap (·.1) ++ r)
    have ih := pStr_bad ps (fun x hx => hp x (List.mem_cons_of_mem _ hx)) k (acc ++ p.2) r hr (by simp at hk; omega)
    rw [List.flatMap_cons, List.append_assoc, pStr, h1]
    exact ih
theorem half_bad (up : Bool) (n : Nat) (h1 : 55296 ≤ n) (h2 : n ≤ 57343) (r : List UInt8) : pStep (hexT up n ++ 122 :: r) = .err := by
  show pStep (92 :: 117 :: (hexL up (n / 4096 % 16) :: hexL up (n / 256 % 16) :: hexL up (n / 16 % 16) :: hexL up (n % 16) :: 122 :: r)) = _
  rw [pStep_cons, if_neg (by decide), if_neg (by decide), if_pos rfl, esc_cons, if_pos rfl]
  unfold uni
  rw [hex4_T up n (by omega) (122 :: r)]
  simp only
  rw [if_pos (by simp [surr]; omega)]
  unfold pair
  by_cases h3 : 56319 < n
  · rw [if_pos h3]
  · rw [if_neg h3]
    cases r with
    | nil => rfl
    | cons b r => simp only; rw [if_neg (fun h => absurd h.1 (by decide))]
theorem control_bad (c : UInt8) (h : c.toNat < 32) (r : List UInt8) : pStep (c :: r) = .err := by
  rw [pStep_cons, if_neg (by rintro rfl; exact absurd h (by decide)), if_pos h]
/-- Whole pieces, a sign or none, then what is bad. -/
theorem strOut_bad {s : ByteArray} {Q z r : List UInt8} (h : QS s s.size Q) (hz : z = [] ∨ z = [122]) (hr : pStep (r ++ [93]) = .err) : strOut ((Q ++ (z ++ r)) ++ [93]) = .err := by
  obtain ⟨ps, h1, h2, h3, h4⟩ := h.pieces
  unfold strOut
  have hn : pStr (((Q ++ (z ++ r)) ++ [93]).length + 1) [] ((Q ++ (z ++ r)) ++ [93]) = none := by
    rcases hz with rfl | rfl
    · have := pStr_bad ps h1 (((Q ++ ([] ++ r)) ++ [93]).length + 1) [] (r ++ [93]) hr (by simp only [List.length_append]; omega)
      rw [← h2] at this
      rw [List.nil_append, List.append_assoc] at this ⊢
      exact this
    · have := pStr_bad (ps ++ [([122], [122])]) (fun p hp => by
        rcases List.mem_append.1 hp with hp | hp
        · exact h1 p hp
        · rw [List.mem_singleton.1 hp]; exact piece_ascii (by decide) (by decide) (by decide) (by decide)) (((Q ++ ([122] ++ r)) ++ [93]).length + 1) [] (r ++ [93]) hr (by simp only [List.length_append, List.length_cons, List.length_nil]; omega)
      rw [List.flatMap_append, ← h2] at this
      have e : (Q ++ ([122] ++ r)) ++ [93] = Q ++ List.flatMap (·.1) [(([122], [122]) : List UInt8 × List UInt8)] ++ (r ++ [93]) := by simp
      rw [← e] at this
      exact this
  rw [hn]
theorem pEls_badE (lit : Lit) {T : List UInt8} (h : strOut (T ++ [93]) = .err) : pElem lit 10 0 (91 :: (34 :: T) ++ [93]) = .err := by
  have := pEls_bad lit h
  unfold pAll at this
  cases he : pElem lit 10 0 (91 :: (34 :: T) ++ [93]) with
  | stuck => rw [he] at this; cases this
  | err => rfl
  | ok t r =>
    exfalso
    rw [pElem_succ] at he
    have e1 : (91 :: (34 :: T) ++ [93] : List UInt8).dropWhile wsB = 91 :: 34 :: (T ++ [93]) := by
      rw [List.cons_append, List.dropWhile_cons_of_neg (by decide)]; rfl
    rw [e1] at he
    simp only at he
    rw [if_neg (by decide), if_neg (by decide), if_neg (by decide), if_pos trivial, arrOut, if_neg (by decide), pEls_succ] at he
    have e2 : (34 :: (T ++ [93]) : List UInt8).dropWhile wsB = 34 :: (T ++ [93]) := by
      rw [List.dropWhile_cons_of_neg (by decide)]
    rw [e2] at he
    simp only at he
    rw [if_neg (by decide), if_neg (by decide), if_neg (by decide), if_neg (by decide), pElem_succ, e2] at he
    simp only at he
    rw [if_neg (by decide), if_neg (by decide), if_pos trivial, h] at he
    cases he
theorem extract_pre (X : ByteArray) (l : List UInt8) (c : UInt8) (h : X.data.toList = l ++ [c]) : (X.extract 0 (X.size - 1)).data.toList = l := by
  have hs : X.size = l.length + 1 := by rw [ba_len, h]; simp
  rw [hs]
  simp [h]
theorem extract_post (X : ByteArray) (l : List UInt8) (c : UInt8) (h : X.data.toList = c :: l) : (X.extract 1 X.size).data.toList = l := by
  have hs : X.size = l.length + 1 := by rw [ba_len, h]; simp
  rw [hs]
  simp [h]
set_option maxRecDepth 100000 in
set_option maxHeartbeats 8000000 in
theorem fnTransformHalves_main (a b : ByteArray) (u c : Nat) (hu : u < 65536) (hc : c < 256) {L : List UInt8} {ao : Option Addr} {cp : Nat} {w : World} (ha : a.size ≤ 200) (hb : b.size ≤ 200) (hva : vld a a.size 0 = true) (hvb : vld b b.size 0 = true) (hlen : L.length ≤ 2147483647) (hv : BSrc w (.slice ao L.length cp) L) (hN : TL w.heap.size w) :
    Calls Tryz.prog 4 #[.string a, .string b, .int .u16 u, .int .u8 c, .slice ao L.length cp] w fun e w' => e = .returned (.bool true) ∧ Below w.heap.size w w' := by
  have HN := Lib.hid hN
  have HV := Lib.hid hv
  have HVA := Lib.hid (valid_any a (by omega) w)
  have HVB := fun w => valid_any b (by omega) w
  unfold VldP at HVA HVB
  rw [hva] at HVA
  rw [hvb] at HVB
  have HVB := Lib.hid HVB
  have HA := Lib.hid ha
  have HB := Lib.hid hb
  have HVDA := Lib.hid hva
  have HVDB := Lib.hid hvb
  have i1 : ¬ (2147483647 : Int) < (a.size : Int) := by omega
  have i2 : ¬ (2147483647 : Int) < (b.size : Int) := by omega
  have i3 : ¬ (2147483647 : Int) < (L.length : Int) := by omega
  have hsd : decide (a.size ≤ 200 ∧ b.size ≤ 200) = true := decide_eq_true ⟨ha, hb⟩
  have HSH := fun (g : Nat) (w : World) hg => short_2 200 a b g w (by decide) hg
  rw [hsd] at HSH
  have HSH := Lib.hid HSH
  clear hv hN hva hvb ha hb hsd
  go_enter Tryz.func4, Tryz.ntmps4
  go_wp2_with (fail)
  refine HVA.out.mono ?_
  rintro e w1 ⟨rfl, hb⟩
  have HB1 := Lib.hid hb
  have HV1 := Lib.hid (HV.out.stay hb)
  clear hb
  go_wp2_with (fail)
  refine (HVB.out _).mono ?_
  rintro e w2 ⟨rfl, hb⟩
  have HB2 := Lib.hid (HB1.out.trans (hb.mono HB1.out.size))
  have HV2 := Lib.hid (HV1.out.stay hb)
  clear hb
  go_wp2_with (fail)
  refine (HSH.out w2.heap.size _ (alloc_at _ _)).mono ?_
  rintro e w3 ⟨rfl, rfl⟩
  obtain ⟨w4, hw4⟩ : ∃ w4, w4 = w2.alloc (.cells #[.string a, .string b] 9) := ⟨_, rfl⟩
  rw [← hw4]
  have hb4 : Below w2.heap.size w2 w4 := by rw [hw4]; exact (Below.refl _ _).alloc (Nat.le_refl _) _
  have HB4 := Lib.hid (HB2.out.trans (hb4.mono HB2.out.size))
  have HV4 := Lib.hid (HV2.out.stay hb4)
  clear hb4 hw4
  have HQ1 := Lib.hid (wquoted_any a (by have := HA.out; omega) HVDA.out (WY.new w4 HV4.out) (by omega))
  have HBA : Hid (Below w.heap.size w (w4.alloc (.cells #[.slice ao L.length cp, .int .i64 0] 29))) := HB4.out.alloc HB4.out.size _
  go_wp2_with (fail)
  refine HQ1.out.mono ?_
  rintro e w5 ⟨Q1, k1, rfl, hq1, hwy1, hfr1, hk1⟩
  have HB5 : Hid (Below w.heap.size w w5) := HBA.out.trans (hfr1.toBelow HB4.out.size (by have := HB4.out.size; rw [World.size_alloc]; omega))
  have hQ1l : Q1.length ≤ 12 * 200 := by
    obtain ⟨_, _, _, _, _, h5⟩ := id hq1
    have := HA.out; omega
  obtain ⟨X, hX⟩ : ∃ X : ByteArray, X = ⟨(34 :: Q1 ++ [34]).toArray⟩ := ⟨_, rfl⟩
  rw [← hX]
  have hXd : X.data.toList = 34 :: Q1 ++ [34] := by rw [hX]
  have hXs0 : X.size = Q1.length + 2 := by rw [ba_len, hXd]; simp
  have hXs : 2 ≤ X.size ∧ X.size ≤ 2402 := by omega
  have HQ1L := Lib.hid hQ1l
  have HXA : Hid ((X.extract 0 (X.size - 1)).data.toList = 34 :: Q1) := extract_pre X _ 34 hXd
  have HQ2 := Lib.hid (wquoted_any b (by have := HB.out; omega) HVDB.out hwy1 (by have := HA.out; omega))
  have HS1 := Lib.hid hq1
  clear hq1 hwy1 hfr1 hX hXd hXs0 hQ1l
  go_wp2_with (fail)
  refine HQ2.out.mono ?_
  rintro e w6 ⟨Q2, k2, rfl, hq2, hwy2, hfr2, hk2⟩
  have HB6 : Hid (Below w.heap.size w w6) := HB5.out.trans (hfr2.toBelow HB4.out.size (by exact HB5.out.size))
  have hQ2l : Q2.length ≤ 12 * 200 := by
    obtain ⟨_, _, _, _, _, h5⟩ := id hq2
    have := HB.out; omega
  obtain ⟨Y, hY⟩ : ∃ Y : ByteArray, Y = ⟨(34 :: Q2 ++ [34]).toArray⟩ := ⟨_, rfl⟩
  rw [← hY]
  have hYd : Y.data.toList = 34 :: (Q2 ++ [34]) := by rw [hY]; rfl
  have hYs0 : Y.size = Q2.length + 2 := by rw [ba_len, hYd]; simp
  have hYs : 2 ≤ Y.size ∧ Y.size ≤ 2402 := by omega
  have HQ2L := Lib.hid hQ2l
  have HK2 : Hid (k2 ≤ 1600) := by show _ ≤ _; have := HA.out; have := HB.out; omega
  have HYB : Hid ((Y.extract 1 Y.size).data.toList = Q2 ++ [34]) := extract_post Y _ 34 hYd
  have HWY2 := Lib.hid hwy2
  clear hq2 hwy2 hfr2 hY hYd hYs0 hQ2l
  obtain ⟨hX1, hX2⟩ := hXs
  obtain ⟨hY1, hY2⟩ := hYs
  go_wp2_with (fail)
  have b1 : (0 : Int) ≤ (X.size : Int) - 1 := by omega
  have b2 : (X.size : Int) - 1 ≤ (X.size : Int) := by omega
  have b3 : (1 : Int) ≤ (Y.size : Int) := by omega
  go_quiet (fail)
  go_wp2_with (fail)
  obtain ⟨n, hn⟩ : ∃ n, n = 55296 + u % 2048 := ⟨_, rfl⟩
  have en : (55296 : Int) + (u : Int) % 2048 = (n : Int) := by omega
  have hn1 : 55296 ≤ n ∧ n ≤ 57343 := by omega
  rw [en]
  obtain ⟨XA, hXA⟩ : ∃ XA, XA = X.extract 0 (X.size - 1) := ⟨_, rfl⟩
  obtain ⟨YZ, hYZ⟩ : ∃ YZ, YZ = (⟨#[122]⟩ : ByteArray) ++ Y.extract 1 Y.size := ⟨_, rfl⟩
  rw [← hXA, ← hYZ]
  have HXD : Hid (XA.data.toList = 34 :: Q1) := by rw [hXA]; exact HXA
  have HYD : Hid (YZ.data.toList = 122 :: (Q2 ++ [34])) := by rw [hYZ]; show _ = _; rw [ba_app, HYB.out]; rfl
  have hx1 : XA.size ≤ 2402 := by rw [ba_len, HXD.out]; have := HQ1L.out; simp; omega
  have hy1 : YZ.size ≤ 2403 := by rw [ba_len, HYD.out]; have := HQ2L.out; simp; omega
  have HWYd : Hid (WY w4.heap.size L k2 (w6.drewN nq)) := HWY2
  have HB6d : Hid (Below w.heap.size w (w6.drewN nq)) := ⟨HB6.out.os, HB6.out.tape, HB6.out.output, HB6.out.size, HB6.out.block⟩
  clear en hn hXA hYZ hX1 hX2 hY1 hY2 b1 b2 b3 HXA HYB HWY2
  refine (hex4_any n (by omega) HWYd.out (by have := HK2.out; omega)).mono ?_
  rintro e w7 ⟨up, rfl, hwy, hfr⟩
  have HB7 : Hid (Below w.heap.size w w7) := HB6d.out.trans (hfr.toBelow HB4.out.size HB6d.out.size)
  obtain ⟨HF, hHF⟩ : ∃ T : ByteArray, T = ⟨(hexT up n).toArray⟩ := ⟨_, rfl⟩
  rw [← hHF]
  have HHD : Hid (HF.data.toList = hexT up n) := by rw [hHF]; exact Lib.hid rfl
  have hh1 : HF.size = 6 := by rw [ba_len, HHD.out]; rfl
  clear hwy hfr hHF
  obtain ⟨d, hd⟩ : ∃ d : UInt8, d = UInt8.ofNat (c % 32) := ⟨_, rfl⟩
  have hdn : d.toNat = c % 32 := by rw [hd, UInt8.toNat_ofNat_of_lt' (by show _ < 256; omega)]
  have hdz : (c : Int) % 32 = ((d.toNat : Nat) : Int) := by rw [hdn]; omega
  have hcv : ∀ W : World, (convert 22 9 (.slice (some ⟨W.heap.size, 0, none⟩) 1 1)).run Tryz.prog (W.alloc (.cells #[.int .u8 ((c : Int) % 32)] 5)) = .ok (.string ⟨#[d]⟩) (W.alloc (.cells #[.int .u8 ((c : Int) % 32)] 5)) := by
    intro W
    rw [hdz]
    exact (OwnB.new W d).src.conv
  have HCV := Lib.hid hcv
  clear hdz hcv
  by_cases hz : 1024 ≤ u % 2048
  · have z1 : (1024 : Int) ≤ (u : Int) % 2048 := by omega
    have hcv := HCV.out
    have hD : ((XA ++ ⟨#[122]⟩) ++ HF ++ YZ).data.toList = 34 :: (Q1 ++ ([122] ++ (hexT up n ++ 122 :: (Q2 ++ [34])))) := by rw [ba_app, ba_app, ba_app, HXD.out, HHD.out, HYD.out]; simp
    have hS1 := strOut_bad (z := [122]) HS1.out (.inr rfl) (r := hexT up n ++ 122 :: (Q2 ++ [34])) (by rw [List.append_assoc, List.cons_append]; exact half_bad up n hn1.1 hn1.2 _)
    have HIN := Lib.hid (in_err lit10 lit10_ok 10 ((XA ++ ⟨#[122]⟩) ++ HF ++ YZ) (by rw [ba_len, hD]; have := HQ1L.out; have := HQ2L.out; simp [hexT]; omega) (HN.out.mono (Nat.le_refl _) HB7.out) (by rw [hD]; exact pEls_bad lit10 hS1) (by rw [hD]; exact pEls_badE lit10 hS1))
    have hD2 : ((XA ++ ⟨#[122]⟩) ++ ⟨#[d]⟩ ++ YZ).data.toList = 34 :: (Q1 ++ ([122] ++ (d :: 122 :: (Q2 ++ [34])))) := by rw [ba_app, ba_app, ba_app, HXD.out, HYD.out]; simp
    have hS2 := strOut_bad (z := [122]) HS1.out (.inr rfl) (r := d :: 122 :: (Q2 ++ [34])) (by rw [List.cons_append]; exact control_bad d (by rw [hdn]; omega) _)
    have HIN2 := Lib.hid (fun (w9 : World) (hb9 : Below w.heap.size w w9) => in_err lit10 lit10_ok 10 ((XA ++ ⟨#[122]⟩) ++ ⟨#[d]⟩ ++ YZ) (by rw [ba_len, hD2]; have := HQ1L.out; have := HQ2L.out; simp; omega) (HN.out.mono (Nat.le_refl _) hb9) (by rw [hD2]; exact pEls_bad lit10 hS2) (by rw [hD2]; exact pEls_badE lit10 hS2))
    clear hD hS1 hD2 hS2 hn1 hd hdn hz
    go_wp2_with (fail)
    refine HIN.out.mono ?_
    rintro e w8 ⟨rfl, hb⟩
    have HB8 := Lib.hid (HB7.out.trans (hb.mono HB7.out.size))
    clear hb
    have hcv8 := hcv w8
    have HB9 : Hid (Below w.heap.size w (w8.alloc (.cells #[.int .u8 ((c : Int) % 32)] 5))) := HB8.out.alloc HB8.out.size _
    go_wp2_with (fail)
    refine (HIN2.out _ HB9.out).mono ?_
    rintro e w10 ⟨rfl, hb⟩
    have HB10 := Lib.hid (HB9.out.trans (hb.mono HB9.out.size))
    clear hb
    go_wp2_with (fail)
    refine (awake_true _ w10 (HN.out.mono (Nat.le_refl _) HB10.out)).mono ?_
    rintro e w11 ⟨rfl, hb⟩
    have HB11 := Lib.hid (HB10.out.trans (hb.mono HB10.out.size))
    clear hb
    go_wp2_with (fail)
    go_ret
    exact ⟨rfl, HB11.out⟩
  · have z1 : decide ((1024 : Int) ≤ (u : Int) % 2048) = false := by simp; omega
    have hcv := HCV.out
    have hD : (XA ++ HF ++ YZ).data.toList = 34 :: (Q1 ++ ([] ++ (hexT up n ++ 122 :: (Q2 ++ [34])))) := by rw [ba_app, ba_app, HXD.out, HHD.out, HYD.out]; simp
    have hS1 := strOut_bad (z := []) HS1.out (.inl rfl) (r := hexT up n ++ 122 :: (Q2 ++ [34])) (by rw [List.append_assoc, List.cons_append]; exact half_bad up n hn1.1 hn1.2 _)
    have HIN := Lib.hid (in_err lit10 lit10_ok 10 (XA ++ HF ++ YZ) (by rw [ba_len, hD]; have := HQ1L.out; have := HQ2L.out; simp [hexT]; omega) (HN.out.mono (Nat.le_refl _) HB7.out) (by rw [hD]; exact pEls_bad lit10 hS1) (by rw [hD]; exact pEls_badE lit10 hS1))
    have hD2 : (XA ++ ⟨#[d]⟩ ++ YZ).data.toList = 34 :: (Q1 ++ ([] ++ (d :: 122 :: (Q2 ++ [34])))) := by rw [ba_app, ba_app, HXD.out, HYD.out]; simp
    have hS2 := strOut_bad (z := []) HS1.out (.inl rfl) (r := d :: 122 :: (Q2 ++ [34])) (by rw [List.cons_append]; exact control_bad d (by rw [hdn]; omega) _)
    have HIN2 := Lib.hid (fun (w9 : World) (hb9 : Below w.heap.size w w9) => in_err lit10 lit10_ok 10 (XA ++ ⟨#[d]⟩ ++ YZ) (by rw [ba_len, hD2]; have := HQ1L.out; have := HQ2L.out; simp; omega) (HN.out.mono (Nat.le_refl _) hb9) (by rw [hD2]; exact pEls_bad lit10 hS2) (by rw [hD2]; exact pEls_badE lit10 hS2))
    clear hD hS1 hD2 hS2 hn1 hd hdn hz
    go_wp2_with (fail)
    refine HIN.out.mono ?_
    rintro e w8 ⟨rfl, hb⟩
    have HB8 := Lib.hid (HB7.out.trans (hb.mono HB7.out.size))
    clear hb
    have hcv8 := hcv w8
    have HB9 : Hid (Below w.heap.size w (w8.alloc (.cells #[.int .u8 ((c : Int) % 32)] 5))) := HB8.out.alloc HB8.out.size _
    go_wp2_with (fail)
    refine (HIN2.out _ HB9.out).mono ?_
    rintro e w10 ⟨rfl, hb⟩
    have HB10 := Lib.hid (HB9.out.trans (hb.mono HB9.out.size))
    clear hb
    go_wp2_with (fail)
    refine (awake_true _ w10 (HN.out.mono (Nat.le_refl _) HB10.out)).mono ?_
    rintro e w11 ⟨rfl, hb⟩
    have HB11 := Lib.hid (HB10.out.trans (hb.mono HB10.out.size))
    clear hb
    go_wp2_with (fail)
    go_ret
    exact ⟨rfl, HB11.out⟩
set_option maxRecDepth 100000 in
set_option maxHeartbeats 8000000 in
theorem halves_size (a b : ByteArray) (u c : Nat) {L : List UInt8} {ao : Option Addr} {cp : Nat} {w : World} (ha : a.size ≤ 9223372036854775807) (hb : b.size ≤ 9223372036854775807) (hl : L.length ≤ 9223372036854775807) (h : ¬ (a.size ≤ 2147483647 ∧ b.size ≤ 2147483647 ∧ L.length ≤ 2147483647)) :
    Calls Tryz.prog 4 #[.string a, .string b, .int .u16 u, .int .u8 c, .slice ao L.length cp] w fun e w' => e = .returned (.bool true) ∧ Below w.heap.size w w' := by
  by_cases h1 : 2147483647 < a.size
  · have i1 : (2147483647 : Int) < (a.size : Int) := by omega
    clear h h1
    go_enter Tryz.func4, Tryz.ntmps4
    go_wp2_with (fail)
    go_ret
    exact ⟨rfl, Below.refl _ _⟩
  have i1 : ¬ (2147483647 : Int) < (a.size : Int) := by omega
  by_cases h2 : 2147483647 < b.size
  · have i2 : (2147483647 : Int) < (b.size : Int) := by omega
    clear h h1 h2
    go_enter Tryz.func4, Tryz.ntmps4
    go_wp2_with (fail)
    go_ret
    exact ⟨rfl, Below.refl _ _⟩
  have i2 : ¬ (2147483647 : Int) < (b.size : Int) := by omega
  have i3 : (2147483647 : Int) < (L.length : Int) := by omega
  clear h h1 h2
  go_enter Tryz.func4, Tryz.ntmps4
  go_wp2_with (fail)
  go_ret
  exact ⟨rfl, Below.refl _ _⟩
set_option maxRecDepth 100000 in
set_option maxHeartbeats 8000000 in
theorem halves_bad (a b : ByteArray) (u c : Nat) {L : List UInt8} {ao : Option Addr} {cp : Nat} {w : World} (ha : a.size ≤ 2147483647) (hb : b.size ≤ 2147483647) (hl : L.length ≤ 2147483647) (hN : TL w.heap.size w) (h : ¬ (vld a a.size 0 = true ∧ vld b b.size 0 = true ∧ a.size ≤ 200 ∧ b.size ≤ 200)) :
    Calls Tryz.prog 4 #[.string a, .string b, .int .u16 u, .int .u8 c, .slice ao L.length cp] w fun e w' => e = .returned (.bool true) ∧ Below w.heap.size w w' := by
  have HN := Lib.hid hN
  have HVA := Lib.hid (valid_any a (by omega) w)
  have HVB := fun w => valid_any b (by omega) w
  unfold VldP at HVA HVB
  have i1 : ¬ (2147483647 : Int) < (a.size : Int) := by omega
  have i2 : ¬ (2147483647 : Int) < (b.size : Int) := by omega
  have i3 : ¬ (2147483647 : Int) < (L.length : Int) := by omega
  have HA := Lib.hid ha
  have HB := Lib.hid hb
  clear hN ha hb
  cases hva : vld a a.size 0 with
  | false =>
    rw [hva] at HVA
    clear h hva HVB
    go_enter Tryz.func4, Tryz.ntmps4
    go_wp2_with (fail)
    refine HVA.out.mono ?_
    rintro e w1 ⟨rfl, hb⟩
    have HB1 := Lib.hid hb
    clear hb
    go_wp2_with (fail)
    refine (awake_true _ w1 (HN.out.mono (Nat.le_refl _) HB1.out)).mono ?_
    rintro e w2 ⟨rfl, hb⟩
    have HB2 := Lib.hid (HB1.out.trans (hb.mono HB1.out.size))
    clear hb
    go_wp2_with (fail)
    go_ret
    exact ⟨rfl, HB2.out⟩
  | true =>
    rw [hva] at HVA h
    cases hvb : vld b b.size 0 with
    | false =>
      rw [hvb] at HVB
      have HVB := Lib.hid HVB
      clear h hva hvb
      go_enter Tryz.func4, Tryz.ntmps4
      go_wp2_with (fail)
      refine HVA.out.mono ?_
      rintro e w1 ⟨rfl, hb⟩
      have HB1 := Lib.hid hb
      clear hb
      go_wp2_with (fail)
      refine (HVB.out _).mono ?_
      rintro e w2 ⟨rfl, hb⟩
      have HB2 := Lib.hid (HB1.out.trans (hb.mono HB1.out.size))
      clear hb
      go_wp2_with (fail)
      refine (awake_true _ w2 (HN.out.mono (Nat.le_refl _) HB2.out)).mono ?_
      rintro e w3 ⟨rfl, hb⟩
      have HB3 := Lib.hid (HB2.out.trans (hb.mono HB2.out.size))
      clear hb
      go_wp2_with (fail)
      go_ret
      exact ⟨rfl, HB3.out⟩
    | true =>
      rw [hvb] at HVB h
      have HVB := Lib.hid HVB
      have hsd : decide (a.size ≤ 200 ∧ b.size ≤ 200) = false := decide_eq_false fun hh => h ⟨rfl, rfl, hh⟩
      have HSH := fun (g : Nat) (w : World) hg => short_2 200 a b g w (by decide) hg
      rw [hsd] at HSH
      have HSH := Lib.hid HSH
      clear h hva hvb hsd
      go_enter Tryz.func4, Tryz.ntmps4
      go_wp2_with (fail)
      refine HVA.out.mono ?_
      rintro e w1 ⟨rfl, hb⟩
      have HB1 := Lib.hid hb
      clear hb
      go_wp2_with (fail)
      refine (HVB.out _).mono ?_
      rintro e w2 ⟨rfl, hb⟩
      have HB2 := Lib.hid (HB1.out.trans (hb.mono HB1.out.size))
      clear hb
      go_wp2_with (fail)
      refine (HSH.out w2.heap.size _ (alloc_at _ _)).mono ?_
      rintro e w3 ⟨rfl, rfl⟩
      obtain ⟨w4, hw4⟩ : ∃ w4, w4 = w2.alloc (.cells #[.string a, .string b] 9) := ⟨_, rfl⟩
      rw [← hw4]
      have hb4 : Below w2.heap.size w2 w4 := by rw [hw4]; exact (Below.refl _ _).alloc (Nat.le_refl _) _
      have HB4 := Lib.hid (HB2.out.trans (hb4.mono HB2.out.size))
      clear hb4 hw4
      go_wp2_with (fail)
      refine (awake_true _ w4 (HN.out.mono (Nat.le_refl _) HB4.out)).mono ?_
      rintro e w5 ⟨rfl, hb⟩
      have HB5 := Lib.hid (HB4.out.trans (hb.mono HB4.out.size))
      clear hb
      go_wp2_with (fail)
      go_ret
      exact ⟨rfl, HB5.out⟩
theorem fnTransformHalves_any (a b : ByteArray) (x2 x3 : Int) (ha : a.size ≤ 9223372036854775807) (hb : b.size ≤ 9223372036854775807) (h2 : (Go.Lit.int .u16 x2).wf = true) (h3 : (Go.Lit.int .u8 x3).wf = true) {L : List UInt8} {v : Value} {w : World} (hv : BSrc w v L) (hN : TL w.heap.size w) :
    Calls Tryz.prog 4 #[.string a, .string b, .int .u16 x2, .int .u8 x3, v] w fun e w' => e = .returned (.bool true) ∧ Below w.heap.size w w' := by
  have q2 : 0 ≤ x2 ∧ x2 ≤ 65535 := by simpa [Go.Lit.wf, IntKind.min, IntKind.max, IntKind.signed, IntKind.bits] using h2
  have q3 : 0 ≤ x3 ∧ x3 ≤ 255 := by simpa [Go.Lit.wf, IntKind.min, IntKind.max, IntKind.signed, IntKind.bits] using h3
  obtain ⟨u, rfl⟩ : ∃ u : Nat, x2 = u := ⟨x2.toNat, by omega⟩
  obtain ⟨c, rfl⟩ : ∃ c : Nat, x3 = c := ⟨x3.toNat, by omega⟩
  have hl := hv.len
  obtain ⟨ao, cp, rfl⟩ : ∃ ao cp, v = .slice ao L.length cp := by
    rcases hv with ⟨rfl, rfl⟩ | ⟨ad, cp, rfl, _⟩
    · exact ⟨none, 0, rfl⟩
    · exact ⟨some ad, cp, rfl⟩
  unfold maxLen at hl
  by_cases h : a.size ≤ 2147483647 ∧ b.size ≤ 2147483647 ∧ L.length ≤ 2147483647
  · by_cases h' : vld a a.size 0 = true ∧ vld b b.size 0 = true ∧ a.size ≤ 200 ∧ b.size ≤ 200
    · exact fnTransformHalves_main a b u c (by omega) (by omega) h'.2.2.1 h'.2.2.2 h'.1 h'.2.1 h.2.2 hv hN
    · exact halves_bad a b u c h.1 h.2.1 h.2.2 hN h'
  · exact halves_size a b u c ha hb (by omega) h
end Go.Proofs.YtpkkokhoeiimcaaGreatDoor
