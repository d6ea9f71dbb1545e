/- laws.FnCanonTurned: the walk. -/
import Derived.Test.YtjganhmbjffjfaaGreatDoorZF
import Derived.Test.YtjganhmbjffjfaaGreatDoorA1
open Go Go.RowKit
namespace Go.Proofs.YtjganhmbjffjfaaGreatDoor
theorem bsrc_sl {w : World} {a : Value} {cs : List UInt8} (h : BSrc w a cs) : ∃ ao c, a = .slice ao cs.length c := by
  rcases h with ⟨rfl, rfl⟩ | ⟨ad, cp, rfl, _⟩
  · exact ⟨_, _, rfl⟩
  · exact ⟨_, _, rfl⟩
theorem addBl (a : Addr) (i : Nat) : (a.add i).block = a.block := by unfold Addr.add; split <;> rfl
theorem bsrc_low {w : World} {a : Value} {cs : List UInt8} (h : BSrc w a cs) : ∀ ad n c, a = .slice (some ad) n c → cs ≠ [] → ad.block < w.heap.size := by
  rintro ad n c rfl hne
  rcases h with ⟨h, _⟩ | ⟨ad', cp, h, _, hc⟩
  · cases h
  · cases h
    obtain ⟨x, l, rfl⟩ := List.exists_cons_of_ne_nil hne
    have := cell_lt (hc 0 x rfl)
    rw [addBl] at this
    exact this
theorem bsrc_apart {w : World} {v a : Value} {u : List UInt8} {b : Nat} {ao : Option Addr} {n c : Nat} {k : Int} (h : BSrc w v u) (ha : a = .slice ao n c) (hb : w.heap[b]? = some (.cells #[a, .int .i64 k] 36 (0, 0))) : ∀ ad n c, v = .slice (some ad) n c → u ≠ [] → ad.block ≠ b := by
  rintro ad n' c' rfl hne e
  rcases h with ⟨h, _⟩ | ⟨ad', cp, h, _, hc⟩
  · cases h
  · cases h
    obtain ⟨x, l, rfl⟩ := List.exists_cons_of_ne_nil hne
    have h0 := hc 0 x rfl
    have hk : (ad.add 0).block = b := by rw [addBl]; exact e
    unfold World.cell? at h0
    rw [hk, hb, ha] at h0
    simp only at h0
    split at h0
    · cases h0
    · rename_i hs
      match (ad.add 0).off, h0 with
      | 0, h0 => simp at h0
      | 1, h0 => simp at h0
      | o + 2, h0 => simp at h0
set_option maxRecDepth 100000 in
set_option maxHeartbeats 16000000 in
theorem fnCanonTurned_any {v a : Value} {t : VT} {cs : List UInt8} {w : World} (h : VR w v t) (ha : BSrc w a cs) (hN : TL w.heap.size w) : Calls Tryz.prog 4 #[v, a] w fun e w' => e = .returned (.bool true) ∧ Below w.heap.size w w' := by
  obtain ⟨kv, lv, rfl, _, _, h3, h4⟩ := h.ex
  obtain ⟨ko, kp, hk0, hkl⟩ := strR_slice h3
  obtain ⟨lo, lp, hl0, hll⟩ := lr_slice h4
  subst hk0 hl0
  obtain ⟨ao, ac, rfl⟩ := bsrc_sl ha
  obtain ⟨an, han⟩ : ∃ an, an = cs.length := ⟨_, rfl⟩
  rw [← han] at ha ⊢
  obtain ⟨k, hkk⟩ : ∃ k, k = t.kind := ⟨_, rfl⟩
  obtain ⟨x, hxx⟩ : ∃ x, x = t.text := ⟨_, rfl⟩
  obtain ⟨n, hn⟩ : ∃ n, n = t.list.length := ⟨_, rfl⟩
  obtain ⟨m, hm⟩ : ∃ m, m = t.keys.length := ⟨_, rfl⟩
  rw [← hkk, ← hxx, ← hn, ← hm] at h ⊢
  have HVR := Lib.hid h
  have HA := Lib.hid ha
  have HN := Lib.hid hN
  obtain ⟨B, hB⟩ : ∃ B, B = w.heap.size := ⟨_, rfl⟩
  obtain ⟨W1, hW1⟩ : ∃ W1, W1 = w.alloc (.cells #[.string k, .string x, .slice ko m kp, .slice lo n lp] 25) := ⟨_, rfl⟩
  have HB1 : Hid (Below w.heap.size w W1) := by rw [hW1]; exact Lib.hid ((Below.refl _ _).alloc (Nat.le_refl _) _)
  have HBS : Hid (B = w.heap.size) := Lib.hid hB
  have HS1 : Hid (W1.heap.size = B + 1) := by rw [hW1, World.size_alloc, hB]; exact Lib.hid rfl
  have HC : Hid (∀ W, Below W1.heap.size W1 W → VB B k x (.slice ko m kp) (.slice lo n lp) W) := by
    intro W hb
    have hc : W.heap[B]? = some (.cells #[.string k, .string x, .slice ko m kp, .slice lo n lp] 25 (0, 0)) := by
      rw [hb.block B (by rw [HS1.out]; omega), hW1, hB]; exact alloc_at _ _
    refine ⟨?_, ?_, ?_, ?_⟩ <;> simp [World.cell?, hc]
  have HS2 : Hid (∀ W, Below W1.heap.size W1 W → Below w.heap.size w W) := fun W hb => HB1.out.trans (hb.mono (by rw [HS1.out, HBS.out]; omega))
  have HAW : Hid (∀ W, Below W1.heap.size W1 W → Calls Tryz.prog 12 #[] W fun e w' => e = .returned (.bool true) ∧ Below W.heap.size W w') := by
    intro W hb
    exact awake_true _ W (HN.out.mono (Nat.le_refl _) (HS2.out W hb))
  have HF : Hid (Calls Tryz.prog 9 #[.agg #[.string k, .string x, .slice ko m kp, .slice lo n lp]] W1 (SomeB W1)) := Lib.hid (fits1_some (HVR.out.stay HB1.out))
  unfold SomeB at HF
  have HWL : Hid (∀ W, Below W1.heap.size W1 W → Calls Tryz.prog 10 #[.agg #[.string k, .string x, .slice ko m kp, .slice lo n lp]] W (WhP (∃ n, n ≤ 80 ∧ PT t n) W)) := Lib.hid fun W hb => well_pt (HVR.out.stay (HS2.out W hb))
  unfold WhP at HWL
  have HWH : Hid (∀ q, PT t q → ∀ W, Below W1.heap.size W1 W → Calls Tryz.prog 11 #[.agg #[.string k, .string x, .slice ko m kp, .slice lo n lp]] W (WhP (∃ u, CanT t u ∧ u.length ≤ 80000 * q) W)) := Lib.hid fun q hq W hb => whole_can hq W _ (HVR.out.stay (HS2.out W hb))
  unfold WhP at HWH
  have HW1 := Lib.hid hW1
  have HAN := Lib.hid han
  clear h h3 h4 ha hN hkk hxx hn hm hB hW1 hkl hll han
  obtain ⟨c0, c1, c2, c3⟩ := HC.out W1 (Below.refl _ _)
  go_enter Tryz.func4, Tryz.ntmps4
  go_wp2_with (fail)
  rw [← HBS.out, ← HW1.out]
  (with_reducible refine HF.out.mono ?_)
  rintro e w2 ⟨b, rfl, hb⟩
  have HB2 := Lib.hid hb
  clear hb c0 c1 c2 c3
  obtain ⟨c0, c1, c2, c3⟩ := HC.out w2 HB2.out
  cases b with
  | false =>
    go_wp2_with (fail)
    go_ret
    exact ⟨rfl, HS2.out _ HB2.out⟩
  | true =>
  by_cases hbig : 2147483647 < an
  · have z1 : decide ((2147483647 : Int) < (an : Int)) = true := decide_eq_true (by omega)
    clear hbig
    go_wp2_with (fail)
    go_ret
    exact ⟨rfl, HS2.out _ HB2.out⟩
  have z1 : decide ((2147483647 : Int) < (an : Int)) = false := decide_eq_false (by omega)
  clear hbig
  go_upto_region 3 with (fail)
  go_cut [25] (fun b wx => ∃ y : Bool, b = .bool y ∧ Hid (Below W1.heap.size W1 wx) ∧ Hid (y = false → ∃ (q : Nat) (u : List UInt8), q ≤ 80 ∧ PT t q ∧ CanT t u ∧ u.length ≤ 80000 * q))
  case first =>
    as_aux_lemma =>
      have HT : Hid (true = false → ∃ (q : Nat) (u : List UInt8), q ≤ 80 ∧ PT t q ∧ CanT t u ∧ u.length ≤ 80000 * q) := Lib.hid fun h => by cases h
      go_wp2_with (fail)
      (with_reducible refine (HWL.out _ HB2.out).mono ?_)
      rintro e w3 ⟨b, rfl, hb, hpt⟩
      have HPT := Lib.hid hpt
      have HB3 := Lib.hid (HB2.out.trans (hb.mono HB2.out.size))
      clear hb hpt c0 c1 c2 c3
      obtain ⟨c0, c1, c2, c3⟩ := HC.out w3 HB3.out
      cases b with
      | false =>
        go_wp2_with (fail)
        go_meet
        case rel => exact ⟨_, rfl, HB3, HT⟩
      | true =>
      obtain ⟨q, hq80, hq⟩ := HPT.out rfl
      have HQ := Lib.hid (And.intro hq80 hq)
      clear hq80 hq
      go_wp2_with (fail)
      (with_reducible refine (HWH.out q HQ.out.2 _ HB3.out).mono ?_)
      rintro e w4 ⟨b, rfl, hb, hcan⟩
      have HCAN := Lib.hid hcan
      have HB4 := Lib.hid (HB3.out.trans (hb.mono HB3.out.size))
      clear hb hcan c0 c1 c2 c3
      cases b with
      | false =>
        go_wp2_with (fail)
        go_meet
        case rel => exact ⟨_, rfl, HB4, HT⟩
      | true =>
      obtain ⟨u, hu1, hu2⟩ := HCAN.out rfl
      have HU := Lib.hid (And.intro hu1 hu2)
      clear hu1 hu2
      go_wp2_with (fail)
      go_meet
      case rel => exact ⟨_, rfl, HB4, Lib.hid fun _ => ⟨q, u, HQ.out.1, HQ.out.2, HU.out.1, HU.out.2⟩⟩
  case rest =>
  obtain ⟨wz, rfl⟩ : ∃ wz, wz = wc := ⟨_, rfl⟩
  obtain ⟨y, rfl, HB4, HFF⟩ := hcut
  clear c0 c1 c2 c3 z1
  cases y with
  | true =>
    go_wp2_with (fail)
    (with_reducible refine (HAW.out _ HB4.out).mono ?_)
    rintro e w9 ⟨rfl, hb⟩
    have HB9 := Lib.hid (HB4.out.trans (hb.mono HB4.out.size))
    clear hb
    go_wp2_with (fail)
    go_ret
    exact ⟨rfl, HS2.out _ HB9.out⟩
  | false =>
  obtain ⟨q, u, hq80, hpt, hcan, hul⟩ := HFF.out rfl
  have hu32 : u.length ≤ 4294967296 := by omega
  obtain ⟨b, hbb⟩ : ∃ b, b = wz.heap.size := ⟨_, rfl⟩
  obtain ⟨W5, hW5⟩ : ∃ W5, W5 = wz.alloc (.cells #[.slice ao an ac, .int .i64 0] 36) := ⟨_, rfl⟩
  have hway5 : W5.heap[b]? = some (.cells #[.slice ao an ac, .int .i64 ((0 : Nat) : Int)] 36 (0, 0)) := by rw [hW5, hbb]; exact alloc_at wz _
  have hb5 : Below wz.heap.size wz W5 := by rw [hW5]; exact (Below.refl _ _).alloc (Nat.le_refl _) _
  have hs5 : W5.heap.size = b + 1 := by rw [hW5, World.size_alloc, hbb]
  have HB5 : Hid (Below W1.heap.size W1 W5) := Lib.hid (HB4.out.trans (hb5.mono HB4.out.size))
  have HBL : Hid (w.heap.size ≤ b ∧ W1.heap.size ≤ b) := Lib.hid ⟨by rw [hbb]; exact (HS2.out wz HB4.out).size, by rw [hbb]; exact HB4.out.size⟩
  have HU := Lib.hid (And.intro hq80 (And.intro hpt (And.intro hcan hu32)))
  have HW5 := Lib.hid (And.intro hway5 hs5)
  have HE5 := Lib.hid hW5
  have HBB := Lib.hid hbb
  have HCX := Lib.hid (canon_x hcan hu32 (HVR.out.stay (HS2.out W5 HB5.out)))
  clear hq80 hpt hcan hul hu32 hway5 hb5 hs5 hW5 hbb
  go_upto_region 6 with (fail)
  rw [← HE5.out, ← HBB.out]
  obtain ⟨c0, c1, c2, c3⟩ := HC.out W5 HB5.out
  go_wp2_with (fail)
  (with_reducible refine HCX.out.mono ?_)
  rintro e w6 ⟨b1, rfl, hbs1, hb6⟩
  have HB6 : Hid (Below W1.heap.size W1 w6) := Lib.hid (HB5.out.trans (hb6.mono HB5.out.size))
  have hway6 : w6.heap[b]? = some (.cells #[.slice ao an ac, .int .i64 ((0 : Nat) : Int)] 36 (0, 0)) := by rw [hb6.block b (by rw [HW5.out.2]; omega)]; exact HW5.out.1
  have hs6 : b < w6.heap.size := by have := hb6.size; have := HW5.out.2; omega
  have HTU := Lib.hid (turned_any HU.out.2.1 w w6 _ b 0 (.slice ao an ac) cs HVR.out (HS2.out w6 HB6.out) HBL.out.1 hs6 hway6 (HA.out.stay (HS2.out w6 HB6.out)) (fun ad n c e hne => by have := bsrc_low HA.out ad n c e hne; have := HBL.out.1; omega) (by have := HU.out.1; omega))
  have HS6 := Lib.hid (And.intro hbs1 (And.intro hs6 (bsrc_apart hbs1 rfl hway6)))
  unfold TnP at HTU
  clear c0 c1 c2 c3 hbs1 hb6 hway6 hs6
  obtain ⟨c0, c1, c2, c3⟩ := HC.out w6 HB6.out
  go_wp2_with (fail)
  (with_reducible refine HTU.out.mono ?_)
  rintro e w7 ⟨t', k1, l1, k2, k3, l2, l3, k', rfl, ht, hr, _, _, hf⟩
  have HB7 : Hid (Below W1.heap.size W1 w7) := Lib.hid (HB6.out.trans (hf.toBelow HBL.out.2 HB6.out.size))
  have HS7 := Lib.hid (HS6.out.1.fr hf HS6.out.2.2)
  have HCY := Lib.hid (canon_x (can_turn HU.out.2.2.1 t' ht) HU.out.2.2.2 (hr.2 w7 fun _ _ _ => rfl))
  clear ht hr hf c0 c1 c2 c3
  go_wp2_with (fail)
  (with_reducible refine HCY.out.mono ?_)
  rintro e w8 ⟨b2, rfl, hbs2, hb8⟩
  have HB8 : Hid (Below W1.heap.size W1 w8) := Lib.hid (HB7.out.trans (hb8.mono HB7.out.size))
  obtain ⟨U, hU⟩ : ∃ U : ByteArray, U = ⟨u.toArray⟩ := ⟨_, rfl⟩
  have hcv1 := (HS7.out.stay hb8).conv
  have hcv2 := hbs2.conv
  rw [← hU] at hcv1 hcv2
  have HA2 := Lib.hid (HAW.out w8 HB8.out)
  clear hU hbs2 hb8
  go_wp2_with (fail)
  (with_reducible refine HA2.out.mono ?_)
  rintro e we ⟨rfl, hb⟩
  have HBE := Lib.hid (HB8.out.trans (hb.mono HB8.out.size))
  clear hb
  go_wp2_with (fail)
  go_ret
  exact ⟨rfl, HS2.out _ HBE.out⟩
end Go.Proofs.YtjganhmbjffjfaaGreatDoor
