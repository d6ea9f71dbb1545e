/- laws.FnPathStars. Printed by gen_FS.py. -/
import Derived.Test.YtpanemfpipcggaaGreatDoorFL
import Derived.Test.YtpanemfpipcggaaGreatDoorF9
open Go Go.RowKit
namespace Go.Proofs.YtpanemfpipcggaaGreatDoor
/-- No * and no ?. -/
def keepC (c : UInt8) : Bool := c != 42 && c != 63
/-- A part of a pattern that the law takes. -/
def patB (l : List UInt8) : Bool := segB (120 :: l.filter keepC) && decide (l.length ≤ 40) && !l.isEmpty
theorem patB_out {l : List UInt8} (h : patB l = true) : (∀ x ∈ l, x ≠ 47 ∧ x ≠ 91 ∧ x ≠ 92 ∧ x ≠ 93) ∧ l.length ≤ 40 := by
  unfold patB at h
  simp only [Bool.and_eq_true, decide_eq_true_eq] at h
  refine ⟨fun x hx => ?_, h.1.2⟩
  by_cases hk : keepC x = true
  · have := plC_ne ((segB_out h.1.1).1 x (List.mem_cons_of_mem _ (List.mem_filter.2 ⟨hx, hk⟩)))
    exact ⟨this.1, this.2.2.2.1, this.2.2.2.2.1, this.2.2.2.2.2.1⟩
  · unfold keepC at hk
    simp only [Bool.and_eq_true, bne_iff_ne, ne_eq, not_and, Classical.not_not] at hk
    by_cases h42 : x = 42
    · subst h42; decide
    · have := hk h42; subst this; decide
theorem keep_take {s : ByteArray} {k : Nat} (hk : k < s.size) : (s.data.toList.take (k + 1)).filter keepC = (s.data.toList.take k).filter keepC ++ (if keepC s[k] = true then [s[k]] else []) := by
  rw [List.take_add_one, bs_get s k hk, List.filter_append]
  congr 1
  by_cases h : keepC s[k] = true
  · simp [h]
  · simp [h]
theorem ext_one {s : ByteArray} {k : Nat} (hk : k < s.size) : s.extract k (k + 1) = bs [s[k]] := by
  rw [bs_ext]
  congr 1
  have := bs_get s k hk
  obtain ⟨h1, h2⟩ := List.getElem?_eq_some_iff.1 this
  rw [List.drop_eq_getElem_cons h1, h2, show k + 1 - k = 1 by omega]
  rfl
/-- The head of the loop that puts a pattern together. -/
structure PtR (L : List (List UInt8)) (k : Nat) (v : Value) : Prop where
  txt : v = .string (bs (joinS (L.take k)))
  seg : ∀ a ∈ L.take k, patB a = true
theorem PtR.next {L : List (List UInt8)} {k : Nat} {v : Value} {s : ByteArray} (h : PtR L k v) (hs : L[k]? = some s.data.toList) (hq : patB s.data.toList = true) : PtR L (k + 1) (.string (if k = 0 then bs (joinS (L.take k)) ++ s else bs (joinS (L.take k)) ++ ⟨#[47]⟩ ++ s)) := by
  refine ⟨?_, fun a ha => ?_⟩
  · rw [join_take hs]
    by_cases h0 : k = 0
    · subst h0
      rw [if_pos rfl, if_pos rfl]
      conv => lhs; rw [← bs_of s, bs_append]
      simp [joinS]
    · rw [if_neg h0, if_neg h0, bs_slash]
      conv => lhs; rw [← bs_of s, bs_append]
  · rw [List.take_add_one, hs] at ha
    rcases List.mem_append.1 ha with ha | ha
    · exact h.seg a ha
    · rw [Option.toList_some, List.mem_singleton] at ha; rw [ha]; exact hq
theorem pat_take_len {L : List (List UInt8)} (h : ∀ a ∈ L, patB a = true) (hl : L.length ≤ 10) : (joinS L).length ≤ 610 := by
  have := join_len L 40 fun a ha => (patB_out (h a ha)).2
  have h2 : L.length * (40 + 1) ≤ 10 * (40 + 1) := Nat.mul_le_mul_right _ hl
  omega
theorem pat_quiet {L : List (List UInt8)} (h : ∀ a ∈ L, patB a = true) : QuietL (joinS L) := by
  intro x hx
  rcases join_mem L x hx with rfl | ⟨a, ha, hx⟩
  · decide
  · exact ((patB_out (h a ha)).1 x hx).2
theorem tip_want {L M : List (List UInt8)} (hl : L ≠ []) (hm : M ≠ []) (h1 : ∀ a ∈ L, patB a = true) (h2 : ∀ a ∈ M, segB a = true) : tipB (joinS M) (joinS L) = wantB M L M.length :=
  want_end hm hl (fun a ha x hx => (plC_ne ((segB_out (h2 a ha)).1 x hx)).1) (fun a ha x hx => ((patB_out (h1 a ha)).1 x hx).1)
theorem want_no {l m : List (List UInt8)} {k : Nat} {a : List UInt8} (ha : l[k]? = some a) (h : wantB l m k = false) : wantB l m (k + 1) = false := by
  by_cases he : m.length = l.length
  · have h1 := (List.getElem?_eq_some_iff.1 ha).1
    rw [want_step ha (List.getElem?_eq_getElem (show k < m.length by omega)), h, Bool.false_and]
  · exact want_off he _
set_option maxRecDepth 100000 in
set_option maxHeartbeats 16000000 in
theorem fnPathStars_any {v0 v1 : Value} {l0 l1 : List ByteArray} {w : World} (h0 : StrR w v0 l0) (h1 : StrR w v1 l1) (hN : TL w.heap.size w) :
    Calls Tryz.prog 8 #[v0, v1] w fun e w' => e = .returned (.bool true) ∧ Below w.heap.size w w' := by
  have HF0 := Lib.hid (fits2_strR h0)
  have HF1 := Lib.hid (fits2_strR h1)
  obtain ⟨ao, cp, rfl, hlen0, hcell0⟩ := strR_open h0
  obtain ⟨ap, cq, rfl, hlen1, hcell1⟩ := strR_open h1
  have HC0 := Lib.hid hcell0
  have HC1 := Lib.hid hcell1
  have HAW : Hid (∀ W, Below w.heap.size w W → Calls Tryz.prog 14 #[] W fun e w' => e = .returned (.bool true) ∧ Below w.heap.size w w') := by
    refine Lib.hid fun W hb => (awake_true _ W (hN.mono (Nat.le_refl _) hb)).mono fun _ _ h => ⟨h.1, hb.trans (h.2.mono hb.size)⟩
  obtain ⟨n, hn⟩ : ∃ n, n = l0.length := ⟨_, rfl⟩
  obtain ⟨m, hm⟩ : ∃ m, m = l1.length := ⟨_, rfl⟩
  have HN := Lib.hid hn
  have HM := Lib.hid hm
  rw [← hn] at hlen0 HF0
  rw [← hm] at hlen1 HF1
  rw [← hn, ← hm]
  clear h0 h1 hcell0 hcell1 hN hn hm
  obtain ⟨L, hL⟩ : ∃ L, L = l0.map (·.data.toList) := ⟨_, rfl⟩
  obtain ⟨M, hM⟩ : ∃ M, M = l1.map (·.data.toList) := ⟨_, rfl⟩
  have HL := Lib.hid hL
  have HMM := Lib.hid hM
  have HLn : Hid (L.length = n) := Lib.hid (by rw [hL, List.length_map, ← HN.out])
  have HMn : Hid (M.length = m) := Lib.hid (by rw [hM, List.length_map, ← HM.out])
  clear hL hM
  obtain ⟨β0, hβ0⟩ : ∃ β0, β0 = wantB M L 0 := ⟨_, rfl⟩
  have HB0 := Lib.hid hβ0
  have e45 : ((n : Int) == (m : Int)) = β0 := by
    rw [hβ0, want_zero, HLn.out, HMn.out, Bool.eq_iff_iff]
    simp only [beq_iff_eq, decide_eq_true_eq]
    omega
  clear hβ0
  go_enter Tryz.func8, Tryz.ntmps8
  go_upto_if 21 with (first
    | (go_at_call 20; (with_reducible refine HF0.out.mono ?_); rintro e w' ⟨b, rfl, rfl⟩; cases b)
    | (go_at_call 20; (with_reducible refine HF1.out.mono ?_); rintro e w' ⟨b, rfl, rfl⟩; cases b))
  · go_wp2_with (fail)
    go_ret
    exact ⟨rfl, Below.refl _ _⟩
  · go_wp2_with (fail)
    go_ret
    exact ⟨rfl, Below.refl _ _⟩
  by_cases hn0 : n = 0
  · have e1 : ((n : Int) == 0) = true := by rw [beq_iff_eq]; omega
    clear hn0 e45
    go_wp2_with (go_at_call 14; refine (HAW.out _ (Below.refl _ _)).mono ?_; rintro e wz ⟨rfl, hbz⟩)
    go_ret
    exact ⟨rfl, hbz⟩
  have e1 : ((n : Int) == 0) = false := by rw [beq_eq_false_iff_ne]; omega
  by_cases hn1 : 8 < n
  · have d1 : decide ((8 : Int) < (n : Int)) = true := decide_eq_true (by omega)
    go_wp2_with (go_at_call 14; refine (HAW.out _ (Below.refl _ _)).mono ?_; rintro e wz ⟨rfl, hbz⟩)
    go_ret
    exact ⟨rfl, hbz⟩
  have d1 : decide ((8 : Int) < (n : Int)) = false := decide_eq_false (by omega)
  by_cases hm0 : m = 0
  · have e2 : ((m : Int) == 0) = true := by rw [beq_iff_eq]; omega
    clear hm0 e45
    go_wp2_with (go_at_call 14; refine (HAW.out _ (Below.refl _ _)).mono ?_; rintro e wz ⟨rfl, hbz⟩)
    go_ret
    exact ⟨rfl, hbz⟩
  have e2 : ((m : Int) == 0) = false := by rw [beq_eq_false_iff_ne]; omega
  by_cases hm1 : 8 < m
  · have d2 : decide ((8 : Int) < (m : Int)) = true := decide_eq_true (by omega)
    go_wp2_with (go_at_call 14; refine (HAW.out _ (Below.refl _ _)).mono ?_; rintro e wz ⟨rfl, hbz⟩)
    go_ret
    exact ⟨rfl, hbz⟩
  have d2 : decide ((8 : Int) < (m : Int)) = false := decide_eq_false (by omega)
  have hn2 : 1 ≤ n ∧ n ≤ 8 := ⟨by omega, by omega⟩
  have hm2 : 1 ≤ m ∧ m ≤ 8 := ⟨by omega, by omega⟩
  clear hn0 hn1 hm0 hm1
  go_wp2_with (fail)
  clear e45
  go_loopg [5, 48] n (fun g v x wr => ∃ (k : Nat) (P : ByteArray), k + g = n ∧ x = .int .i64 k ∧ v = .string P ∧ P.size ≤ 610 ∧ Hid (PtR L k (.string P)) ∧ w = wr)
  case atStart => exact ⟨0, ⟨#[]⟩, by omega, rfl, rfl, by decide, Lib.hid ⟨rfl, fun a ha => by simp at ha⟩, rfl⟩
  case round =>
    obtain ⟨k, P, hk, rfl, rfl, hps, HS, rfl⟩ := hrel
    cases gk with
    | zero =>
      have hkn : ¬ (k : Int) < (n : Int) := by omega
      have HT : Hid (L.take k = L) := Lib.hid (List.take_of_length_le (by rw [HLn.out]; omega))
      have HSL : Hid (∀ a ∈ L, patB a = true) := Lib.hid (by have := HS.out.seg; rwa [HT.out] at this)
      have HQE : Hid (P = bs (joinS L)) := Lib.hid (by have := HS.out.txt; rw [HT.out] at this; injection this)
      clear hk HT HS
      obtain ⟨Q, hQ⟩ : ∃ Q, Q = P := ⟨_, rfl⟩
      subst hQ
      go_wp2_with (fail)
      rw [HB0.out]
      go_loopg [6, 7, 99] m (fun g v b x wr => ∃ (k : Nat) (P : ByteArray), k + g = m ∧ x = .int .i64 k ∧ v = .string P ∧ b = .bool (wantB M L k) ∧ P.size ≤ 610 ∧ Hid (SgR M k (.string P)) ∧ Hid (Below w.heap.size w wr))
      case atStart => exact ⟨0, ⟨#[]⟩, by omega, rfl, rfl, rfl, by decide, Lib.hid ⟨rfl, fun a ha => by simp at ha⟩, Lib.hid (Below.refl _ _)⟩
      case round =>
        obtain ⟨k, P, hk, rfl, rfl, rfl, hps, HS, HB⟩ := hrel
        cases gk with
        | zero =>
          have hkn : ¬ (k : Int) < (m : Int) := by omega
          have HT : Hid (M.take k = M) := Lib.hid (List.take_of_length_le (by rw [HMn.out]; omega))
          have HSM : Hid (∀ a ∈ M, segB a = true) := Lib.hid (by have := HS.out.seg; rwa [HT.out] at this)
          have HPE : Hid (P = bs (joinS M)) := Lib.hid (by have := HS.out.txt; rw [HT.out] at this; injection this)
          have HKM : Hid (k = M.length) := Lib.hid (by rw [HMn.out]; omega)
          have HLN : Hid (L ≠ []) := Lib.hid (by intro e; have := HLn.out; rw [e] at this; simp at this; omega)
          have HMN : Hid (M ≠ []) := Lib.hid (by intro e; have := HMn.out; rw [e] at this; simp at this; omega)
          have HQD : Hid (Q.data.toList = joinS L) := Lib.hid (by rw [HQE.out, bs_data])
          have HPD : Hid (P.data.toList = joinS M) := Lib.hid (by rw [HPE.out, bs_data])
          have hlL := pat_take_len HSL.out (by rw [HLn.out]; omega)
          have hlM := seg_take_len HSM.out (by rw [HMn.out]; omega)
          obtain ⟨β, hβ⟩ : ∃ β, β = wantB M L k := ⟨_, rfl⟩
          rw [← hβ]
          obtain ⟨W2, hW2⟩ : ∃ W2, W2 = wr.alloc (.cells #[.string Q] 9) := ⟨_, rfl⟩
          have HB2 : Hid (Below w.heap.size w W2) := by rw [hW2]; exact Lib.hid (HB.out.alloc HB.out.size _)
          have HD1 : Hid (Calls Tryz.prog 22 #[.agg #[.string ⟨#[114]⟩, .slice none 0 0, .int .i64 0, .bool false, .slice (some ⟨wr.heap.size, 0, none⟩) 1 1, .slice none 0 0], .string P] W2 (BoolP β W2)) := by
            have := delegated_any (nm := ⟨#[114]⟩) (thr := 0) (tm := false) (t := P) (txt_one wr Q) (by simp) (fun a ha => by rw [List.mem_singleton.1 ha, HQD.out]; exact ⟨pat_quiet HSL.out, by omega⟩) (by rw [HPD.out]; exact (seg_ascii HSM.out).1) (by rw [← bs_size_eq, HPD.out]; omega)
            rw [← hW2, List.any_cons, List.any_nil, Bool.or_false, HPD.out, HQD.out, tip_want HLN.out HMN.out HSL.out HSM.out, ← HKM.out, ← hβ] at this
            exact Lib.hid this
          have HW2 := Lib.hid hW2
          unfold BoolP at HD1
          clear hW2 hβ hlL hlM hk
          cases β <;> (
            go_wp2_with (first
              | (go_at_call 22; rw [← HW2.out]; refine HD1.out.mono ?_; rintro e w3 ⟨rfl, hb⟩; have HB3 := Lib.hid (HB2.out.trans (hb.mono HB2.out.size)); clear hb)
              | (go_at_call 14; refine (HAW.out _ HB3.out).mono ?_; rintro e w5 ⟨rfl, hbz⟩))
            go_ret
            exact ⟨rfl, hbz⟩)
        | succ g =>
          have hlt : k < m := by omega
          have hk1 : k + 1 + g = m := by omega
          have HK1 := Lib.hid hk1
          have hki : (k : Int) < (m : Int) := by omega
          have hk10 : k + 1 ≤ 10 := by omega
          obtain ⟨s, hs⟩ : ∃ s, l1[k]? = some s := ⟨_, List.getElem?_eq_getElem (by rw [← HM.out]; exact hlt)⟩
          obtain ⟨ad, rfl, c0, hss⟩ := HC1.out wr HB.out k s hs
          have hLs : M[k]? = some s.data.toList := by rw [HMM.out, List.getElem?_map, hs]; rfl
          have HLS := Lib.hid hLs
          have HSEG := fun w => Lib.hid (segment_any s (by omega) w)
          unfold TellP at HSEG
          clear hk hk1 hs hLs
          go_upto_if 106 with (go_at_call 21; refine (HSEG _).out.mono ?_; rintro e w' ⟨⟨b, rfl, hq⟩, rfl⟩; cases b)
          · clear hq
            go_wp2_with (go_at_call 14; refine (HAW.out _ HB.out).mono ?_; rintro e wz ⟨rfl, hbz⟩)
            go_ret
            exact ⟨rfl, hbz⟩
          have HSQ := Lib.hid (hq (by first | rfl | trivial))
          have hs60 : s.size ≤ 60 := by have := (segB_out HSQ.out).2.2; rw [bs_size_eq] at this; exact this
          have HNX := Lib.hid (HS.out.next HLS.out HSQ.out)
          have HPN : Hid (∀ Q : ByteArray, Value.string (if k = 0 then bs (joinS (M.take k)) ++ s else bs (joinS (M.take k)) ++ ⟨#[47]⟩ ++ s) = .string Q → Q.size ≤ 610) := Lib.hid (fun Q hQ => by
            have h1 := HNX.out.txt
            rw [hQ] at h1
            injection h1 with h1
            rw [h1, bs_size]
            exact seg_take_len HNX.out.seg (by rw [List.length_take]; omega))
          have HPE : Hid (P = bs (joinS (M.take k))) := Lib.hid (by have := HS.out.txt; injection this)
          have hz0 : ¬ 9223372036854775807 < P.size + 1 := by omega
          have hz1 : ¬ 9223372036854775807 < P.size + 1 + s.size := by omega
          have hz2 : ¬ 9223372036854775807 < P.size + s.size := by omega
          clear hq
          by_cases hk0 : k = 0
          · have i0 : ¬ (0 : Int) < (k : Int) := by omega
            rw [if_pos hk0, ← HPE.out] at HNX HPN
            clear hk0
            by_cases hwt : wantB M L k = true
            · have hLM : L.length = M.length := by
                by_cases he : L.length = M.length
                · exact he
                · rw [want_off he] at hwt; cases hwt
              have hkn' : k < n := by rw [← HLn.out, hLM, HMn.out]; exact hlt
              obtain ⟨p, hp⟩ : ∃ p, l0[k]? = some p := ⟨_, List.getElem?_eq_getElem (by rw [← HN.out]; exact hkn')⟩
              obtain ⟨ad0, rfl, c1, hps2⟩ := HC0.out wr HB.out k p hp
              have hLp : L[k]? = some p.data.toList := by rw [HL.out, List.getElem?_map, hp]; rfl
              have hp40 : p.size ≤ 40 := by have := (patB_out (HSL.out _ (List.mem_of_getElem? hLp))).2; rw [bs_size_eq] at this; exact this
              have HMA := fun w => Lib.hid (matches_any (p := p) (s := s) (by omega) (by omega) w)
              have HWN : Hid (wantB M L (k + 1) = matB p.data.toList s.data.toList) := Lib.hid (by rw [want_step HLS.out hLp, hwt, Bool.true_and])
              have HWT : Hid (wantB M L k = true) := Lib.hid hwt
              have hkni : (k : Int) < (n : Int) := by omega
              obtain ⟨μ, hμ⟩ : ∃ μ, μ = matB p.data.toList s.data.toList := ⟨_, rfl⟩
              rw [← hμ] at HMA HWN
              rw [HWT.out]
              clear hwt hLM hp hLp hμ
              go_wp2_with (go_at_call 24; refine (HMA _).out.mono ?_; rintro e wm ⟨rfl, hb⟩; have HB7 := Lib.hid (HB.out.trans (hb.mono HB.out.size)); clear hb)
              go_roundg g
              case measure => omega
              case rel => exact ⟨k + 1, _, HK1.out, by first | rfl | go_num, rfl, by rw [HWN.out], HPN.out _ rfl, HNX, HB7⟩
            · have hwf : wantB M L k = false := by simpa using hwt
              have HWN : Hid (wantB M L (k + 1) = false) := Lib.hid (want_no HLS.out hwf)
              rw [hwf]
              clear hwt hwf
              go_wp2_with (fail)
              go_roundg g
              case measure => omega
              case rel => exact ⟨k + 1, _, HK1.out, by first | rfl | go_num, rfl, by rw [HWN.out], HPN.out _ rfl, HNX, HB⟩
          · have i0 : (0 : Int) < (k : Int) := by omega
            rw [if_neg hk0, ← HPE.out] at HNX HPN
            clear hk0
            by_cases hwt : wantB M L k = true
            · have hLM : L.length = M.length := by
                by_cases he : L.length = M.length
                · exact he
                · rw [want_off he] at hwt; cases hwt
              have hkn' : k < n := by rw [← HLn.out, hLM, HMn.out]; exact hlt
              obtain ⟨p, hp⟩ : ∃ p, l0[k]? = some p := ⟨_, List.getElem?_eq_getElem (by rw [← HN.out]; exact hkn')⟩
              obtain ⟨ad0, rfl, c1, hps2⟩ := HC0.out wr HB.out k p hp
              have hLp : L[k]? = some p.data.toList := by rw [HL.out, List.getElem?_map, hp]; rfl
              have hp40 : p.size ≤ 40 := by have := (patB_out (HSL.out _ (List.mem_of_getElem? hLp))).2; rw [bs_size_eq] at this; exact this
              have HMA := fun w => Lib.hid (matches_any (p := p) (s := s) (by omega) (by omega) w)
              have HWN : Hid (wantB M L (k + 1) = matB p.data.toList s.data.toList) := Lib.hid (by rw [want_step HLS.out hLp, hwt, Bool.true_and])
              have HWT : Hid (wantB M L k = true) := Lib.hid hwt
              have hkni : (k : Int) < (n : Int) := by omega
              obtain ⟨μ, hμ⟩ : ∃ μ, μ = matB p.data.toList s.data.toList := ⟨_, rfl⟩
              rw [← hμ] at HMA HWN
              rw [HWT.out]
              clear hwt hLM hp hLp hμ
              go_wp2_with (go_at_call 24; refine (HMA _).out.mono ?_; rintro e wm ⟨rfl, hb⟩; have HB7 := Lib.hid (HB.out.trans (hb.mono HB.out.size)); clear hb)
              go_roundg g
              case measure => omega
              case rel => exact ⟨k + 1, _, HK1.out, by first | rfl | go_num, rfl, by rw [HWN.out], HPN.out _ rfl, HNX, HB7⟩
            · have hwf : wantB M L k = false := by simpa using hwt
              have HWN : Hid (wantB M L (k + 1) = false) := Lib.hid (want_no HLS.out hwf)
              rw [hwf]
              clear hwt hwf
              go_wp2_with (fail)
              go_roundg g
              case measure => omega
              case rel => exact ⟨k + 1, _, HK1.out, by first | rfl | go_num, rfl, by rw [HWN.out], HPN.out _ rfl, HNX, HB⟩
    | succ g =>
      have hlt : k < n := by omega
      have hk1 : k + 1 + g = n := by omega
      have HK1 := Lib.hid hk1
      have hki : (k : Int) < (n : Int) := by omega
      have hk10 : k + 1 ≤ 10 := by omega
      obtain ⟨s, hs⟩ : ∃ s, l0[k]? = some s := ⟨_, List.getElem?_eq_getElem (by rw [← HN.out]; exact hlt)⟩
      obtain ⟨ad, rfl, c0, hss⟩ := HC0.out w (Below.refl _ _) k s hs
      have hLs : L[k]? = some s.data.toList := by rw [HL.out, List.getElem?_map, hs]; rfl
      have HLS := Lib.hid hLs
      clear hk hk1 hs hLs
      go_wp2_with (fail)
      go_loopg [10, 11] s.size (fun g2 vb vi wr => ∃ (j : Nat) (B : ByteArray), j + g2 = s.size ∧ vi = .int .i64 j ∧ vb = .string B ∧ B.size ≤ j + 1 ∧ Hid (B = bs (120 :: (s.data.toList.take j).filter keepC)) ∧ w = wr)
      case atStart => exact ⟨0, ⟨#[120]⟩, by omega, rfl, rfl, by decide, Lib.hid rfl, rfl⟩
      case round =>
        obtain ⟨j, B, hj, rfl, rfl, hBs, HBB, rfl⟩ := hrel
        cases gk with
        | zero =>
          have hjn : ¬ (j : Int) < (s.size : Int) := by omega
          have HBD : Hid (B.data.toList = 120 :: s.data.toList.filter keepC) := Lib.hid (by rw [HBB.out, bs_data, List.take_of_length_le (by rw [bs_size_eq]; omega)])
          have HSEG := fun w => Lib.hid (segment_any B (by omega) w)
          unfold TellP at HSEG
          clear hj
          by_cases hs40 : 40 < s.size
          · have d40 : decide ((40 : Int) < (s.size : Int)) = true := decide_eq_true (by omega)
            go_upto_if 87 with (go_at_call 21; refine (HSEG _).out.mono ?_; rintro e w' ⟨⟨b, rfl, hq⟩, rfl⟩; cases b)
            all_goals
              clear hq
              go_wp2_with (go_at_call 14; refine (HAW.out _ (Below.refl _ _)).mono ?_; rintro e wz ⟨rfl, hbz⟩)
              go_ret
              exact ⟨rfl, hbz⟩
          have d40 : decide ((40 : Int) < (s.size : Int)) = false := decide_eq_false (by omega)
          by_cases hs0 : 0 < s.size
          · have em : s.toList.isEmpty = false := by rw [Lib.toList_data, bs_cons s hs0]; rfl
            go_upto_if 87 with (go_at_call 21; refine (HSEG _).out.mono ?_; rintro e w' ⟨⟨b, rfl, hq⟩, rfl⟩; cases b)
            · clear hq
              go_wp2_with (go_at_call 14; refine (HAW.out _ (Below.refl _ _)).mono ?_; rintro e wz ⟨rfl, hbz⟩)
              go_ret
              exact ⟨rfl, hbz⟩
            have HSQ : Hid (patB s.data.toList = true) := Lib.hid (by
              have h1 := hq (by first | rfl | trivial)
              rw [HBD.out] at h1
              unfold patB
              rw [h1, bs_size_eq, decide_eq_true (show s.size ≤ 40 by omega), bs_cons s hs0]; rfl)
            have HNX := Lib.hid (HS.out.next HLS.out HSQ.out)
            have HPN : Hid (∀ Q : ByteArray, Value.string (if k = 0 then bs (joinS (L.take k)) ++ s else bs (joinS (L.take k)) ++ ⟨#[47]⟩ ++ s) = .string Q → Q.size ≤ 610) := Lib.hid (fun Q hQ => by
              have h1 := HNX.out.txt
              rw [hQ] at h1
              injection h1 with h1
              rw [h1, bs_size]
              exact pat_take_len HNX.out.seg (by rw [List.length_take]; omega))
            have HPE : Hid (P = bs (joinS (L.take k))) := Lib.hid (by have := HS.out.txt; injection this)
            have hz0 : ¬ 9223372036854775807 < P.size + 1 := by omega
            have hz1 : ¬ 9223372036854775807 < P.size + 1 + s.size := by omega
            have hz2 : ¬ 9223372036854775807 < P.size + s.size := by omega
            clear hq em
            by_cases hk0 : k = 0
            · have i0 : ¬ (0 : Int) < (k : Int) := by omega
              rw [if_pos hk0, ← HPE.out] at HNX HPN
              clear hk0
              go_wp2_with (fail)
              go_roundg g
              case measure => omega
              case rel => exact ⟨k + 1, _, HK1.out, by first | rfl | go_num, rfl, HPN.out _ rfl, HNX, rfl⟩
            · have i0 : (0 : Int) < (k : Int) := by omega
              rw [if_neg hk0, ← HPE.out] at HNX HPN
              clear hk0
              go_wp2_with (fail)
              go_roundg g
              case measure => omega
              case rel => exact ⟨k + 1, _, HK1.out, by first | rfl | go_num, rfl, HPN.out _ rfl, HNX, rfl⟩
          · have em : s.toList.isEmpty = true := by rw [Lib.toList_data, bs_nil hs0]; rfl
            go_upto_if 87 with (go_at_call 21; refine (HSEG _).out.mono ?_; rintro e w' ⟨⟨b, rfl, hq⟩, rfl⟩; cases b)
            all_goals
              clear hq
              go_wp2_with (go_at_call 14; refine (HAW.out _ (Below.refl _ _)).mono ?_; rintro e wz ⟨rfl, hbz⟩)
              go_ret
              exact ⟨rfl, hbz⟩
        | succ g2 =>
          have hjl : j < s.size := by omega
          have hj1 : j + 1 + g2 = s.size := by omega
          have HJ1 := Lib.hid hj1
          have hji : (j : Int) < (s.size : Int) := by omega
          have hjp : (j : Int) + 1 ≤ (s.size : Int) := by omega
          have HKT := Lib.hid (keep_take (s := s) hjl)
          clear hj hj1
          by_cases h42 : s[j] = 42
          · have a1 : (((s[j].toNat : Nat) : Int) != 42) = false := by rw [h42]; rfl
            have HB2 : Hid (B = bs (120 :: (s.data.toList.take (j + 1)).filter keepC)) := Lib.hid (by rw [HKT.out, h42, if_neg (by decide), List.append_nil]; exact HBB.out)
            clear h42
            go_wp2_with (fail)
            go_roundg g2
            case measure => omega
            case rel => exact ⟨j + 1, B, HJ1.out, by first | rfl | go_num, rfl, by omega, HB2, rfl⟩
          have a1 : (((s[j].toNat : Nat) : Int) != 42) = true := by simpa using u8_neI (n := 42) (by decide) h42
          by_cases h63 : s[j] = 63
          · have a2 : (((s[j].toNat : Nat) : Int) != 63) = false := by rw [h63]; rfl
            have HB2 : Hid (B = bs (120 :: (s.data.toList.take (j + 1)).filter keepC)) := Lib.hid (by rw [HKT.out, h63, if_neg (by decide), List.append_nil]; exact HBB.out)
            clear h42 h63
            go_wp2_with (fail)
            go_roundg g2
            case measure => omega
            case rel => exact ⟨j + 1, B, HJ1.out, by first | rfl | go_num, rfl, by omega, HB2, rfl⟩
          have a2 : (((s[j].toNat : Nat) : Int) != 63) = true := by simpa using u8_neI (n := 63) (by decide) h63
          obtain ⟨x1, hx1⟩ : ∃ x1, x1 = s.extract j (j + 1) := ⟨_, rfl⟩
          have hxs : x1.size = 1 := by rw [hx1, ext_one hjl, bs_size]; rfl
          have HXS := Lib.hid hxs
          have HB2 : Hid (B ++ s.extract j (j + 1) = bs (120 :: (s.data.toList.take (j + 1)).filter keepC)) := Lib.hid (by
            rw [HKT.out, if_pos (by unfold keepC; simp [h42, h63]), ext_one hjl, HBB.out, bs_append]; rfl)
          have HB3 : Hid ((B ++ s.extract j (j + 1)).size ≤ j + 1 + 1) := Lib.hid (by rw [ByteArray.size_append, ← hx1, hxs]; omega)
          have hz9 : ¬ 9223372036854775807 < B.size + (s.extract j (j + 1)).size := by rw [← hx1, hxs]; omega
          clear h42 h63 hx1 hxs
          go_wp2_with (fail)
          go_roundg g2
          case measure => omega
          case rel => exact ⟨j + 1, _, HJ1.out, by first | rfl | go_num, rfl, HB3.out, HB2, rfl⟩
end Go.Proofs.YtpanemfpipcggaaGreatDoor
