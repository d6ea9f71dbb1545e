/- laws.FnPathLiteral. -/
import Derived.Test.YtpanemfpipcggaaGreatDoorFP
open Go Go.RowKit
namespace Go.Proofs.YtpanemfpipcggaaGreatDoor
/-- The head of a loop that puts segments together. -/
structure SgR (L : List (List UInt8)) (k : Nat) (v : Value) : Prop where
  txt : v = .string (bs (joinS (L.take k)))
  seg : ∀ a ∈ L.take k, segB a = true
theorem bs_slash (l : List UInt8) : bs l ++ ⟨#[47]⟩ = bs (l ++ [47]) := bs_append l [47]
theorem SgR.next {L : List (List UInt8)} {k : Nat} {v : Value} {s : ByteArray} (h : SgR L k v) (hs : L[k]? = some s.data.toList) (hq : segB s.data.toList = true) : SgR L (k + 1) (.string (if k = 0 then bs (joinS (L.take k)) ++ s else bs (joinS (L.take k)) ++ ⟨#[47]⟩ ++ s)) := by
  refine ⟨?_, fun a ha => ?_⟩
  · rw [join_take hs]
    by_cases h0 : k = 0
    · subst h0
      rw [if_pos rfl, if_pos rfl]
      conv => lhs; rw [← bs_of s, bs_append]
      simp [joinS]
    · rw [if_neg h0, if_neg h0, bs_slash]
      conv => lhs; rw [← bs_of s, bs_append]
  · rw [List.take_add_one, hs] at ha
    rcases List.mem_append.1 ha with ha | ha
    · exact h.seg a ha
    · rw [Option.toList_some, List.mem_singleton] at ha; rw [ha]; exact hq
theorem seg_take_len {L : List (List UInt8)} (h : ∀ a ∈ L, segB a = true) (hl : L.length ≤ 10) : (joinS L).length ≤ 610 := by
  have := join_len L 60 fun a ha => (segB_out (h a ha)).2.2
  have h2 : L.length * (60 + 1) ≤ 10 * (60 + 1) := Nat.mul_le_mul_right _ hl
  omega
theorem seg_ascii {L : List (List UInt8)} (h : ∀ a ∈ L, segB a = true) : AsciiL (joinS L) ∧ QuietL (joinS L) := by
  constructor
  · intro x hx
    rcases join_mem L x hx with rfl | ⟨a, ha, hx⟩
    · decide
    · exact (plC_ne ((segB_out (h a ha)).1 x hx)).2.2.2.2.2.2
  · intro x hx
    rcases join_mem L x hx with rfl | ⟨a, ha, hx⟩
    · decide
    · have := plC_ne ((segB_out (h a ha)).1 x hx)
      exact ⟨this.2.2.2.1, this.2.2.2.2.1, this.2.2.2.2.2.1⟩
theorem tip_seg {L M : List (List UInt8)} (hl : L ≠ []) (hm : M ≠ []) (h1 : ∀ a ∈ L, segB a = true) (h2 : ∀ a ∈ M, segB a = true) : tipB (joinS M) (joinS L) = decide (joinS L = joinS M) := by
  have hL : ∀ a ∈ L, ∀ x ∈ a, x ≠ 47 ∧ x ≠ 42 ∧ x ≠ 63 := fun a ha x hx => by
    have := plC_ne ((segB_out (h1 a ha)).1 x hx); exact ⟨this.1, this.2.1, this.2.2.1⟩
  have hM : ∀ a ∈ M, ∀ x ∈ a, x ≠ 47 := fun a ha x hx => (plC_ne ((segB_out (h2 a ha)).1 x hx)).1
  rw [Bool.eq_iff_iff, tip_plain hm hl hM hL, decide_eq_true_eq]
  constructor
  · rintro rfl; rfl
  · intro e
    rw [← split_join hl (fun a ha x hx => (hL a ha x hx).1), e, split_join hm hM]
set_option maxRecDepth 100000 in
set_option maxHeartbeats 16000000 in
theorem fnPathLiteral_any {v0 v1 : Value} {l0 l1 : List ByteArray} {w : World} (h0 : StrR w v0 l0) (h1 : StrR w v1 l1) (hN : TL w.heap.size w) :
    Calls Tryz.prog 6 #[v0, v1] w fun e w' => e = .returned (.bool true) ∧ Below w.heap.size w w' := by
  have HF0 := Lib.hid (fits2_strR h0)
  have HF1 := Lib.hid (fits2_strR h1)
  obtain ⟨ao, cp, rfl, hlen0, hcell0⟩ := strR_open h0
  obtain ⟨ap, cq, rfl, hlen1, hcell1⟩ := strR_open h1
  have HC0 := Lib.hid hcell0
  have HC1 := Lib.hid hcell1
  have HAW : Hid (∀ W, Below w.heap.size w W → Calls Tryz.prog 14 #[] W fun e w' => e = .returned (.bool true) ∧ Below w.heap.size w w') := by
    refine Lib.hid fun W hb => (awake_true _ W (hN.mono (Nat.le_refl _) hb)).mono fun _ _ h => ⟨h.1, hb.trans (h.2.mono hb.size)⟩
  obtain ⟨n, hn⟩ : ∃ n, n = l0.length := ⟨_, rfl⟩
  obtain ⟨m, hm⟩ : ∃ m, m = l1.length := ⟨_, rfl⟩
  have HN := Lib.hid hn
  have HM := Lib.hid hm
  rw [← hn] at hlen0 HF0
  rw [← hm] at hlen1 HF1
  rw [← hn, ← hm]
  clear h0 h1 hcell0 hcell1 hN hn hm
  obtain ⟨L, hL⟩ : ∃ L, L = l0.map (·.data.toList) := ⟨_, rfl⟩
  obtain ⟨M, hM⟩ : ∃ M, M = l1.map (·.data.toList) := ⟨_, rfl⟩
  have HL := Lib.hid hL
  have HMM := Lib.hid hM
  clear hL hM
  go_enter Tryz.func6, Tryz.ntmps6
  go_upto_if 19 with (first
    | (go_at_call 20; (with_reducible refine HF0.out.mono ?_); rintro e w' ⟨b, rfl, rfl⟩; cases b)
    | (go_at_call 20; (with_reducible refine HF1.out.mono ?_); rintro e w' ⟨b, rfl, rfl⟩; cases b))
  · go_wp2_with (fail)
    go_ret
    exact ⟨rfl, Below.refl _ _⟩
  · go_wp2_with (fail)
    go_ret
    exact ⟨rfl, Below.refl _ _⟩
  by_cases hn0 : n = 0
  · have e1 : ((n : Int) == 0) = true := by rw [beq_iff_eq]; omega
    clear hn0
    go_wp2_with (go_at_call 14; refine (HAW.out _ (Below.refl _ _)).mono ?_; rintro e wz ⟨rfl, hbz⟩)
    go_ret
    exact ⟨rfl, hbz⟩
  have e1 : ((n : Int) == 0) = false := by rw [beq_eq_false_iff_ne]; omega
  by_cases hn1 : 10 < n
  · have d1 : decide ((10 : Int) < (n : Int)) = true := decide_eq_true (by omega)
    go_wp2_with (go_at_call 14; refine (HAW.out _ (Below.refl _ _)).mono ?_; rintro e wz ⟨rfl, hbz⟩)
    go_ret
    exact ⟨rfl, hbz⟩
  have d1 : decide ((10 : Int) < (n : Int)) = false := decide_eq_false (by omega)
  by_cases hm0 : m = 0
  · have e2 : ((m : Int) == 0) = true := by rw [beq_iff_eq]; omega
    clear hm0
    go_wp2_with (go_at_call 14; refine (HAW.out _ (Below.refl _ _)).mono ?_; rintro e wz ⟨rfl, hbz⟩)
    go_ret
    exact ⟨rfl, hbz⟩
  have e2 : ((m : Int) == 0) = false := by rw [beq_eq_false_iff_ne]; omega
  by_cases hm1 : 10 < m
  · have d2 : decide ((10 : Int) < (m : Int)) = true := decide_eq_true (by omega)
    go_wp2_with (go_at_call 14; refine (HAW.out _ (Below.refl _ _)).mono ?_; rintro e wz ⟨rfl, hbz⟩)
    go_ret
    exact ⟨rfl, hbz⟩
  have d2 : decide ((10 : Int) < (m : Int)) = false := decide_eq_false (by omega)
  have hn2 : 1 ≤ n ∧ n ≤ 10 := ⟨by omega, by omega⟩
  have hm2 : 1 ≤ m ∧ m ≤ 10 := ⟨by omega, by omega⟩
  clear hn0 hn1 hm0 hm1
  go_wp2_with (fail)
  go_loopg [5, 41] n (fun g v x wr => ∃ (k : Nat) (P : ByteArray), k + g = n ∧ x = .int .i64 k ∧ v = .string P ∧ P.size ≤ 610 ∧ Hid (SgR L k (.string P)) ∧ w = wr)
  case atStart => exact ⟨0, ⟨#[]⟩, by omega, rfl, rfl, by decide, Lib.hid ⟨rfl, fun a ha => by simp at ha⟩, rfl⟩
  case round =>
    obtain ⟨k, P, hk, rfl, rfl, hps, HS, rfl⟩ := hrel
    cases gk with
    | zero =>
      have hkn : ¬ (k : Int) < (n : Int) := by omega
      have HT : Hid (L.take k = L) := Lib.hid (List.take_of_length_le (by rw [HL.out, List.length_map, ← HN.out]; omega))
      have HSG : Hid (∀ a ∈ L, segB a = true) := Lib.hid (by have := HS.out.seg; rwa [HT.out] at this)
      have HPE : Hid (P = bs (joinS L)) := Lib.hid (by have := HS.out.txt; rw [HT.out] at this; injection this)
      clear hk
      obtain ⟨Q, hQ⟩ : ∃ Q, Q = P := ⟨_, rfl⟩
      subst hQ
      have HPQ := HPE
      have HSQ := HSG
      clear HPE HSG HS HT
      go_wp2_with (fail)
      go_loopg [6, 60] m (fun g v x wr => ∃ (k : Nat) (P : ByteArray), k + g = m ∧ x = .int .i64 k ∧ v = .string P ∧ P.size ≤ 610 ∧ Hid (SgR M k (.string P)) ∧ w = wr)
      case atStart => exact ⟨0, ⟨#[]⟩, by omega, rfl, rfl, by decide, Lib.hid ⟨rfl, fun a ha => by simp at ha⟩, rfl⟩
      case round =>
        obtain ⟨k, P, hk, rfl, rfl, hps, HS, rfl⟩ := hrel
        cases gk with
        | zero =>
          have hkn : ¬ (k : Int) < (m : Int) := by omega
          have HT : Hid (M.take k = M) := Lib.hid (List.take_of_length_le (by rw [HMM.out, List.length_map, ← HM.out]; omega))
          have HSG : Hid (∀ a ∈ M, segB a = true) := Lib.hid (by have := HS.out.seg; rwa [HT.out] at this)
          have HPE : Hid (P = bs (joinS M)) := Lib.hid (by have := HS.out.txt; rw [HT.out] at this; injection this)
          clear hk
          have HLN : Hid (L ≠ []) := Lib.hid (by rw [HL.out]; intro e; have := congrArg List.length e; rw [List.length_map, ← HN.out] at this; simp at this; omega)
          have HMN : Hid (M ≠ []) := Lib.hid (by rw [HMM.out]; intro e; have := congrArg List.length e; rw [List.length_map, ← HM.out] at this; simp at this; omega)
          have HLL : Hid (L.length ≤ 10) := Lib.hid (by rw [HL.out, List.length_map, ← HN.out]; omega)
          have HML : Hid (M.length ≤ 10) := Lib.hid (by rw [HMM.out, List.length_map, ← HM.out]; omega)
          obtain ⟨β, hβ⟩ : ∃ β, β = decide (joinS L = joinS M) := ⟨_, rfl⟩
          have HQD : Hid (Q.data.toList = joinS L) := Lib.hid (by rw [HPQ.out, bs_data])
          have HPD : Hid (P.data.toList = joinS M) := Lib.hid (by rw [HPE.out, bs_data])
          have e85 : (Q.toList == P.toList) = β := by
            rw [Lib.toList_data, Lib.toList_data, HQD.out, HPD.out, hβ, Bool.eq_iff_iff]; simp
          obtain ⟨W2, hW2⟩ : ∃ W2, W2 = (w.alloc (.cells #[.string Q] 9)).alloc (.cells #[.string ⟨#[114]⟩, .slice none 0 0, .int .i64 0, .bool false, .slice (some ⟨w.heap.size, 0, none⟩) 1 1, .slice none 0 0] 45) := ⟨_, rfl⟩
          have HB2 : Hid (Below w.heap.size w W2) := by rw [hW2]; exact Lib.hid (((Below.refl _ _).alloc (Nat.le_refl _) _).alloc (by rw [World.size_alloc]; omega) _)
          have HS2 : Hid (W2.heap.size = w.heap.size + 2) := by rw [hW2, World.size_alloc, World.size_alloc]; exact Lib.hid rfl
          have HTX : Hid (∀ W, Below W2.heap.size W2 W → TxtB W (.slice (some ⟨w.heap.size, 0, none⟩) 1 1) [joinS L]) := Lib.hid fun W hb => by
            have h1 := (txt_one w Q).stay (w' := W2) (by rw [hW2]; exact (Below.refl _ _).alloc (Nat.le_refl _) _)
            rw [HQD.out] at h1
            exact h1.stay hb
          have HCR : Hid (∀ W, Below W2.heap.size W2 W → W.cell? ⟨w.heap.size + 1, 0, none⟩ = some (.string ⟨#[114]⟩) ∧ W.cell? ⟨w.heap.size + 1, 1, none⟩ = some (.slice none 0 0) ∧ W.cell? ⟨w.heap.size + 1, 2, none⟩ = some (.int .i64 0) ∧ W.cell? ⟨w.heap.size + 1, 3, none⟩ = some (.bool false) ∧ W.cell? ⟨w.heap.size + 1, 4, none⟩ = some (.slice (some ⟨w.heap.size, 0, none⟩) 1 1) ∧ W.cell? ⟨w.heap.size + 1, 5, none⟩ = some (.slice none 0 0)) := Lib.hid fun W hb => by
            have hc := alloc_at (w.alloc (.cells #[.string Q] 9)) (.cells #[.string ⟨#[114]⟩, .slice none 0 0, .int .i64 0, .bool false, .slice (some ⟨w.heap.size, 0, none⟩) 1 1, .slice none 0 0] 45)
            rw [World.size_alloc, ← hW2, ← hb.block _ (by rw [HS2.out]; omega)] at hc
            refine ⟨?_, ?_, ?_, ?_, ?_, ?_⟩ <;> simp [World.cell?, hc]
          have hlL := seg_take_len HSQ.out HLL.out
          have hlM := seg_take_len HSG.out HML.out
          have HD1 : Hid (Calls Tryz.prog 22 #[.agg #[.string ⟨#[114]⟩, .slice none 0 0, .int .i64 0, .bool false, .slice (some ⟨w.heap.size, 0, none⟩) 1 1, .slice none 0 0], .string P] W2 (BoolP β W2)) := by
            have := delegated_any (nm := ⟨#[114]⟩) (thr := 0) (tm := false) (t := P) (HTX.out W2 (Below.refl _ _)) (by simp) (fun a ha => by rw [List.mem_singleton.1 ha]; exact ⟨(seg_ascii HSQ.out).2, by omega⟩) (by rw [HPD.out]; exact (seg_ascii HSG.out).1) (by rw [← bs_size_eq, HPD.out]; omega)
            rw [List.any_cons, List.any_nil, Bool.or_false, HPD.out, tip_seg HLN.out HMN.out HSQ.out HSG.out, ← hβ] at this
            exact Lib.hid this
          have HD2 : Hid (∀ W, Below W2.heap.size W2 W → Calls Tryz.prog 22 #[.agg #[.string ⟨#[114]⟩, .slice none 0 0, .int .i64 0, .bool false, .slice (some ⟨w.heap.size, 0, none⟩) 1 1, .slice none 0 0], .string Q] W (BoolP true W)) := Lib.hid fun W hb => by
            have := delegated_any (nm := ⟨#[114]⟩) (thr := 0) (tm := false) (t := Q) (HTX.out W hb) (by simp) (fun a ha => by rw [List.mem_singleton.1 ha]; exact ⟨(seg_ascii HSQ.out).2, by omega⟩) (by rw [HQD.out]; exact (seg_ascii HSQ.out).1) (by rw [← bs_size_eq, HQD.out]; omega)
            rw [List.any_cons, List.any_nil, Bool.or_false, HQD.out, tip_seg HLN.out HLN.out HSQ.out HSQ.out, decide_eq_true rfl] at this
            exact this
          have HW2 := Lib.hid hW2
          unfold BoolP at HD1 HD2
          clear hW2 hβ hlL hlM
          go_upto_region 25 with (fail)
          rw [← HW2.out]
          obtain ⟨q0, q1, q2, q3, q4, q5⟩ := HCR.out W2 (Below.refl _ _)
          cases β <;> (
            go_wp2_with (first
              | (go_at_call 22; (with_reducible refine HD1.out.mono ?_); rintro e w3 ⟨rfl, hb⟩
                 have HB3 := Lib.hid hb
                 obtain ⟨r0, r1, r2, r3, r4, r5⟩ := HCR.out w3 HB3.out
                 clear hb HD1)
              | (go_at_call 22; (with_reducible refine (HD2.out _ HB3.out).mono ?_); rintro e w4 ⟨rfl, hb⟩
                 have HB4 := Lib.hid (HB3.out.trans (hb.mono HB3.out.size))
                 clear hb)
              | (go_at_call 14; refine (HAW.out _ (HB2.out.trans (HB4.out.mono HB2.out.size))).mono ?_; rintro e w5 ⟨rfl, hbz⟩))
            go_ret
            exact ⟨rfl, hbz⟩)
        | succ g =>
          have hlt : k < m := by omega
          have hk1 : k + 1 + g = m := by omega
          have HK1 := Lib.hid hk1
          have hki : (k : Int) < (m : Int) := by omega
          have hk10 : k + 1 ≤ 10 := by omega
          obtain ⟨s, hs⟩ : ∃ s, l1[k]? = some s := ⟨_, List.getElem?_eq_getElem (by rw [← HM.out]; exact hlt)⟩
          obtain ⟨ad, rfl, c0, hss⟩ := HC1.out w (Below.refl _ _) k s hs
          have hLs : M[k]? = some s.data.toList := by rw [HMM.out, List.getElem?_map, hs]; rfl
          have HLS := Lib.hid hLs
          have HSEG := fun w => Lib.hid (segment_any s (by omega) w)
          unfold TellP at HSEG
          clear hk hk1 hs hLs
          go_upto_if 67 with (go_at_call 21; refine (HSEG _).out.mono ?_; rintro e w' ⟨⟨b, rfl, hq⟩, rfl⟩; cases b)
          · clear hq
            go_wp2_with (go_at_call 14; refine (HAW.out _ (Below.refl _ _)).mono ?_; rintro e wz ⟨rfl, hbz⟩)
            go_ret
            exact ⟨rfl, hbz⟩
          have HSQ := Lib.hid (hq (by first | rfl | trivial))
          have hs60 : s.size ≤ 60 := by have := (segB_out HSQ.out).2.2; rw [bs_size_eq] at this; exact this
          have HNX := Lib.hid (HS.out.next HLS.out HSQ.out)
          have HPN : Hid (∀ Q : ByteArray, Value.string (if k = 0 then bs (joinS (M.take k)) ++ s else bs (joinS (M.take k)) ++ ⟨#[47]⟩ ++ s) = .string Q → Q.size ≤ 610) := Lib.hid (fun Q hQ => by
            have h1 := HNX.out.txt
            rw [hQ] at h1
            injection h1 with h1
            rw [h1, bs_size]
            exact seg_take_len HNX.out.seg (by rw [List.length_take]; omega))
          have HPE : Hid (P = bs (joinS (M.take k))) := Lib.hid (by have := HS.out.txt; injection this)
          have hz0 : ¬ 9223372036854775807 < P.size + 1 := by omega
          have hz1 : ¬ 9223372036854775807 < P.size + 1 + s.size := by omega
          have hz2 : ¬ 9223372036854775807 < P.size + s.size := by omega
          clear hq
          by_cases hk0 : k = 0
          · have i0 : ¬ (0 : Int) < (k : Int) := by omega
            rw [if_pos hk0, ← HPE.out] at HNX HPN
            clear hk0
            go_wp2_with (fail)
            go_roundg g
            case measure => omega
            case rel => exact ⟨k + 1, _, HK1.out, by first | rfl | go_num, rfl, HPN.out _ rfl, HNX, rfl⟩
          · have i0 : (0 : Int) < (k : Int) := by omega
            rw [if_neg hk0, ← HPE.out] at HNX HPN
            clear hk0
            go_wp2_with (fail)
            go_roundg g
            case measure => omega
            case rel => exact ⟨k + 1, _, HK1.out, by first | rfl | go_num, rfl, HPN.out _ rfl, HNX, rfl⟩
    | succ g =>
      have hlt : k < n := by omega
      have hk1 : k + 1 + g = n := by omega
      have HK1 := Lib.hid hk1
      have hki : (k : Int) < (n : Int) := by omega
      have hk10 : k + 1 ≤ 10 := by omega
      obtain ⟨s, hs⟩ : ∃ s, l0[k]? = some s := ⟨_, List.getElem?_eq_getElem (by rw [← HN.out]; exact hlt)⟩
      obtain ⟨ad, rfl, c0, hss⟩ := HC0.out w (Below.refl _ _) k s hs
      have hLs : L[k]? = some s.data.toList := by rw [HL.out, List.getElem?_map, hs]; rfl
      have HLS := Lib.hid hLs
      have HSEG := fun w => Lib.hid (segment_any s (by omega) w)
      unfold TellP at HSEG
      clear hk hk1 hs hLs
      go_upto_if 48 with (go_at_call 21; refine (HSEG _).out.mono ?_; rintro e w' ⟨⟨b, rfl, hq⟩, rfl⟩; cases b)
      · clear hq
        go_wp2_with (go_at_call 14; refine (HAW.out _ (Below.refl _ _)).mono ?_; rintro e wz ⟨rfl, hbz⟩)
        go_ret
        exact ⟨rfl, hbz⟩
      have HSQ := Lib.hid (hq (by first | rfl | trivial))
      have hs60 : s.size ≤ 60 := by have := (segB_out HSQ.out).2.2; rw [bs_size_eq] at this; exact this
      have HNX := Lib.hid (HS.out.next HLS.out HSQ.out)
      have HPN : Hid (∀ Q : ByteArray, Value.string (if k = 0 then bs (joinS (L.take k)) ++ s else bs (joinS (L.take k)) ++ ⟨#[47]⟩ ++ s) = .string Q → Q.size ≤ 610) := Lib.hid (fun Q hQ => by
        have h1 := HNX.out.txt
        rw [hQ] at h1
        injection h1 with h1
        rw [h1, bs_size]
        exact seg_take_len HNX.out.seg (by rw [List.length_take]; omega))
      have HPE : Hid (P = bs (joinS (L.take k))) := Lib.hid (by have := HS.out.txt; injection this)
      have hz0 : ¬ 9223372036854775807 < P.size + 1 := by omega
      have hz1 : ¬ 9223372036854775807 < P.size + 1 + s.size := by omega
      have hz2 : ¬ 9223372036854775807 < P.size + s.size := by omega
      clear hq
      by_cases hk0 : k = 0
      · have i0 : ¬ (0 : Int) < (k : Int) := by omega
        rw [if_pos hk0, ← HPE.out] at HNX HPN
        clear hk0
        go_wp2_with (fail)
        go_roundg g
        case measure => omega
        case rel => exact ⟨k + 1, _, HK1.out, by first | rfl | go_num, rfl, HPN.out _ rfl, HNX, rfl⟩
      · have i0 : (0 : Int) < (k : Int) := by omega
        rw [if_neg hk0, ← HPE.out] at HNX HPN
        clear hk0
        go_wp2_with (fail)
        go_roundg g
        case measure => omega
        case rel => exact ⟨k + 1, _, HK1.out, by first | rfl | go_num, rfl, HPN.out _ rfl, HNX, rfl⟩
end Go.Proofs.YtpanemfpipcggaaGreatDoor
