/- laws.FnPathAny. -/
import Derived.Test.YtpanemfpipcggaaGreatDoorFE
import Derived.Test.YtpanemfpipcggaaGreatDoorFB
import Derived.Test.YtpanemfpipcggaaGreatDoorT4
import Derived.Test.YtpanemfpipcggaaGreatDoorA1
open Go Go.RowKit
namespace Go.Proofs.YtpanemfpipcggaaGreatDoor
theorem strR_open {w : World} {v : Value} {l : List ByteArray} (h : StrR w v l) : ∃ ao cp, v = .slice ao l.length cp ∧ l.length ≤ 9223372036854775807 ∧ ∀ W, Below w.heap.size w W → ∀ (j : Nat) (s : ByteArray), l[j]? = some s → ∃ ad, ao = some ad ∧ W.cell? (ad.add j) = some (.string s) ∧ s.size ≤ 140737488351232 := by
  rcases h with ⟨rfl, rfl⟩ | ⟨a, cap, rfl, h1, h2, h3⟩
  · exact ⟨none, 0, rfl, Nat.zero_le _, fun _ _ j s hj => by cases hj⟩
  · refine ⟨some a, cap, rfl, by unfold maxLen at h2; omega, fun W hb j s hj => ⟨a, rfl, ?_, (h3 j s hj).2⟩⟩
    exact (hb.cell (p := a.add j) (cell_lt (h3 j s hj).1)).trans (h3 j s hj).1
theorem quB_out {l : List UInt8} (h : quB l = true) : QuietL l ∧ AsciiL l ∧ l.length ≤ 200 := by
  unfold quB at h
  simp only [Bool.and_eq_true, List.all_eq_true, decide_eq_true_eq] at h
  refine ⟨fun x hx => ?_, fun x hx => ?_, h.2⟩
  · have := h.1 x hx
    unfold quC at this
    rw [decide_eq_true_eq] at this
    refine ⟨?_, ?_, ?_⟩ <;> (rintro rfl; simp at this)
  · have := h.1 x hx
    unfold quC at this
    rw [decide_eq_true_eq] at this
    exact this.2.2.2.1
/-- One text, laid. -/
theorem txt_one (w : World) (s : ByteArray) : TxtB (w.alloc (.cells #[.string s] 9)) (.slice (some ⟨w.heap.size, 0, none⟩) 1 1) [s.data.toList] := by
  refine .inr ⟨⟨w.heap.size, 0, none⟩, 1, rfl, by simp, fun j a hj => ?_⟩
  match j, hj with
  | 0, hj =>
    cases hj
    rw [bs_of]
    exact cell_one_new w (.string s) 9 0 _ rfl
  | j + 1, hj => cases hj
set_option maxRecDepth 100000 in
set_option maxHeartbeats 16000000 in
theorem fnPathAny_any {v : Value} {l : List ByteArray} (path : ByteArray) {w : World} (h : StrR w v l) (hp : path.size ≤ 140737488351232) (hN : TL w.heap.size w) :
    Calls Tryz.prog 7 #[v, .string path] w fun e w' => e = .returned (.bool true) ∧ Below w.heap.size w w' := by
  have HF := Lib.hid (fits2_strR h)
  have HSR := Lib.hid h
  obtain ⟨ao, cp, rfl, hlen, hcell⟩ := strR_open h
  have HC := Lib.hid hcell
  have HQ := fun w => Lib.hid (quiet_any path (by omega) w)
  unfold TellP at HQ
  have HAW : Hid (∀ W, Below w.heap.size w W → Calls Tryz.prog 14 #[] W fun e w' => e = .returned (.bool true) ∧ Below w.heap.size w w') := by
    refine Lib.hid fun W hb => (awake_true _ W (hN.mono (Nat.le_refl _) hb)).mono fun _ _ h => ⟨h.1, hb.trans (h.2.mono hb.size)⟩
  obtain ⟨n, hn⟩ : ∃ n, n = l.length := ⟨_, rfl⟩
  have HN := Lib.hid hn
  rw [← hn] at hlen HF HSR
  rw [← hn]
  clear h hcell hN hn
  obtain ⟨f, hf⟩ : ∃ f, f = fun a => tipB path.data.toList a := ⟨_, rfl⟩
  have HFE := Lib.hid hf
  clear hf
  go_enter Tryz.func7, Tryz.ntmps7
  go_upto_region 1 with (fail)
  by_cases hbig : 2147483647 < path.size
  · have i1 : decide ((2147483647 : Int) < (path.size : Int)) = true := decide_eq_true (by omega)
    go_wp2_with (go_at_call 20; refine HF.out.mono ?_; rintro e w' ⟨b, rfl, rfl⟩; cases b)
    all_goals
      go_ret
      exact ⟨rfl, Below.refl _ _⟩
  have i1 : decide ((2147483647 : Int) < (path.size : Int)) = false := decide_eq_false (by omega)
  go_upto_if 15 with (go_at_call 20; refine HF.out.mono ?_; rintro e w' ⟨b, rfl, rfl⟩; cases b)
  · go_wp2_with (fail)
    go_ret
    exact ⟨rfl, Below.refl _ _⟩
  by_cases h20 : 20 < n
  · have i2 : decide ((20 : Int) < (n : Int)) = true := decide_eq_true (by omega)
    go_wp2_with (go_at_call 14; refine (HAW.out _ (Below.refl _ _)).mono ?_; rintro e w2 ⟨rfl, hb⟩)
    go_ret
    exact ⟨rfl, hb⟩
  have i2 : decide ((20 : Int) < (n : Int)) = false := decide_eq_false (by omega)
  have hn20 : n ≤ 20 := by omega
  clear h20 hbig
  go_upto_if 23 with (go_at_call 23; refine (HQ _).out.mono ?_; rintro e w' ⟨⟨b, rfl, hq⟩, rfl⟩; cases b)
  · clear hq
    go_wp2_with (go_at_call 14; refine (HAW.out _ (Below.refl _ _)).mono ?_; rintro e w2 ⟨rfl, hb⟩)
    go_ret
    exact ⟨rfl, hb⟩
  have HPQ := Lib.hid (quB_out (hq (by first | rfl | trivial)))
  clear hq
  go_wp2_with (fail)
  go_loopg [5, 27] n (fun g v5 v27 wr => ∃ k : Nat, k + g = n ∧ v27 = .int .i64 k ∧ v5 = .bool (((l.map (·.data.toList)).take k).any f) ∧ Hid (∀ a ∈ (l.map (·.data.toList)).take k, quB a = true) ∧ Hid (Below w.heap.size w wr))
  case atStart => exact ⟨0, by omega, rfl, rfl, Lib.hid (fun a ha => by simp at ha), Lib.hid (Below.refl _ _)⟩
  case round =>
    obtain ⟨k, hk, rfl, rfl, HK, HB⟩ := hrel
    obtain ⟨β, hβ⟩ : ∃ β, β = ((l.map (·.data.toList)).take k).any f := ⟨_, rfl⟩
    have HBE := Lib.hid hβ
    rw [← hβ]
    clear hβ
    cases gk with
    | zero =>
      have hkn : ¬ (k : Int) < (n : Int) := by omega
      have hTK : (l.map (·.data.toList)).take k = l.map (·.data.toList) := List.take_of_length_le (by rw [List.length_map, ← HN.out]; omega)
      rw [hTK] at HBE HK
      have HD := Lib.hid (delegated_any (nm := ⟨#[98]⟩) (thr := 0) (tm := false) (t := path) (strR_txt (HSR.out.stay HB.out) (by rw [← HN.out]; omega)) (by rw [List.length_map, ← HN.out]; omega) (fun a ha => ⟨(quB_out (HK.out a ha)).1, by have := (quB_out (HK.out a ha)).2.2; omega⟩) HPQ.out.2.1 (by have := HPQ.out.2.2; rw [bs_size_eq] at this; omega))
      unfold BoolP at HD
      rw [← HFE.out, ← HBE.out] at HD
      clear hk hTK
      go_wp2_with (first
        | (go_at_call 22; refine HD.out.mono ?_; rintro e w2 ⟨rfl, hb⟩; have HB2 := Lib.hid (HB.out.trans (hb.mono HB.out.size)); clear hb)
        | (go_at_call 14; refine (HAW.out _ HB2.out).mono ?_; rintro e w3 ⟨rfl, hb⟩; have HB3 := Lib.hid hb; clear hb))
      go_ret
      exact ⟨rfl, HB3.out⟩
    | succ g =>
      have hlt : k < n := by omega
      have hk1 : k + 1 + g = n := by omega
      have HK1 := Lib.hid hk1
      have hki : (k : Int) < (n : Int) := by omega
      obtain ⟨s, hs⟩ : ∃ s, l[k]? = some s := ⟨_, List.getElem?_eq_getElem (by rw [← HN.out]; exact hlt)⟩
      obtain ⟨ad, rfl, c0, hss⟩ := HC.out wr HB.out k s hs
      have HTK : Hid ((l.map (·.data.toList)).take (k + 1) = (l.map (·.data.toList)).take k ++ [s.data.toList]) := Lib.hid (by rw [List.take_add_one, List.getElem?_map, hs]; rfl)
      have HQS := fun w => Lib.hid (quiet_any s (by omega) w)
      unfold TellP at HQS
      clear hk hk1 hs
      go_upto_if 33 with (go_at_call 23; refine (HQS _).out.mono ?_; rintro e w' ⟨⟨b, rfl, hq⟩, rfl⟩; cases b)
      · clear hq
        go_wp2_with (go_at_call 14; refine (HAW.out _ HB.out).mono ?_; rintro e w3 ⟨rfl, hb⟩; have HB3 := Lib.hid hb; clear hb)
        go_ret
        exact ⟨rfl, HB3.out⟩
      have HSQ := Lib.hid (hq (by first | rfl | trivial))
      have HKN : Hid (∀ a ∈ (l.map (·.data.toList)).take (k + 1), quB a = true) := Lib.hid (fun a ha => by
        rw [HTK.out] at ha
        rcases List.mem_append.1 ha with ha | ha
        · exact HK.out a ha
        · rw [List.mem_singleton.1 ha]; exact HSQ.out)
      have HBN : Hid (((l.map (·.data.toList)).take (k + 1)).any f = (β || f s.data.toList)) := Lib.hid (by rw [HTK.out, List.any_append, ← HBE.out]; simp)
      clear hq
      cases β with
      | true =>
        go_wp2_with (fail)
        go_roundg g
        case measure => omega
        case rel => exact ⟨k + 1, HK1.out, by first | rfl | go_num, by rw [HBN.out]; rfl, HKN, HB⟩
      | false =>
        obtain ⟨W3, hW3⟩ : ∃ W3, W3 = wr.alloc (.cells #[.string s] 9) := ⟨_, rfl⟩
        have HB3 : Hid (Below w.heap.size w W3) := by rw [hW3]; exact Lib.hid (HB.out.alloc HB.out.size _)
        have HD : Hid (Calls Tryz.prog 22 #[.agg #[.string ⟨#[97]⟩, .slice none 0 0, .int .i64 0, .bool false, .slice (some ⟨wr.heap.size, 0, none⟩) 1 1, .slice none 0 0], .string path] W3 (BoolP (f s.data.toList) W3)) := by
          have := delegated_any (nm := ⟨#[97]⟩) (thr := 0) (tm := false) (t := path) (txt_one wr s) (by simp) (fun a ha => by rw [List.mem_singleton.1 ha]; exact ⟨(quB_out HSQ.out).1, by have := (quB_out HSQ.out).2.2; omega⟩) HPQ.out.2.1 (by have := HPQ.out.2.2; rw [bs_size_eq] at this; omega)
          rw [← hW3, List.any_cons, List.any_nil, Bool.or_false] at this
          rw [HFE.out]
          exact Lib.hid this
        have HW3 := Lib.hid hW3
        unfold BoolP at HD
        clear hW3
        go_wp2_with (go_at_call 22; rw [← HW3.out]; refine HD.out.mono ?_; rintro e w4 ⟨rfl, hb⟩; have HB4 := Lib.hid (HB3.out.trans (hb.mono HB3.out.size)); clear hb)
        go_roundg g
        case measure => omega
        case rel => exact ⟨k + 1, HK1.out, by first | rfl | go_num, by rw [HBN.out, Bool.false_or], HKN, HB4⟩
end Go.Proofs.YtpanemfpipcggaaGreatDoor
