/- laws.zzFits1, laws.parts answer something. -/
import Derived.Test.YtpkkokhoeiimcaaGreatDoorT4
import Derived.Test.YtpkkokhoeiimcaaGreatDoorV4
import Derived.Test.YtpkkokhoeiimcaaGreatDoorT3
import Derived.Deep.Cut
import Derived.Deep.DeepCutAuto
import Derived.Deep.CutBlock
open Go Go.RowKit
namespace Go.Proofs.YtpkkokhoeiimcaaGreatDoor
theorem strR_slice {w : World} {v : Value} {l : List ByteArray} (h : StrR w v l) : ∃ ao cp, v = .slice ao l.length cp ∧ l.length ≤ maxLen := by
  rcases h with ⟨rfl, rfl⟩ | ⟨a, cap, rfl, h1, h2, _⟩
  · exact ⟨none, 0, rfl, Nat.zero_le _⟩
  · exact ⟨some a, cap, rfl, by omega⟩
theorem lr_slice {w : World} {v : Value} {l : List VT} (h : LR w v l) : ∃ ao cp, v = .slice ao l.length cp ∧ l.length ≤ maxLen := by
  cases h with
  | none => exact ⟨none, 0, rfl, Nat.zero_le _⟩
  | some a cap l kv lv hc hm hk hr => exact ⟨some a, cap, rfl, by omega⟩
set_option maxRecDepth 100000 in
set_option maxHeartbeats 4000000 in
theorem fits1_some {v : Value} {t : VT} {w : World} (h : VR w v t) : Calls Tryz.prog 20 #[v] w (SomeB w) := by
  obtain ⟨kv, lv, rfl, hk, ht, hs, hl⟩ := h.ex
  obtain ⟨k, hkk⟩ : ∃ k, k = t.kind := ⟨_, rfl⟩
  obtain ⟨x, hxx⟩ : ∃ x, x = t.text := ⟨_, rfl⟩
  rw [← hkk] at hk ⊢
  rw [← hxx] at ht ⊢
  obtain ⟨ao, cp, rfl, hll⟩ := lr_slice hl
  obtain ⟨n, hn⟩ : ∃ n, n = t.list.length := ⟨_, rfl⟩
  rw [← hn] at hll ⊢
  unfold maxLen at hll
  have HS := Lib.hid hs
  clear h hs hl hkk hxx hn
  by_cases h1 : 2147483647 < k.size
  · have i1 : decide ((2147483647 : Int) < (k.size : Int)) = true := decide_eq_true (by omega)
    clear h1
    go_enter Tryz.func20, Tryz.ntmps20
    go_wp2_with (fail)
    go_ret
    exact ⟨_, rfl, (Below.refl _ _).alloc (Nat.le_refl _) _⟩
  have i1 : decide ((2147483647 : Int) < (k.size : Int)) = false := decide_eq_false (by omega)
  by_cases h2 : 2147483647 < x.size
  · have i2 : decide ((2147483647 : Int) < (x.size : Int)) = true := decide_eq_true (by omega)
    clear h1 h2
    go_enter Tryz.func20, Tryz.ntmps20
    go_wp2_with (fail)
    go_ret
    exact ⟨_, rfl, (Below.refl _ _).alloc (Nat.le_refl _) _⟩
  have i2 : decide ((2147483647 : Int) < (x.size : Int)) = false := decide_eq_false (by omega)
  have HF := Lib.hid (fits2_strR (HS.out.stay ((Below.refl _ _).alloc (Nat.le_refl _) (.cells #[.string k, .string x, kv, .slice ao n cp] 56))))
  clear h1 h2
  go_enter Tryz.func20, Tryz.ntmps20
  go_wp2_with (fail)
  refine HF.out.mono ?_
  rintro e w2 ⟨b, rfl, rfl⟩
  cases b with
  | false =>
    go_wp2_with (fail)
    go_ret
    exact ⟨_, rfl, (Below.refl _ _).alloc (Nat.le_refl _) _⟩
  | true =>
    by_cases h3 : 2147483647 < n
    · have i3 : decide ((2147483647 : Int) < (n : Int)) = true := decide_eq_true (by omega)
      clear h3
      go_wp2_with (fail)
      go_ret
      exact ⟨_, rfl, (Below.refl _ _).alloc (Nat.le_refl _) _⟩
    · have i3 : decide ((2147483647 : Int) < (n : Int)) = false := decide_eq_false (by omega)
      clear h3
      go_wp2_with (fail)
      go_ret
      exact ⟨_, rfl, (Below.refl _ _).alloc (Nat.le_refl _) _⟩
theorem VR.stay {w w' : World} {v : Value} {t : VT} (h : VR w v t) (hb : Below w.heap.size w w') : VR w' v t := by
  obtain ⟨kv, lv, rfl, hk, ht, hs, hl⟩ := h.ex
  exact ⟨kv, lv, rfl, hk, ht, hs.stay hb, hl.stay hb⟩
theorem fieldA (ad : Addr) (m j : Nat) (hj : 0 < j) : ad.add (m + j) = ⟨(ad.add m).block, (ad.add m).off + j, none⟩ := by
  unfold Addr.add
  by_cases hm : m = 0
  · subst hm
    simp [Nat.ne_of_gt hj]
  · simp [hm, Nat.add_assoc]
theorem lr_elem {w W : World} {ao : Option Addr} {n cp : Nat} {l : List VT} (h : LR w (.slice ao n cp) l) (hb : Below w.heap.size w W) (j : Nat) (hj : j < l.length) :
    ∃ (a : Addr) (T : VT) (k0 l0 : Option Addr) (k1 l1 k2 l2 : Nat), ao = some a ∧ W.cell? (a.add (j * 4)) = some (.string T.kind) ∧ W.cell? ⟨(a.add (j * 4)).block, (a.add (j * 4)).off + 1, none⟩ = some (.string T.text) ∧ W.cell? ⟨(a.add (j * 4)).block, (a.add (j * 4)).off + 2, none⟩ = some (.slice k0 k1 k2) ∧ W.cell? ⟨(a.add (j * 4)).block, (a.add (j * 4)).off + 3, none⟩ = some (.slice l0 l1 l2) ∧ VR W (.agg #[.string T.kind, .string T.text, .slice k0 k1 k2, .slice l0 l1 l2]) T ∧ l[j]? = some T := by
  have h' := h.stay hb
  cases h' with
  | none => simp at hj
  | some a cap l kv lv hc hm hk hr =>
    obtain ⟨T, hT⟩ : ∃ T, l[j]? = some T := ⟨_, List.getElem?_eq_getElem hj⟩
    obtain ⟨h1, h2, h3, h4, h5, h6, h7⟩ := hk j T hT
    rw [fieldA _ _ 1 (by omega)] at h2
    rw [fieldA _ _ 2 (by omega)] at h3
    rw [fieldA _ _ 3 (by omega)] at h4
    have h8 := hr j T hT
    obtain ⟨ao, cp, e1, _⟩ := lr_slice h8
    obtain ⟨ko, kp, e2, _⟩ := strR_slice h7
    rw [e1] at h4 h8
    rw [e2] at h3 h7
    exact ⟨a, T, ko, ao, _, _, kp, cp, rfl, h1, h2, h3, h4, ⟨_, _, rfl, h5, h6, h7, h8⟩, hT⟩
/-- A value's block. -/
def VB (b : Nat) (k x : ByteArray) (kv lv : Value) (W : World) : Prop :=
  W.cell? ⟨b, 0, none⟩ = some (.string k) ∧ W.cell? ⟨b, 1, none⟩ = some (.string x) ∧ W.cell? ⟨b, 2, none⟩ = some kv ∧ W.cell? ⟨b, 3, none⟩ = some lv
set_option maxRecDepth 100000 in
set_option maxHeartbeats 16000000 in
theorem parts_step (d : Nat) (_hd : d ≤ 1000) (IH : ∀ (v : Value) (t : VT) (w : World), VR w v t → Calls Tryz.prog 21 #[v, .int .i64 (d : Int)] w (SomeN w)) {v : Value} {t : VT} {w : World} (h : VR w v t) : Calls Tryz.prog 21 #[v, .int .i64 ((d : Int) + 1)] w (SomeN w) := by
  obtain ⟨kv, lv, rfl, hk, ht, hs, hl⟩ := h.ex
  obtain ⟨k, hkk⟩ : ∃ k, k = t.kind := ⟨_, rfl⟩
  obtain ⟨x, hxx⟩ : ∃ x, x = t.text := ⟨_, rfl⟩
  rw [← hkk] at hk ⊢
  rw [← hxx] at ht ⊢
  obtain ⟨ao, cp, rfl, hll⟩ := lr_slice hl
  obtain ⟨ko, kp, rfl, hkl⟩ := strR_slice hs
  obtain ⟨n, hn⟩ : ∃ n, n = t.list.length := ⟨_, rfl⟩
  obtain ⟨m, hm⟩ : ∃ m, m = t.keys.length := ⟨_, rfl⟩
  rw [← hn] at hll hl ⊢
  rw [← hm] at hkl hs ⊢
  have HIH := Lib.hid IH
  have HLR := Lib.hid hl
  have HSR := Lib.hid hs
  have HN := Lib.hid hn
  have HM := Lib.hid hm
  unfold maxLen at hll hkl
  clear h hs hl hkk hxx IH hn hm
  have g0 : decide ((d : Int) + 1 < 1) = false := decide_eq_false (by omega)
  by_cases h1 : 200 < x.size
  · have i1 : decide ((200 : Int) < (x.size : Int)) = true := decide_eq_true (by omega)
    clear h1
    go_enter Tryz.func21, Tryz.ntmps21
    go_wp2_with (fail)
    go_ret
    exact ⟨1000, rfl, Nat.le_refl _, (Below.refl _ _).alloc (Nat.le_refl _) _⟩
  have i1 : decide ((200 : Int) < (x.size : Int)) = false := decide_eq_false (by omega)
  by_cases h2 : 80 < n
  · have i2 : decide ((80 : Int) < (n : Int)) = true := decide_eq_true (by omega)
    clear h1 h2
    go_enter Tryz.func21, Tryz.ntmps21
    go_wp2_with (fail)
    go_ret
    exact ⟨1000, rfl, Nat.le_refl _, (Below.refl _ _).alloc (Nat.le_refl _) _⟩
  have i2 : decide ((80 : Int) < (n : Int)) = false := decide_eq_false (by omega)
  by_cases h3 : 80 < m
  · have i3 : decide ((80 : Int) < (m : Int)) = true := decide_eq_true (by omega)
    clear h1 h2 h3
    go_enter Tryz.func21, Tryz.ntmps21
    go_wp2_with (fail)
    go_ret
    exact ⟨1000, rfl, Nat.le_refl _, (Below.refl _ _).alloc (Nat.le_refl _) _⟩
  have i3 : decide ((80 : Int) < (m : Int)) = false := decide_eq_false (by omega)
  have hx2 : x.size ≤ 200 := by omega
  have hn2 : n ≤ 80 := by omega
  have hm2 : m ≤ 80 := by omega
  clear h1 h2 h3 hk ht hll hkl
  go_enter Tryz.func21, Tryz.ntmps21
  obtain ⟨B, hB⟩ : ∃ B, B = w.heap.size := ⟨_, rfl⟩
  obtain ⟨W1, hW1⟩ : ∃ W1, W1 = w.alloc (.cells #[.string k, .string x, .slice ko m kp, .slice ao n cp] 56) := ⟨_, rfl⟩
  have HB1 : Hid (Below w.heap.size w W1) := by rw [hW1]; exact Lib.hid ((Below.refl _ _).alloc (Nat.le_refl _) _)
  have HS1 : Hid (W1.heap.size = B + 1) := by rw [hW1, World.size_alloc, hB]; exact Lib.hid rfl
  have HC : Hid (∀ W, Below W1.heap.size W1 W → VB B k x (.slice ko m kp) (.slice ao n cp) W) := by
    intro W hb
    have hc : W.heap[B]? = some (.cells #[.string k, .string x, .slice ko m kp, .slice ao n cp] 56 (0, 0)) := by
      rw [hb.block B (by rw [HS1.out]; omega), hW1, hB]; exact alloc_at _ _
    refine ⟨?_, ?_, ?_, ?_⟩ <;> simp [World.cell?, hc]
  have HB0 : Hid (B = w.heap.size) := hB
  go_upto_block 0 with (fail)
  rw [← hW1, ← hB]
  clear hW1 hB
  go_cut [] (fun wx => Below W1.heap.size W1 wx)
  case first =>
    as_aux_lemma =>
      obtain ⟨c0, c1, c2, c3⟩ := HC.out W1 (Below.refl _ _)
      have hE : ∀ Wx, Below W1.heap.size W1 Wx → SomeN w (.returned (.int .i64 1000)) Wx := fun Wx hb => ⟨1000, rfl, Nat.le_refl _, HB1.out.trans (hb.mono HB1.out.size)⟩
      have HE := Lib.hid hE
      clear hE
      by_cases q1 : k.toList = [110, 117, 108, 108]
      · have p1 : (k.toList == [110, 117, 108, 108]) = true := by simpa using q1
        clear q1
        go_wp2_with (fail)
        go_meet
        case rel => exact Below.refl _ _
      have p1 : (k.toList == [110, 117, 108, 108]) = false := by simpa using q1
      clear q1
      by_cases q2 : k.toList = [98, 111, 111, 108]
      · have p2 : (k.toList == [98, 111, 111, 108]) = true := by simpa using q2
        clear q2
        go_wp2_with (fail)
        all_goals first
          | (go_ret; exact HE.out _ (Below.refl _ _))
          | (go_meet; (case rel => exact Below.refl _ _))
      have p2 : (k.toList == [98, 111, 111, 108]) = false := by simpa using q2
      clear q2
      by_cases q3 : k.toList = [110, 117, 109, 98, 101, 114]
      · have p3 : (k.toList == [110, 117, 109, 98, 101, 114]) = true := by simpa using q3
        clear q3
        go_wp2_with (fail)
        refine (number_some x (by omega) _).mono ?_
        rintro e w2 ⟨b, rfl, rfl⟩
        cases b with
        | true =>
          go_wp2_with (fail)
          go_meet
          case rel => exact Below.refl _ _
        | false =>
          go_wp2_with (fail)
          go_ret
          exact HE.out _ (Below.refl _ _)
      have p3 : (k.toList == [110, 117, 109, 98, 101, 114]) = false := by simpa using q3
      clear q3
      by_cases q4 : k.toList = [115, 116, 114, 105, 110, 103]
      · have p4 : (k.toList == [115, 116, 114, 105, 110, 103]) = true := by simpa using q4
        clear q4
        obtain ⟨b, hb⟩ : ∃ b, b = vld x x.size 0 := ⟨_, rfl⟩
        have HV := valid_any x (by omega) W1
        unfold VldP at HV
        rw [← hb] at HV
        have HV := Lib.hid HV
        clear hb
        go_wp2_with (fail)
        refine HV.out.mono ?_
        rintro e w2 ⟨rfl, hb⟩
        have HB2 := Lib.hid hb
        clear hb
        cases b with
        | true =>
          go_wp2_with (fail)
          go_meet
          case rel => exact HB2.out
        | false =>
          go_wp2_with (fail)
          go_ret
          exact HE.out _ HB2.out
      have p4 : (k.toList == [115, 116, 114, 105, 110, 103]) = false := by simpa using q4
      clear q4
      by_cases q5 : k.toList = [108, 105, 115, 116]
      · have p5 : (k.toList == [108, 105, 115, 116]) = true := by simpa using q5
        clear q5
        go_wp2_with (fail)
        go_meet
        case rel => exact Below.refl _ _
      have p5 : (k.toList == [108, 105, 115, 116]) = false := by simpa using q5
      clear q5
      by_cases q6 : k.toList = [111, 98, 106, 101, 99, 116]
      · have p6 : (k.toList == [111, 98, 106, 101, 99, 116]) = true := by simpa using q6
        clear q6
        by_cases hmn : m = n
        · have i5 : ((m : Int) == (n : Int)) = true := by simp; omega
          have i6 : ((m : Int) != (n : Int)) = false := by simp; omega
          have HDI := Lib.hid (distinct_strR (HSR.out.stay HB1.out) (by rw [← HM.out]; omega))
          clear hmn
          go_wp2_with (fail)
          refine HDI.out.mono ?_
          rintro e w2 ⟨b, rfl, rfl⟩
          cases b with
          | false =>
            go_wp2_with (fail)
            go_ret
            exact HE.out _ (Below.refl _ _)
          | true =>
            go_wp2_with (fail)
            go_loopw [76] (fun i wr => ∃ j : Nat, i = .int .i64 j ∧ j ≤ m ∧ Hid (Below W1.heap.size W1 wr)) (fun i _ => m - (intOf i).toNat)
            case atStart => exact ⟨0, rfl, Nat.zero_le _, Below.refl _ _⟩
            case round =>
              obtain ⟨j, rfl, hj, HBR⟩ := hrel
              by_cases hjm : j < m
              · obtain ⟨a, rfl, HKC⟩ : ∃ a, ko = some a ∧ Hid (∃ s : ByteArray, wr.cell? (a.add j) = some (.string s) ∧ s.size ≤ 140737488351232) := by
                  rcases HSR.out with ⟨h1, h2⟩ | ⟨a, cap, h1, h2, h3, h4⟩
                  · have := HM.out; rw [h2] at this; simp at this; omega
                  · injection h1 with h1 _ _
                    refine ⟨a, h1, ?_⟩
                    obtain ⟨s, hs⟩ : ∃ s, t.keys[j]? = some s := ⟨_, List.getElem?_eq_getElem (by rw [← HM.out]; exact hjm)⟩
                    have hbw : Below w.heap.size w wr := HB1.out.trans (HBR.out.mono HB1.out.size)
                    exact ⟨s, (hbw.cell (cell_lt (h4 j s hs).1)).trans (h4 j s hs).1, (h4 j s hs).2⟩
                obtain ⟨s, cs, hss⟩ := HKC.out
                have j1 : decide ((j : Int) < (m : Int)) = true := decide_eq_true (by omega)
                have HVV := Lib.hid (fun h => valid_big s h wr)
                by_cases hs200 : s.size ≤ 200
                · have i7 : decide ((200 : Int) < (s.size : Int)) = false := decide_eq_false (by omega)
                  obtain ⟨b, hb⟩ : ∃ b, b = vld s s.size 0 := ⟨_, rfl⟩
                  have HV := HVV.out (by omega)
                  unfold VldP at HV
                  rw [← hb] at HV
                  have HV := Lib.hid HV
                  clear hb
                  go_wp2_with (fail)
                  refine HV.out.mono ?_
                  rintro e w2 ⟨rfl, hb⟩
                  have HB2 := Lib.hid (HBR.out.trans (hb.mono HBR.out.size))
                  clear hb
                  cases b with
                  | false =>
                    go_wp2_with (fail)
                    go_ret
                    exact HE.out _ HB2.out
                  | true =>
                    go_wp2_with (fail)
                    go_roundw
                    case rel => exact ⟨j + 1, by go_num, by omega, HB2⟩
                    case measure => simp [intOf]; omega
                · have i7 : decide ((200 : Int) < (s.size : Int)) = true := decide_eq_true (by omega)
                  obtain ⟨b, hb⟩ : ∃ b, b = vld s s.size 0 := ⟨_, rfl⟩
                  have HV := HVV.out (by omega)
                  unfold VldP at HV
                  rw [← hb] at HV
                  have HV := Lib.hid HV
                  clear hb
                  go_wp2_with (fail)
                  refine HV.out.mono ?_
                  rintro e w2 ⟨rfl, hb⟩
                  have HB2 := Lib.hid (HBR.out.trans (hb.mono HBR.out.size))
                  clear hb
                  cases b with
                  | false =>
                    go_wp2_with (fail)
                    go_ret
                    exact HE.out _ HB2.out
                  | true =>
                    go_wp2_with (fail)
                    go_ret
                    exact HE.out _ HB2.out
              · have j1 : decide ((j : Int) < (m : Int)) = false := decide_eq_false (by omega)
                go_wp2_with (fail)
                go_meet
                case rel => exact HBR.out
        · have i5 : ((m : Int) == (n : Int)) = false := by simp; omega
          have i6 : ((m : Int) != (n : Int)) = true := by simp; omega
          clear hmn
          go_wp2_with (fail)
          go_ret
          exact HE.out _ (Below.refl _ _)
      have p6 : (k.toList == [111, 98, 106, 101, 99, 116]) = false := by simpa using q6
      clear q6
      go_wp2_with (fail)
      go_ret
      exact HE.out _ (Below.refl _ _)
  case rest =>
    have HB2 := Lib.hid hcut
    clear hcut
    obtain ⟨c0, c1, c2, c3⟩ := HC.out wc HB2.out
    have HLC : Hid (∀ W, Below W1.heap.size W1 W → ∀ j, j < n → ∃ (a : Addr) (T : VT) (k0 l0 : Option Addr) (k1 l1 k2 l2 : Nat), ao = some a ∧ W.cell? (a.add (j * 4)) = some (.string T.kind) ∧ W.cell? ⟨(a.add (j * 4)).block, (a.add (j * 4)).off + 1, none⟩ = some (.string T.text) ∧ W.cell? ⟨(a.add (j * 4)).block, (a.add (j * 4)).off + 2, none⟩ = some (.slice k0 k1 k2) ∧ W.cell? ⟨(a.add (j * 4)).block, (a.add (j * 4)).off + 3, none⟩ = some (.slice l0 l1 l2) ∧ VR W (.agg #[.string T.kind, .string T.text, .slice k0 k1 k2, .slice l0 l1 l2]) T ∧ t.list[j]? = some T) := by
      intro W hb j hj
      have hbw : Below w.heap.size w W := HB1.out.trans (hb.mono HB1.out.size)
      exact lr_elem HLR.out hbw j (by rw [← HN.out]; exact hj)
    go_upto_region 26 with (fail)
    go_cut [113] (fun b wx => ∃ y : Bool, b = .bool y ∧ wc = wx)
    case first =>
      as_aux_lemma =>
        rcases Nat.eq_zero_or_pos n with rfl | z1
        · rcases Nat.eq_zero_or_pos m with rfl | z3
          · go_wp2_with (fail)
            all_goals (go_meet; (case rel => exact ⟨_, rfl, rfl⟩))
          · have z4 : decide ((0 : Int) < (m : Int)) = true := decide_eq_true (by omega)
            go_wp2_with (fail)
            all_goals (go_meet; (case rel => exact ⟨_, rfl, rfl⟩))
        · have z2 : decide ((0 : Int) < (n : Int)) = true := decide_eq_true (by omega)
          rcases Nat.eq_zero_or_pos m with rfl | z3
          · go_wp2_with (fail)
            all_goals (go_meet; (case rel => exact ⟨_, rfl, rfl⟩))
          · have z4 : decide ((0 : Int) < (m : Int)) = true := decide_eq_true (by omega)
            go_wp2_with (fail)
            all_goals (go_meet; (case rel => exact ⟨_, rfl, rfl⟩))
    case rest =>
      obtain ⟨y, rfl, rfl⟩ := hcut
      cases y with
      | true =>
        go_wp2_with (fail)
        go_ret
        exact ⟨1000, rfl, Nat.le_refl _, HB1.out.trans (HB2.out.mono HB1.out.size)⟩
      | false =>
        go_wp2_with (fail)
        go_loopw [5, 117] (fun nn i wr => ∃ q j : Nat, nn = .int .i64 q ∧ i = .int .i64 j ∧ q ≤ 80 ∧ j ≤ n ∧ Hid (Below W1.heap.size W1 wr)) (fun _ i _ => n - (intOf i).toNat)
        case atStart => exact ⟨1, 0, rfl, rfl, by omega, Nat.zero_le _, HB2.out⟩
        case round =>
          obtain ⟨q, j, rfl, rfl, hq, hj, HBR⟩ := hrel
          clear c0 c1 c2 c3
          by_cases hjn : j < n
          · have j1 : decide ((j : Int) < (n : Int)) = true := decide_eq_true (by omega)
            obtain ⟨a, T, k0, l0, k1, l1, k2, l2, rfl, e0, e1, e2, e3, hvr, _⟩ := HLC.out wr HBR.out j hjn
            have HBA : Hid (Below W1.heap.size W1 (wr.alloc (.cells #[.string T.kind, .string T.text, .slice k0 k1 k2, .slice l0 l1 l2] 56))) := HBR.out.alloc HBR.out.size _
            have HCALL := Lib.hid (HIH.out _ _ _ (hvr.stay ((Below.refl wr.heap.size wr).alloc (Nat.le_refl _) (.cells #[.string T.kind, .string T.text, .slice k0 k1 k2, .slice l0 l1 l2] 56))))
            clear hvr
            obtain ⟨tk, htk⟩ : ∃ tk, tk = T.kind := ⟨_, rfl⟩
            obtain ⟨tx, htx⟩ : ∃ tx, tx = T.text := ⟨_, rfl⟩
            rw [← htk] at e0 HBA HCALL
            rw [← htx] at e1 HBA HCALL
            clear htk htx
            go_wp2_with (fail)
            refine HCALL.out.mono ?_
            rintro e w3 ⟨r, rfl, hr, hb⟩
            have HB3 : Hid (Below W1.heap.size W1 w3) := HBA.out.trans (hb.mono HBA.out.size)
            clear hb
            have hqr : IntKind.i64.wrap ((q : Int) + (r : Int)) = ((q + r : Nat) : Int) := by rw [IntKind.wrap_i64]; omega
            by_cases h80 : 80 < q + r
            · have j2 : decide ((80 : Int) < (q : Int) + (r : Int)) = true := decide_eq_true (by omega)
              go_wp2_with (fail)
              go_ret
              exact ⟨1000, rfl, Nat.le_refl _, HB1.out.trans (HB3.out.mono HB1.out.size)⟩
            · have j2 : decide ((80 : Int) < (q : Int) + (r : Int)) = false := decide_eq_false (by omega)
              go_wp2_with (fail)
              go_roundw
              case rel => exact ⟨q + r, j + 1, by go_num, by go_num, by omega, by omega, HB3⟩
              case measure => simp [intOf]; omega
          · have j1 : decide ((j : Int) < (n : Int)) = false := decide_eq_false (by omega)
            go_wp2_with (fail)
            go_ret
            exact ⟨q, rfl, by omega, HB1.out.trans (HBR.out.mono HB1.out.size)⟩
set_option maxRecDepth 100000 in
set_option maxHeartbeats 4000000 in
theorem parts_some : ∀ (d : Nat), d ≤ 1000 → ∀ (v : Value) (t : VT) (w : World), VR w v t → Calls Tryz.prog 21 #[v, .int .i64 (d : Int)] w (SomeN w)
  | 0, _, v, t, w, h => by
    obtain ⟨kv, lv, rfl, _, _, _, _⟩ := h.ex
    have g0 : decide (((0 : Nat) : Int) < 1) = true := rfl
    go_enter Tryz.func21, Tryz.ntmps21
    go_wp2_with (fail)
    go_ret
    exact ⟨1000, rfl, Nat.le_refl _, (Below.refl _ _).alloc (Nat.le_refl _) _⟩
  | d + 1, hd, v, t, w, h => parts_step d (by omega) (parts_some d (by omega)) h
end Go.Proofs.YtpkkokhoeiimcaaGreatDoor
