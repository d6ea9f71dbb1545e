/- laws.parts: at most 80 only at trees that are well. -/
import Derived.Test.YtjganhmbjffjfaaGreatDoorZ0
import Derived.Test.YtjganhmbjffjfaaGreatDoorZ1
open Go Go.RowKit
namespace Go.Proofs.YtjganhmbjffjfaaGreatDoor
/-- What parts asks of one node. -/
def NdK (k x : ByteArray) (ks : List ByteArray) (n : Nat) : Prop :=
  k.toList = [110, 117, 108, 108] ∨ (k.toList = [98, 111, 111, 108] ∧ (x.toList = [116, 114, 117, 101] ∨ x.toList = [102, 97, 108, 115, 101])) ∨ (k.toList = [110, 117, 109, 98, 101, 114] ∧ HasD x) ∨ k.toList = [115, 116, 114, 105, 110, 103] ∨ k.toList = [108, 105, 115, 116] ∨
    (k.toList = [111, 98, 106, 101, 99, 116] ∧ ks.length = n ∧ NdS ks ∧ ∀ s ∈ ks, s.size ≤ 200)
/-- A tree that parts takes, with the number of its parts. -/
inductive PT : VT → Nat → Prop
  | node (t : VT) (ns : List Nat) (hx : t.text.size ≤ 200) (hn : t.list.length ≤ 80) (hm : t.keys.length ≤ 80) (hd : NdK t.kind t.text t.keys t.list.length) (hl : ns.length = t.list.length) (hc : ∀ (j : Nat) (x : VT) (n : Nat), t.list[j]? = some x → ns[j]? = some n → PT x n) : PT t (1 + ns.sum)
def PN (t : VT) (w : World) (e : Ending) (w' : World) : Prop := ∃ n : Nat, e = .returned (.int .i64 n) ∧ n ≤ 1000 ∧ Below w.heap.size w w' ∧ (n ≤ 80 → PT t n)
/-- What stands when j parts of a list are counted. -/
def PJ (l : List VT) (j q : Nat) : Prop := ∃ ns : List Nat, ns.length = j ∧ q = 1 + ns.sum ∧ ∀ (i : Nat) (x : VT) (n : Nat), l[i]? = some x → ns[i]? = some n → PT x n
theorem PJ.step {l : List VT} {j q r : Nat} {T : VT} (h : PJ l j q) (hT : l[j]? = some T) (hr : PT T r) : PJ l (j + 1) (q + r) := by
  obtain ⟨ns, h1, h2, h3⟩ := h
  refine ⟨ns ++ [r], by rw [List.length_append, h1]; rfl, by rw [List.sum_append, h2]; simp; omega, fun i x n hi hn => ?_⟩
  rcases Nat.lt_or_ge i ns.length with hj | hj
  · rw [List.getElem?_append_left hj] at hn
    exact h3 i x n hi hn
  · rw [List.getElem?_append_right hj] at hn
    have hj0 : i = j := by
      have := (List.getElem?_eq_some_iff.1 hn).1
      simp at this
      omega
    subst hj0
    rw [h1, Nat.sub_self] at hn
    cases hn
    rw [hT] at hi
    cases hi
    exact hr
set_option maxRecDepth 100000 in
set_option maxHeartbeats 16000000 in
theorem parts_pts (d : Nat) (_hd : d ≤ 1000) (IH : ∀ (v : Value) (t : VT) (w : World), VR w v t → Calls Tryz.prog 31 #[v, .int .i64 (d : Int)] w (PN t w)) {v : Value} {t : VT} {w : World} (h : VR w v t) : Calls Tryz.prog 31 #[v, .int .i64 ((d : Int) + 1)] w (PN t w) := by
  obtain ⟨kv, lv, rfl, hk, ht, hs, hl⟩ := h.ex
  obtain ⟨k, hkk⟩ : ∃ k, k = t.kind := ⟨_, rfl⟩
  obtain ⟨x, hxx⟩ : ∃ x, x = t.text := ⟨_, rfl⟩
  rw [← hkk] at hk ⊢
  rw [← hxx] at ht ⊢
  obtain ⟨ao, cp, rfl, hll⟩ := lr_slice hl
  obtain ⟨ko, kp, rfl, hkl⟩ := strR_slice hs
  obtain ⟨n, hn⟩ : ∃ n, n = t.list.length := ⟨_, rfl⟩
  obtain ⟨m, hm⟩ : ∃ m, m = t.keys.length := ⟨_, rfl⟩
  rw [← hn] at hll hl ⊢
  rw [← hm] at hkl hs ⊢
  have HIH := Lib.hid IH
  have HLR := Lib.hid hl
  have HSR := Lib.hid hs
  have HN := Lib.hid hn
  have HM := Lib.hid hm
  have HKX := Lib.hid (And.intro hkk hxx)
  unfold maxLen at hll hkl
  clear h hs hl hkk hxx IH hn hm
  have g0 : decide ((d : Int) + 1 < 1) = false := decide_eq_false (by omega)
  by_cases h1 : 200 < x.size
  · have i1 : decide ((200 : Int) < (x.size : Int)) = true := decide_eq_true (by omega)
    clear h1
    go_enter Tryz.func31, Tryz.ntmps31
    go_wp2_with (fail)
    go_ret
    exact ⟨1000, rfl, Nat.le_refl _, (Below.refl _ _).alloc (Nat.le_refl _) _, fun h => by omega⟩
  have i1 : decide ((200 : Int) < (x.size : Int)) = false := decide_eq_false (by omega)
  by_cases h2 : 80 < n
  · have i2 : decide ((80 : Int) < (n : Int)) = true := decide_eq_true (by omega)
    clear h1 h2
    go_enter Tryz.func31, Tryz.ntmps31
    go_wp2_with (fail)
    go_ret
    exact ⟨1000, rfl, Nat.le_refl _, (Below.refl _ _).alloc (Nat.le_refl _) _, fun h => by omega⟩
  have i2 : decide ((80 : Int) < (n : Int)) = false := decide_eq_false (by omega)
  by_cases h3 : 80 < m
  · have i3 : decide ((80 : Int) < (m : Int)) = true := decide_eq_true (by omega)
    clear h1 h2 h3
    go_enter Tryz.func31, Tryz.ntmps31
    go_wp2_with (fail)
    go_ret
    exact ⟨1000, rfl, Nat.le_refl _, (Below.refl _ _).alloc (Nat.le_refl _) _, fun h => by omega⟩
  have i3 : decide ((80 : Int) < (m : Int)) = false := decide_eq_false (by omega)
  have hx2 : x.size ≤ 200 := by omega
  have hn2 : n ≤ 80 := by omega
  have hm2 : m ≤ 80 := by omega
  clear h1 h2 h3 hk ht hll hkl
  go_enter Tryz.func31, Tryz.ntmps31
  obtain ⟨B, hB⟩ : ∃ B, B = w.heap.size := ⟨_, rfl⟩
  obtain ⟨W1, hW1⟩ : ∃ W1, W1 = w.alloc (.cells #[.string k, .string x, .slice ko m kp, .slice ao n cp] 25) := ⟨_, rfl⟩
  have HB1 : Hid (Below w.heap.size w W1) := by rw [hW1]; exact Lib.hid ((Below.refl _ _).alloc (Nat.le_refl _) _)
  have HS1 : Hid (W1.heap.size = B + 1) := by rw [hW1, World.size_alloc, hB]; exact Lib.hid rfl
  have HC : Hid (∀ W, Below W1.heap.size W1 W → VB B k x (.slice ko m kp) (.slice ao n cp) W) := by
    intro W hb
    have hc : W.heap[B]? = some (.cells #[.string k, .string x, .slice ko m kp, .slice ao n cp] 25 (0, 0)) := by
      rw [hb.block B (by rw [HS1.out]; omega), hW1, hB]; exact alloc_at _ _
    refine ⟨?_, ?_, ?_, ?_⟩ <;> simp [World.cell?, hc]
  have HB0 : Hid (B = w.heap.size) := hB
  go_upto_block 0 with (fail)
  rw [← hW1, ← hB]
  clear hW1 hB
  go_cut [] (fun wx => Below W1.heap.size W1 wx ∧ Hid (NdK k x t.keys n))
  case first =>
    as_aux_lemma =>
      obtain ⟨c0, c1, c2, c3⟩ := HC.out W1 (Below.refl _ _)
      have hE : ∀ Wx, Below W1.heap.size W1 Wx → PN t w (.returned (.int .i64 1000)) Wx := fun Wx hb => ⟨1000, rfl, Nat.le_refl _, HB1.out.trans (hb.mono HB1.out.size), fun h => by omega⟩
      have HE := Lib.hid hE
      clear hE
      by_cases q1 : k.toList = [110, 117, 108, 108]
      · have p1 : (k.toList == [110, 117, 108, 108]) = true := by simpa using q1
        have HQ : Hid (NdK k x t.keys n) := Lib.hid (.inl q1)
        clear q1
        go_wp2_with (fail)
        go_meet
        case rel => exact ⟨Below.refl _ _, HQ⟩
      have p1 : (k.toList == [110, 117, 108, 108]) = false := by simpa using q1
      clear q1
      by_cases q2 : k.toList = [98, 111, 111, 108]
      · have p2 : (k.toList == [98, 111, 111, 108]) = true := by simpa using q2
        have HQ : Hid ((x.toList = [116, 114, 117, 101] ∨ x.toList = [102, 97, 108, 115, 101]) → NdK k x t.keys n) := Lib.hid fun h => .inr (.inl ⟨q2, h⟩)
        clear q2
        by_cases r1 : x.toList = [116, 114, 117, 101]
        · have s1 : (x.toList == [116, 114, 117, 101]) = true := by simpa using r1
          have HR := Lib.hid (HQ.out (.inl r1))
          clear r1
          go_wp2_with (fail)
          all_goals first
            | (go_ret; exact HE.out _ (Below.refl _ _))
            | (go_meet; (case rel => exact ⟨Below.refl _ _, HR⟩))
        · have s1 : (x.toList == [116, 114, 117, 101]) = false := by simpa using r1
          clear r1
          by_cases r2 : x.toList = [102, 97, 108, 115, 101]
          · have s2 : (x.toList == [102, 97, 108, 115, 101]) = true := by simpa using r2
            have HR := Lib.hid (HQ.out (.inr r2))
            clear r2
            go_wp2_with (fail)
            all_goals first
              | (go_ret; exact HE.out _ (Below.refl _ _))
              | (go_meet; (case rel => exact ⟨Below.refl _ _, HR⟩))
          · have s2 : (x.toList == [102, 97, 108, 115, 101]) = false := by simpa using r2
            clear r2
            go_wp2_with (fail)
            all_goals (go_ret; exact HE.out _ (Below.refl _ _))
      have p2 : (k.toList == [98, 111, 111, 108]) = false := by simpa using q2
      clear q2
      by_cases q3 : k.toList = [110, 117, 109, 98, 101, 114]
      · have p3 : (k.toList == [110, 117, 109, 98, 101, 114]) = true := by simpa using q3
        have HQ : Hid (HasD x → NdK k x t.keys n) := Lib.hid fun h => .inr (.inr (.inl ⟨q3, h⟩))
        clear q3
        go_wp2_with (fail)
        refine (number_dig x (by omega) _).mono ?_
        rintro e w2 ⟨b, rfl, rfl, hdig⟩
        have HDG := Lib.hid hdig
        clear hdig
        cases b with
        | true =>
          have HR := Lib.hid (HQ.out (HDG.out rfl))
          go_wp2_with (fail)
          go_meet
          case rel => exact ⟨Below.refl _ _, HR⟩
        | false =>
          go_wp2_with (fail)
          go_ret
          exact HE.out _ (Below.refl _ _)
      have p3 : (k.toList == [110, 117, 109, 98, 101, 114]) = false := by simpa using q3
      clear q3
      by_cases q4 : k.toList = [115, 116, 114, 105, 110, 103]
      · have p4 : (k.toList == [115, 116, 114, 105, 110, 103]) = true := by simpa using q4
        have HQ : Hid (NdK k x t.keys n) := Lib.hid (.inr (.inr (.inr (.inl q4))))
        clear q4
        obtain ⟨b, hb⟩ : ∃ b, b = vld x x.size 0 := ⟨_, rfl⟩
        have HV := valid_any x (by omega) W1
        unfold VldP at HV
        rw [← hb] at HV
        have HV := Lib.hid HV
        clear hb
        go_wp2_with (fail)
        refine HV.out.mono ?_
        rintro e w2 ⟨rfl, hb⟩
        have HB2 := Lib.hid hb
        clear hb
        cases b with
        | true =>
          go_wp2_with (fail)
          go_meet
          case rel => exact ⟨HB2.out, HQ⟩
        | false =>
          go_wp2_with (fail)
          go_ret
          exact HE.out _ HB2.out
      have p4 : (k.toList == [115, 116, 114, 105, 110, 103]) = false := by simpa using q4
      clear q4
      by_cases q5 : k.toList = [108, 105, 115, 116]
      · have p5 : (k.toList == [108, 105, 115, 116]) = true := by simpa using q5
        have HQ : Hid (NdK k x t.keys n) := Lib.hid (.inr (.inr (.inr (.inr (.inl q5)))))
        clear q5
        go_wp2_with (fail)
        go_meet
        case rel => exact ⟨Below.refl _ _, HQ⟩
      have p5 : (k.toList == [108, 105, 115, 116]) = false := by simpa using q5
      clear q5
      by_cases q6 : k.toList = [111, 98, 106, 101, 99, 116]
      · have p6 : (k.toList == [111, 98, 106, 101, 99, 116]) = true := by simpa using q6
        have HQ : Hid (m = n → NdS t.keys → (∀ s ∈ t.keys, s.size ≤ 200) → NdK k x t.keys n) := Lib.hid fun h1 h2 h3 => .inr (.inr (.inr (.inr (.inr ⟨q6, by rw [← HM.out]; exact h1, h2, h3⟩))))
        clear q6
        by_cases hmn : m = n
        · have i5 : ((m : Int) == (n : Int)) = true := by simp; omega
          have i6 : ((m : Int) != (n : Int)) = false := by simp; omega
          have HDI := Lib.hid (distinct_nd (HSR.out.stay HB1.out) (by rw [← HM.out]; omega))
          have HQ2 := Lib.hid (HQ.out hmn)
          clear hmn
          go_wp2_with (fail)
          refine HDI.out.mono ?_
          rintro e w2 ⟨b, rfl, rfl, hnd⟩
          have HND := Lib.hid hnd
          clear hnd
          cases b with
          | false =>
            go_wp2_with (fail)
            go_ret
            exact HE.out _ (Below.refl _ _)
          | true =>
            go_wp2_with (fail)
            go_loopw [76] (fun i wr => ∃ j : Nat, i = .int .i64 j ∧ j ≤ m ∧ Hid (Below W1.heap.size W1 wr) ∧ Hid (∀ s ∈ t.keys.take j, s.size ≤ 200)) (fun i _ => m - (intOf i).toNat)
            case atStart => exact ⟨0, rfl, Nat.zero_le _, Below.refl _ _, Lib.hid fun s hs => by cases hs⟩
            case round =>
              obtain ⟨j, rfl, hj, HBR, HKS⟩ := hrel
              by_cases hjm : j < m
              · obtain ⟨a, rfl, HKC⟩ : ∃ a, ko = some a ∧ Hid (∃ s : ByteArray, wr.cell? (a.add j) = some (.string s) ∧ s.size ≤ 140737488351232 ∧ t.keys[j]? = some s) := by
                  rcases HSR.out with ⟨h1, h2⟩ | ⟨a, cap, h1, h2, h3, h4⟩
                  · have := HM.out; rw [h2] at this; simp at this; omega
                  · injection h1 with h1 _ _
                    refine ⟨a, h1, ?_⟩
                    obtain ⟨s, hs⟩ : ∃ s, t.keys[j]? = some s := ⟨_, List.getElem?_eq_getElem (by rw [← HM.out]; exact hjm)⟩
                    have hbw : Below w.heap.size w wr := HB1.out.trans (HBR.out.mono HB1.out.size)
                    exact ⟨s, (hbw.cell (cell_lt (h4 j s hs).1)).trans (h4 j s hs).1, (h4 j s hs).2, hs⟩
                obtain ⟨s, cs, hss, hsj⟩ := HKC.out
                have HSJ := Lib.hid hsj
                clear hsj
                have j1 : decide ((j : Int) < (m : Int)) = true := decide_eq_true (by omega)
                have HVV := Lib.hid (fun h => valid_big s h wr)
                by_cases hs200 : s.size ≤ 200
                · have i7 : decide ((200 : Int) < (s.size : Int)) = false := decide_eq_false (by omega)
                  have HKS1 : Hid (∀ s ∈ t.keys.take (j + 1), s.size ≤ 200) := by
                    refine Lib.hid fun y hy => ?_
                    rw [List.take_add_one, HSJ.out] at hy
                    rcases List.mem_append.1 hy with hy | hy
                    · exact HKS.out y hy
                    · rw [Option.toList_some, List.mem_singleton] at hy
                      rw [hy]; exact hs200
                  obtain ⟨b, hb⟩ : ∃ b, b = vld s s.size 0 := ⟨_, rfl⟩
                  have HV := HVV.out (by omega)
                  unfold VldP at HV
                  rw [← hb] at HV
                  have HV := Lib.hid HV
                  clear hb
                  go_wp2_with (fail)
                  refine HV.out.mono ?_
                  rintro e w2 ⟨rfl, hb⟩
                  have HB2 := Lib.hid (HBR.out.trans (hb.mono HBR.out.size))
                  clear hb
                  cases b with
                  | false =>
                    go_wp2_with (fail)
                    go_ret
                    exact HE.out _ HB2.out
                  | true =>
                    go_wp2_with (fail)
                    go_roundw
                    case rel => exact ⟨j + 1, by go_num, by omega, HB2, HKS1⟩
                    case measure => simp [intOf]; omega
                · have i7 : decide ((200 : Int) < (s.size : Int)) = true := decide_eq_true (by omega)
                  obtain ⟨b, hb⟩ : ∃ b, b = vld s s.size 0 := ⟨_, rfl⟩
                  have HV := HVV.out (by omega)
                  unfold VldP at HV
                  rw [← hb] at HV
                  have HV := Lib.hid HV
                  clear hb
                  go_wp2_with (fail)
                  refine HV.out.mono ?_
                  rintro e w2 ⟨rfl, hb⟩
                  have HB2 := Lib.hid (HBR.out.trans (hb.mono HBR.out.size))
                  clear hb
                  cases b with
                  | false =>
                    go_wp2_with (fail)
                    go_ret
                    exact HE.out _ HB2.out
                  | true =>
                    go_wp2_with (fail)
                    go_ret
                    exact HE.out _ HB2.out
              · have j1 : decide ((j : Int) < (m : Int)) = false := decide_eq_false (by omega)
                have HR : Hid (NdK k x t.keys n) := by
                  have h0 := HKS.out
                  rw [List.take_of_length_le (by rw [← HM.out]; omega)] at h0
                  exact Lib.hid (HQ2.out (HND.out (by first | trivial | rfl)) h0)
                go_wp2_with (fail)
                go_meet
                case rel => exact ⟨HBR.out, HR⟩
        · have i5 : ((m : Int) == (n : Int)) = false := by simp; omega
          have i6 : ((m : Int) != (n : Int)) = true := by simp; omega
          clear hmn
          go_wp2_with (fail)
          go_ret
          exact HE.out _ (Below.refl _ _)
      have p6 : (k.toList == [111, 98, 106, 101, 99, 116]) = false := by simpa using q6
      clear q6
      go_wp2_with (fail)
      go_ret
      exact HE.out _ (Below.refl _ _)
  case rest =>
    obtain ⟨hcut, HNK⟩ := hcut
    have HB2 := Lib.hid hcut
    clear hcut
    obtain ⟨c0, c1, c2, c3⟩ := HC.out wc HB2.out
    have HLC : Hid (∀ W, Below W1.heap.size W1 W → ∀ j, j < n → ∃ (a : Addr) (T : VT) (k0 l0 : Option Addr) (k1 l1 k2 l2 : Nat), ao = some a ∧ W.cell? (a.add (j * 4)) = some (.string T.kind) ∧ W.cell? ⟨(a.add (j * 4)).block, (a.add (j * 4)).off + 1, none⟩ = some (.string T.text) ∧ W.cell? ⟨(a.add (j * 4)).block, (a.add (j * 4)).off + 2, none⟩ = some (.slice k0 k1 k2) ∧ W.cell? ⟨(a.add (j * 4)).block, (a.add (j * 4)).off + 3, none⟩ = some (.slice l0 l1 l2) ∧ VR W (.agg #[.string T.kind, .string T.text, .slice k0 k1 k2, .slice l0 l1 l2]) T ∧ t.list[j]? = some T) := by
      intro W hb j hj
      have hbw : Below w.heap.size w W := HB1.out.trans (hb.mono HB1.out.size)
      exact lr_elem HLR.out hbw j (by rw [← HN.out]; exact hj)
    go_upto_region 26 with (fail)
    go_cut [113] (fun b wx => ∃ y : Bool, b = .bool y ∧ wc = wx)
    case first =>
      as_aux_lemma =>
        rcases Nat.eq_zero_or_pos n with rfl | z1
        · rcases Nat.eq_zero_or_pos m with rfl | z3
          · go_wp2_with (fail)
            all_goals (go_meet; (case rel => exact ⟨_, rfl, rfl⟩))
          · have z4 : decide ((0 : Int) < (m : Int)) = true := decide_eq_true (by omega)
            go_wp2_with (fail)
            all_goals (go_meet; (case rel => exact ⟨_, rfl, rfl⟩))
        · have z2 : decide ((0 : Int) < (n : Int)) = true := decide_eq_true (by omega)
          rcases Nat.eq_zero_or_pos m with rfl | z3
          · go_wp2_with (fail)
            all_goals (go_meet; (case rel => exact ⟨_, rfl, rfl⟩))
          · have z4 : decide ((0 : Int) < (m : Int)) = true := decide_eq_true (by omega)
            go_wp2_with (fail)
            all_goals (go_meet; (case rel => exact ⟨_, rfl, rfl⟩))
    case rest =>
      obtain ⟨y, rfl, rfl⟩ := hcut
      cases y with
      | true =>
        go_wp2_with (fail)
        go_ret
        exact ⟨1000, rfl, Nat.le_refl _, HB1.out.trans (HB2.out.mono HB1.out.size), fun h => by omega⟩
      | false =>
        go_wp2_with (fail)
        go_loopw [5, 117] (fun nn i wr => ∃ q j : Nat, nn = .int .i64 q ∧ i = .int .i64 j ∧ q ≤ 80 ∧ j ≤ n ∧ Hid (Below W1.heap.size W1 wr) ∧ Hid (PJ t.list j q)) (fun _ i _ => n - (intOf i).toNat)
        case atStart => exact ⟨1, 0, rfl, rfl, by omega, Nat.zero_le _, HB2.out, Lib.hid ⟨[], rfl, rfl, fun i x n _ hn => by cases hn⟩⟩
        case round =>
          obtain ⟨q, j, rfl, rfl, hq, hj, HBR, HPJ⟩ := hrel
          clear c0 c1 c2 c3
          by_cases hjn : j < n
          · have j1 : decide ((j : Int) < (n : Int)) = true := decide_eq_true (by omega)
            obtain ⟨a, T, k0, l0, k1, l1, k2, l2, rfl, e0, e1, e2, e3, hvr, hTj⟩ := HLC.out wr HBR.out j hjn
            have HTJ := Lib.hid hTj
            have HBA : Hid (Below W1.heap.size W1 (wr.alloc (.cells #[.string T.kind, .string T.text, .slice k0 k1 k2, .slice l0 l1 l2] 25))) := HBR.out.alloc HBR.out.size _
            have HCALL := Lib.hid (HIH.out _ _ _ (hvr.stay ((Below.refl wr.heap.size wr).alloc (Nat.le_refl _) (.cells #[.string T.kind, .string T.text, .slice k0 k1 k2, .slice l0 l1 l2] 25))))
            unfold PN at HCALL
            clear hvr hTj
            obtain ⟨tk, htk⟩ : ∃ tk, tk = T.kind := ⟨_, rfl⟩
            obtain ⟨tx, htx⟩ : ∃ tx, tx = T.text := ⟨_, rfl⟩
            rw [← htk] at e0 HBA HCALL
            rw [← htx] at e1 HBA HCALL
            clear htk htx
            go_wp2_with (fail)
            refine HCALL.out.mono ?_
            rintro e w3 ⟨r, rfl, hr, hb, hpt⟩
            have HPT := Lib.hid hpt
            have HB3 : Hid (Below W1.heap.size W1 w3) := HBA.out.trans (hb.mono HBA.out.size)
            clear hb hpt
            have hqr : IntKind.i64.wrap ((q : Int) + (r : Int)) = ((q + r : Nat) : Int) := by rw [IntKind.wrap_i64]; omega
            by_cases h80 : 80 < q + r
            · have j2 : decide ((80 : Int) < (q : Int) + (r : Int)) = true := decide_eq_true (by omega)
              go_wp2_with (fail)
              go_ret
              exact ⟨1000, rfl, Nat.le_refl _, HB1.out.trans (HB3.out.mono HB1.out.size), fun h => by omega⟩
            · have j2 : decide ((80 : Int) < (q : Int) + (r : Int)) = false := decide_eq_false (by omega)
              have HPJ1 : Hid (PJ t.list (j + 1) (q + r)) := Lib.hid (HPJ.out.step HTJ.out (HPT.out (by omega)))
              go_wp2_with (fail)
              go_roundw
              case rel => exact ⟨q + r, j + 1, by go_num, by go_num, by omega, by omega, HB3, HPJ1⟩
              case measure => simp [intOf]; omega
          · have j1 : decide ((j : Int) < (n : Int)) = false := decide_eq_false (by omega)
            have HE : Hid (PT t q) := by
              obtain ⟨ns, e1, e2, e3⟩ := HPJ.out
              rw [e2]
              exact Lib.hid (.node t ns (by rw [← HKX.out.2]; exact hx2) (by rw [← HN.out]; exact hn2) (by rw [← HM.out]; exact hm2) (by rw [← HKX.out.1, ← HKX.out.2, ← HN.out]; exact HNK.out) (by rw [e1, ← HN.out]; omega) e3)
            go_wp2_with (fail)
            go_ret
            exact ⟨q, rfl, by omega, HB1.out.trans (HBR.out.mono HB1.out.size), fun _ => HE.out⟩
set_option maxRecDepth 100000 in
set_option maxHeartbeats 4000000 in
theorem parts_pt : ∀ (d : Nat), d ≤ 1000 → ∀ (v : Value) (t : VT) (w : World), VR w v t → Calls Tryz.prog 31 #[v, .int .i64 (d : Int)] w (PN t w)
  | 0, _, v, t, w, h => by
    obtain ⟨kv, lv, rfl, _, _, _, _⟩ := h.ex
    have g0 : decide (((0 : Nat) : Int) < 1) = true := rfl
    go_enter Tryz.func31, Tryz.ntmps31
    go_wp2_with (fail)
    go_ret
    exact ⟨1000, rfl, Nat.le_refl _, (Below.refl _ _).alloc (Nat.le_refl _) _, fun h => by omega⟩
  | d + 1, hd, v, t, w, h => parts_pts d (by omega) (parts_pt d (by omega)) h
end Go.Proofs.YtjganhmbjffjfaaGreatDoor
