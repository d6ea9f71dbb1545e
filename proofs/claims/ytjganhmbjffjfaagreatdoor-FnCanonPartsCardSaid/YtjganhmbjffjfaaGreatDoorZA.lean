/- laws.FnCanonParts: the walk. -/
import Derived.Test.YtjganhmbjffjfaaGreatDoorZD
import Derived.Test.YtjganhmbjffjfaaGreatDoorZC
import Derived.Test.YtjganhmbjffjfaaGreatDoorY8
import Derived.Test.YtjganhmbjffjfaaGreatDoorA1
import Derived.Test.YtjganhmbjffjfaaGreatDoorV2
open Go Go.RowKit
namespace Go.Proofs.YtjganhmbjffjfaaGreatDoor
theorem info_int : (Tryz.prog.info? 3).map (fun i => (i.zero, i.size, i.bytes)) = some (some (.int .i64 0), 1, 8) := by kernel_rfl
theorem row_one (w : World) (x : Value) (T : TypeId) : (w.alloc (.cells #[x] T)).ownsRow w.heap.size T 1 (.slice (some ⟨w.heap.size, 0, none⟩) 1 1) 1 [x] :=
  ⟨rfl, .inr ⟨w.heap.size, 1, #[x], rfl, Nat.le_refl _, alloc_at _ _, Nat.le_refl _, by decide, rfl, rfl⟩⟩
theorem own_base {w : World} {R R' k n : Nat} {T : TypeId} {v : Value} {xs : List Value} (h : w.ownsRow R T k v n xs) (hR : R' ≤ R) : w.ownsRow R' T k v n xs := by
  refine ⟨h.1, ?_⟩
  rcases h.2 with hn | ⟨g, cap, cur, e, h1, rest⟩
  · exact .inl hn
  · exact .inr ⟨g, cap, cur, e, Nat.le_trans hR h1, rest⟩
theorem bs_app (S T : ByteArray) : (S ++ T).data.toList = S.data.toList ++ T.data.toList := by rw [ByteArray.data_append, Array.toList_append]
theorem bsz_app (S T : ByteArray) : (S ++ T).size = S.size + T.size := by rw [Lib.size_eq, bs_app, List.length_append, Lib.size_eq, Lib.size_eq]
theorem encStr_ge (l : List UInt8) : l.length ≤ (encStr l).length := by
  have h1 := rep_long (c := 92) (new := [92, 92]) (by decide) l
  have h2 := rep_long (c := 34) (new := [92, 34]) (by decide) (repB 92 [92, 92] l)
  simp only [encStr, List.length_append, List.length_cons, List.length_nil]
  omega
theorem addr_add2 (a : Addr) (i j : Nat) : (a.add i).add j = a.add (i + j) := by
  unfold Addr.add
  by_cases hi : i = 0 <;> by_cases hj : j = 0 <;> simp [hi, hj, Nat.add_assoc]
set_option maxRecDepth 100000 in
set_option maxHeartbeats 16000000 in
theorem fnCanonParts_any {v : Value} {t : VT} {w : World} (h : VR w v t) (hN : TL w.heap.size w) : Calls Tryz.prog 3 #[v] w fun e w' => e = .returned (.bool true) ∧ Below w.heap.size w w' := by
  have hmm := @run_makeMap Tryz.prog
  obtain ⟨i0, ii, iz0, iz1, iz2⟩ := info_parts info_int
  obtain ⟨kv, lv, rfl, _, _, h3, h4⟩ := h.ex
  obtain ⟨ko, kp, hk0, hkl⟩ := strR_slice h3
  obtain ⟨lo, lp, hl0, hll⟩ := lr_slice h4
  subst hk0 hl0
  obtain ⟨k, hkk⟩ : ∃ k, k = t.kind := ⟨_, rfl⟩
  obtain ⟨x, hxx⟩ : ∃ x, x = t.text := ⟨_, rfl⟩
  obtain ⟨n, hn⟩ : ∃ n, n = t.list.length := ⟨_, rfl⟩
  obtain ⟨m, hm⟩ : ∃ m, m = t.keys.length := ⟨_, rfl⟩
  rw [← hkk, ← hxx, ← hn, ← hm] at h ⊢
  rw [← hn] at h4
  rw [← hm] at h3
  have HL4 := Lib.hid h4
  have HL3 : Hid (∀ W, Below w.heap.size w W → ∀ (j : Nat) (s : ByteArray), t.keys[j]? = some s → ∃ ad, ko = some ad ∧ W.cell? (ad.add j) = some (.string s)) := by
    obtain ⟨ao, cp, e, hc⟩ := strR_cells h3
    injection e with e1 _ _
    rw [e1]
    exact Lib.hid hc
  have HVR := Lib.hid h
  have HN := Lib.hid hN
  have HKX := Lib.hid (And.intro hkk (And.intro hxx (And.intro hn hm)))
  obtain ⟨B, hB⟩ : ∃ B, B = w.heap.size := ⟨_, rfl⟩
  obtain ⟨W1, hW1⟩ : ∃ W1, W1 = w.alloc (.cells #[.string k, .string x, .slice ko m kp, .slice lo n lp] 25) := ⟨_, rfl⟩
  have HB1 : Hid (Below w.heap.size w W1) := by rw [hW1]; exact Lib.hid ((Below.refl _ _).alloc (Nat.le_refl _) _)
  have HBS : Hid (B = w.heap.size) := Lib.hid hB
  have HS1 : Hid (W1.heap.size = B + 1) := by rw [hW1, World.size_alloc, hB]; exact Lib.hid rfl
  have HC : Hid (∀ W, Below W1.heap.size W1 W → VB B k x (.slice ko m kp) (.slice lo n lp) W) := by
    intro W hb
    have hc : W.heap[B]? = some (.cells #[.string k, .string x, .slice ko m kp, .slice lo n lp] 25 (0, 0)) := by
      rw [hb.block B (by rw [HS1.out]; omega), hW1, hB]; exact alloc_at _ _
    refine ⟨?_, ?_, ?_, ?_⟩ <;> simp [World.cell?, hc]
  have HS2 : Hid (∀ W, Below W1.heap.size W1 W → Below w.heap.size w W) := fun W hb => HB1.out.trans (hb.mono (by rw [HS1.out, HBS.out]; omega))
  have HAW : Hid (∀ W, Below W1.heap.size W1 W → Calls Tryz.prog 12 #[] W fun e w' => e = .returned (.bool true) ∧ Below W.heap.size W w') := by
    intro W hb
    exact awake_true _ W (HN.out.mono (Nat.le_refl _) (HS2.out W hb))
  have HF : Hid (Calls Tryz.prog 9 #[.agg #[.string k, .string x, .slice ko m kp, .slice lo n lp]] W1 (SomeB W1)) := Lib.hid (fits1_some (HVR.out.stay HB1.out))
  unfold SomeB at HF
  have HWL : Hid (∀ W, Below W1.heap.size W1 W → Calls Tryz.prog 10 #[.agg #[.string k, .string x, .slice ko m kp, .slice lo n lp]] W (WhP (∃ n, n ≤ 80 ∧ PT t n) W)) := Lib.hid fun W hb => well_pt (HVR.out.stay (HS2.out W hb))
  unfold WhP at HWL
  have HWH : Hid (∀ q, PT t q → ∀ W, Below W1.heap.size W1 W → Calls Tryz.prog 11 #[.agg #[.string k, .string x, .slice ko m kp, .slice lo n lp]] W (WhP (∃ u, CanT t u ∧ u.length ≤ 80000 * q) W)) := Lib.hid fun q hq W hb => whole_can hq W _ (HVR.out.stay (HS2.out W hb))
  unfold WhP at HWH
  have HW1 := Lib.hid hW1
  clear h h3 h4 hN hkk hxx hn hm hB hW1 hkl hll
  obtain ⟨c0, c1, c2, c3⟩ := HC.out W1 (Below.refl _ _)
  go_enter Tryz.func3, Tryz.ntmps3
  go_wp2_with (fail)
  rw [← HBS.out, ← HW1.out]
  (with_reducible refine HF.out.mono ?_)
  rintro e w2 ⟨b, rfl, hb⟩
  have HB2 := Lib.hid hb
  clear hb c0 c1 c2 c3
  obtain ⟨c0, c1, c2, c3⟩ := HC.out w2 HB2.out
  cases b with
  | false =>
    go_wp2_with (fail)
    go_ret
    exact ⟨rfl, HS2.out _ HB2.out⟩
  | true =>
  go_upto_region 3 with (fail)
  go_cut [33] (fun b wx => ∃ y : Bool, b = .bool y ∧ Hid (Below W1.heap.size W1 wx) ∧ Hid (y = false → ∃ (q : Nat) (u : List UInt8) (ob : Bool), q ≤ 80 ∧ PT t q ∧ CanT t u ∧ u.length ≤ 80000 * q ∧ k.toList = kdB ob))
  case first =>
    as_aux_lemma =>
      have HT : Hid (true = false → ∃ (q : Nat) (u : List UInt8) (ob : Bool), q ≤ 80 ∧ PT t q ∧ CanT t u ∧ u.length ≤ 80000 * q ∧ k.toList = kdB ob) := Lib.hid fun h => by cases h
      go_wp2_with (fail)
      (with_reducible refine (HWL.out _ HB2.out).mono ?_)
      rintro e w3 ⟨b, rfl, hb, hpt⟩
      have HPT := Lib.hid hpt
      have HB3 := Lib.hid (HB2.out.trans (hb.mono HB2.out.size))
      clear hb hpt c0 c1 c2 c3
      obtain ⟨c0, c1, c2, c3⟩ := HC.out w3 HB3.out
      cases b with
      | false =>
        go_wp2_with (fail)
        go_meet
        case rel => exact ⟨_, rfl, HB3, HT⟩
      | true =>
      obtain ⟨q, hq80, hq⟩ := HPT.out rfl
      have HQ := Lib.hid (And.intro hq80 hq)
      clear hq80 hq
      go_wp2_with (fail)
      (with_reducible refine (HWH.out q HQ.out.2 _ HB3.out).mono ?_)
      rintro e w4 ⟨b, rfl, hb, hcan⟩
      have HCAN := Lib.hid hcan
      have HB4 := Lib.hid (HB3.out.trans (hb.mono HB3.out.size))
      clear hb hcan c0 c1 c2 c3
      obtain ⟨c0, c1, c2, c3⟩ := HC.out w4 HB4.out
      cases b with
      | false =>
        go_wp2_with (fail)
        go_meet
        case rel => exact ⟨_, rfl, HB4, HT⟩
      | true =>
      obtain ⟨u, hu1, hu2⟩ := HCAN.out rfl
      have HU := Lib.hid (And.intro hu1 hu2)
      clear hu1 hu2
      by_cases q5 : k.toList = [108, 105, 115, 116]
      · have p5 : (k.toList == [108, 105, 115, 116]) = true := by simpa using q5
        have HG : Hid (∃ (q : Nat) (u : List UInt8) (ob : Bool), q ≤ 80 ∧ PT t q ∧ CanT t u ∧ u.length ≤ 80000 * q ∧ k.toList = kdB ob) := Lib.hid ⟨q, u, false, HQ.out.1, HQ.out.2, HU.out.1, HU.out.2, q5⟩
        clear q5
        go_wp2_with (fail)
        go_meet
        case rel => exact ⟨_, rfl, HB4, Lib.hid fun _ => HG.out⟩
      have p5 : (k.toList == [108, 105, 115, 116]) = false := by simpa using q5
      have p5' : (k.toList != [108, 105, 115, 116]) = true := by simpa using q5
      clear q5
      by_cases q6 : k.toList = [111, 98, 106, 101, 99, 116]
      · have p6 : (k.toList == [111, 98, 106, 101, 99, 116]) = true := by simpa using q6
        have HG : Hid (∃ (q : Nat) (u : List UInt8) (ob : Bool), q ≤ 80 ∧ PT t q ∧ CanT t u ∧ u.length ≤ 80000 * q ∧ k.toList = kdB ob) := Lib.hid ⟨q, u, true, HQ.out.1, HQ.out.2, HU.out.1, HU.out.2, q6⟩
        clear q6
        go_wp2_with (fail)
        go_meet
        case rel => exact ⟨_, rfl, HB4, Lib.hid fun _ => HG.out⟩
      have p6 : (k.toList == [111, 98, 106, 101, 99, 116]) = false := by simpa using q6
      have p6' : (k.toList != [111, 98, 106, 101, 99, 116]) = true := by simpa using q6
      clear q6
      go_wp2_with (fail)
      go_meet
      case rel => exact ⟨_, rfl, HB4, HT⟩
  case rest =>
  obtain ⟨wz, rfl⟩ : ∃ wz, wz = wc := ⟨_, rfl⟩
  obtain ⟨y, rfl, HB4, HFF⟩ := hcut
  clear c0 c1 c2 c3
  cases y with
  | true =>
    go_wp2_with (fail)
    (with_reducible refine (HAW.out _ HB4.out).mono ?_)
    rintro e w9 ⟨rfl, hb⟩
    have HB9 := Lib.hid (HB4.out.trans (hb.mono HB4.out.size))
    clear hb
    go_wp2_with (fail)
    go_ret
    exact ⟨rfl, HS2.out _ HB9.out⟩
  | false =>
  obtain ⟨q, u, ob, hq80, hpt, hcan, hul, hkd⟩ := HFF.out rfl
  have HU := Lib.hid (And.intro hcan hul)
  have HQ := Lib.hid (And.intro hq80 hpt)
  have hn80 : n ≤ 80 := by rw [HKX.out.2.2.1]; cases hpt; assumption
  have p6 : (k.toList == [111, 98, 106, 101, 99, 116]) = ob := by rw [hkd]; cases ob <;> rfl
  obtain ⟨L, hL1, hL2, hL3, hL4, hL5⟩ := canT_parts ob hcan (by rw [← HKX.out.1]; exact hkd)
  have HLL := Lib.hid hL1
  have HLC := Lib.hid hL3
  have HLU := Lib.hid (And.intro hL4 hL5)
  have HKD := Lib.hid hkd
  clear hcan hul hq80 hpt hkd hL1 hL2 hL3 hL4 hL5
  obtain ⟨A, hA⟩ : ∃ A, A = t.keys.map (·.data.toList) := ⟨_, rfl⟩
  have HA := Lib.hid hA
  clear hA
  have HMN : Hid (ob = true → m = n) := Lib.hid fun h => by rw [HKX.out.2.2.1, HKX.out.2.2.2]; exact (HLU.out.2 h).1
  obtain ⟨R, hR⟩ : ∃ R, R = wz.heap.size := ⟨_, rfl⟩
  obtain ⟨W5, hW5⟩ : ∃ W5, W5 = wz.alloc (.cells #[] 3) := ⟨_, rfl⟩
  have H0 : Hid (OrdR A ob R wz 0 (.slice (some ⟨R, 0, none⟩) 0 0) W5) := by
    have ho : W5.ownsRow R 3 1 (.slice (some ⟨R, 0, none⟩) 0 0) 0 (intsOf []) := ⟨rfl, .inr ⟨R, 0, #[], rfl, Nat.le_refl _, by rw [hW5, hR]; exact alloc_at _ _, Nat.le_refl _, by decide, rfl, rfl⟩⟩
    have hb : Below R wz W5 := by rw [hW5, hR]; exact (Below.refl _ _).alloc (Nat.le_refl _) _
    exact Lib.hid ⟨[], R, 0, rfl, ho, List.Perm.refl _, (fun _ => List.Pairwise.nil), (fun _ => rfl), hb⟩
  have HB5 : Hid (Below W1.heap.size W1 W5) := by rw [hW5]; exact Lib.hid (HB4.out.alloc HB4.out.size _)
  have HR := Lib.hid hR
  have HW5 := Lib.hid hW5
  clear hR hW5
  go_upto_region 6 with (fail)
  rw [← HW5.out, ← HR.out]
  obtain ⟨c0, c1, c2, c3⟩ := HC.out W5 HB5.out
  go_wp2_with (fail)
  clear c0 c1 c2 c3
  go_loopg [3, 39] n (fun gk2 v i wr => ∃ j : Nat, j + gk2 = n ∧ i = .int .i64 j ∧ Hid (OrdR A ob R wz j v wr))
  case atStart => exact ⟨0, by omega, rfl, H0⟩
  case round =>
    obtain ⟨j, hj, rfl, HO⟩ := hrel
    obtain ⟨σ, sg, cap, rfl, hown, hperm, hsort, hσ, hbw⟩ := HO.out
    have HOWN := Lib.hid hown
    have HS := Lib.hid (And.intro hperm (And.intro hsort hσ))
    have HBW := Lib.hid hbw
    have HBR : Hid (Below W1.heap.size W1 wr) := Lib.hid (HB4.out.trans (hbw.mono (by rw [HR.out]; exact HB4.out.size)))
    clear hown hperm hsort hσ hbw HO
    cases gk with
    | zero =>
      obtain ⟨wq, rfl⟩ : ∃ wq, wq = wr := ⟨_, rfl⟩
      have hjn : j = n := by omega
      clear hj
      subst hjn
      have hki : ¬ (j : Int) < (j : Int) := by omega
      obtain ⟨ad, had⟩ : ∃ ad : Addr, ad = ⟨sg, 0, none⟩ := ⟨_, rfl⟩
      have HCELL : Hid (∀ W, Below wq.heap.size wq W → ∀ (i x : Nat), σ[i]? = some x → W.cell? (ad.add i) = some (.int .i64 (x : Int))) := Lib.hid fun W hb i x hx => by
        rw [had]
        exact (own_below HOWN.out hb).cells (g := sg) rfl i _ (by unfold intsOf; rw [List.getElem?_map, hx]; rfl)
      rw [← had]
      clear had
      obtain ⟨I, hI⟩ : ∃ I, I = pickS (itmL ob A L) σ := ⟨_, rfl⟩
      have hLn : L.length = j := by rw [HLL.out]; exact HKX.out.2.2.1.symm
      have hAn : ob = true → A.length = j := fun h => by rw [HA.out, List.length_map, ← HKX.out.2.2.2]; exact HMN.out h
      have hIL : (itmL ob A L).length = j := by rw [itm_len (fun h => by rw [hAn h, hLn]), hLn]
      have hσl : σ.length = j := by rw [HS.out.1.length_eq, List.length_range]
      have hσb : ∀ i ∈ σ, i < j := fun i hi => List.mem_range.1 (HS.out.1.mem_iff.1 hi)
      have hIn : I.length = j := by rw [hI, pick_len σ (fun i hi => by rw [hIL]; exact hσb i hi)]; exact hσl
      have hu : u = opB ob ++ joinC I ++ clB ob := by
        rw [hI]
        refine parts_text hLn (fun h => ⟨hAn h, ?_⟩) HS.out.1 HS.out.2.1 HS.out.2.2 HLU.out.1 (fun h => ?_)
        · rw [HA.out]; exact (HLU.out.2 h).2.1
        · rw [HA.out]; exact (HLU.out.2 h).2.2.2
      have hul : u.length ≤ 6400000 := Nat.le_trans HU.out.2 (by have := HQ.out.1; omega)
      have hIs : (joinC I).length ≤ 6400000 := by
        rw [hu] at hul
        simp only [List.length_append] at hul
        omega
      have HI := Lib.hid (And.intro hI (And.intro hLn (And.intro hAn (And.intro hσl hσb))))
      have HIN := Lib.hid hIn
      have HUU := Lib.hid (And.intro hu (And.intro hul hIs))
      clear hI hLn hAn hIL hσl hσb hIn hu hul hIs
      obtain ⟨w7, w8, e1, e2, e3, e4, hb8⟩ := ss_runs wq [91] [123] (by decide) (by decide)
      unfold kList at e1 e3
      unfold kObj at e2 e4
      obtain ⟨S0, hS0⟩ : ∃ S0 : ByteArray, S0 = ⟨(opB ob).toArray⟩ := ⟨_, rfl⟩
      have hkk : k = ⟨(kdB ob).toArray⟩ := ba_of HKD.out
      have hlk : (Instr.lookup 29 (.map (some wq.heap.size)) (.string k) false).run Tryz.prog w8 = .ok (.string S0) w8 := by
        rw [hkk, hS0]
        cases ob with
        | false => exact e3
        | true => exact e4
      have HS0 : Hid (S0.data.toList = preW ob I 0) := by rw [hS0]; cases ob <;> exact Lib.hid (by simp [preW, opB, joinC])
      clear e3 e4 hkk hS0
      have HB8 : Hid (Below W1.heap.size W1 w8) := Lib.hid (HBR.out.trans (hb8.mono HBR.out.size))
      have HB8q := Lib.hid hb8
      clear hb8
      obtain ⟨c0, c1, c2, c3⟩ := HC.out w8 HB8.out
      go_wp2_with (fail)
      clear c0 c1 c2 c3 e1 e2 hlk
      go_loopg [6, 89] j (fun gk3 wv i wr => ∃ (i0 : Nat) (S : ByteArray), i0 + gk3 = j ∧ i = .int .i64 i0 ∧ wv = .string S ∧ Hid (S.data.toList = preW ob I i0) ∧ Hid (Below w8.heap.size w8 wr))
      case atStart => exact ⟨0, S0, by omega, rfl, rfl, HS0, Lib.hid (Below.refl _ _)⟩
      case round =>
        obtain ⟨i, S, hij, rfl, rfl, HSS, HBX⟩ := hrel
        obtain ⟨wx, rfl⟩ : ∃ wx, wx = wr := ⟨_, rfl⟩
        have HBX1 : Hid (Below W1.heap.size W1 wx) := Lib.hid (HB8.out.trans (HBX.out.mono HB8.out.size))
        have hSz : S.size ≤ 6400001 := by
          have := preW_len (ob := ob) I i
          rw [Lib.size_eq, HSS.out]
          have := HUU.out.2.2
          omega
        cases gk with
        | zero =>
          have hij0 : i = j := by omega
          clear hij
          subst hij0
          obtain ⟨w9, w10, e1, e2, e3, e4, hb10⟩ := ss_runs wx [93] [125] (by decide) (by decide)
          unfold kList at e1 e3
          unfold kObj at e2 e4
          obtain ⟨C0, hC0⟩ : ∃ C0 : ByteArray, C0 = ⟨(clB ob).toArray⟩ := ⟨_, rfl⟩
          have hkk : k = ⟨(kdB ob).toArray⟩ := ba_of HKD.out
          have hlk : (Instr.lookup 29 (.map (some wx.heap.size)) (.string k) false).run Tryz.prog w10 = .ok (.string C0) w10 := by
            rw [hkk, hC0]
            cases ob with
            | false => exact e3
            | true => exact e4
          have hCs : C0.size = 1 := by rw [hC0, Lib.size_eq]; cases ob <;> rfl
          obtain ⟨U, hU⟩ : ∃ U : ByteArray, U = ⟨u.toArray⟩ := ⟨_, rfl⟩
          have hSU : S ++ C0 = U := by
            rw [hU]
            refine ba_of ?_
            rw [← data_of, bs_app, HSS.out, hC0, HUU.out.1]
            have e : preW ob I i = opB ob ++ joinC I := by rw [← preW_all I, HIN.out]
            rw [e]
          have HUe := Lib.hid hU
          clear e3 e4 hkk hC0 hU
          have HB10 : Hid (Below W1.heap.size W1 w10) := Lib.hid (HBX1.out.trans (hb10.mono HBX1.out.size))
          have HCX := Lib.hid (canon_x HU.out.1 (by have := HUU.out.2.1; omega) (HVR.out.stay (HS2.out w10 HB10.out)))
          clear hb10
          obtain ⟨c0, c1, c2, c3⟩ := HC.out w10 HB10.out
          go_upto_region 28 with (fail)
          clear e1 e2 hlk hSU hSz hCs
          go_wp2_with (fail)
          (with_reducible refine HCX.out.mono ?_)
          rintro e wv ⟨bv, rfl, hbs, hb⟩
          have HBV := Lib.hid (HB10.out.trans (hb.mono HB10.out.size))
          have hcv := hbs.conv
          rw [← HUe.out] at hcv
          clear hbs hb c0 c1 c2 c3
          have HA2 := Lib.hid (HAW.out wv HBV.out)
          go_wp2_with (fail)
          (with_reducible refine HA2.out.mono ?_)
          rintro e we ⟨rfl, hb⟩
          have HBE := Lib.hid (HBV.out.trans (hb.mono HBV.out.size))
          clear hb
          go_wp2_with (fail)
          go_ret
          exact ⟨rfl, HS2.out _ HBE.out⟩
        | succ g2 =>
          have hlt : i < j := by omega
          have hki : (i : Int) < (j : Int) := by omega
          have hj1 : i + 1 + g2 = j := by omega
          clear hij
          obtain ⟨x0, hx0⟩ : ∃ x0, σ[i]? = some x0 := ⟨_, List.getElem?_eq_getElem (by rw [HI.out.2.2.2.1]; exact hlt)⟩
          have hx0j : x0 < j := HI.out.2.2.2.2 x0 (List.mem_of_getElem? hx0)
          have co := HCELL.out wx (HB8q.out.trans (HBX.out.mono HB8q.out.size)) i x0 hx0
          have HX0 := Lib.hid hx0
          clear hx0
          go_upto_if 95 with (fail)
          go_cut [6] (fun wv wy => ∃ S1 : ByteArray, wv = .string S1 ∧ wx = wy ∧ S1.size ≤ 6400002 ∧ Hid (S1.data.toList = if 0 < i then preW ob I i ++ [44] else preW ob I i))
          case first =>
            as_aux_lemma =>
              rcases Nat.eq_zero_or_pos i with rfl | hi0
              · go_wp2_with (fail)
                go_meet
                case rel => exact ⟨S, rfl, rfl, by omega, Lib.hid (by rw [if_neg (by omega)]; exact HSS.out)⟩
              · have z0 : decide ((0 : Int) < (i : Int)) = true := decide_eq_true (by omega)
                go_wp2_with (fail)
                go_meet
                case rel => exact ⟨_, rfl, rfl, by rw [bsz_app]; show S.size + 1 ≤ _; omega, Lib.hid (by rw [if_pos hi0, bs_app, HSS.out])⟩
          case rest =>
          obtain ⟨S1, rfl, rfl, hS1, HS1'⟩ := hcut
          clear hSz
          obtain ⟨c0, c1, c2, c3⟩ := HC.out wx HBX1.out
          go_upto_if 100 with (fail)
          obtain ⟨T, hT⟩ : ∃ T, t.list[x0]? = some T := ⟨_, List.getElem?_eq_getElem (by rw [← HKX.out.2.2.1]; exact hx0j)⟩
          obtain ⟨u0, hu0⟩ : ∃ u0, L[x0]? = some u0 := ⟨_, List.getElem?_eq_getElem (by rw [HI.out.2.1]; exact hx0j)⟩
          obtain ⟨a0, ha0⟩ : ∃ a0, ob = true → ∃ s0 : ByteArray, t.keys[x0]? = some s0 ∧ a0 = s0.data.toList ∧ A[x0]? = some a0 := by
            cases ob with
            | false => exact ⟨[], fun h => by cases h⟩
            | true =>
              obtain ⟨s0, hs0⟩ : ∃ s, t.keys[x0]? = some s := ⟨_, List.getElem?_eq_getElem (by rw [← HKX.out.2.2.2, HMN.out (by first | rfl | trivial)]; exact hx0j)⟩
              exact ⟨_, fun _ => ⟨s0, hs0, rfl, by rw [HA.out, List.getElem?_map, hs0]; rfl⟩⟩
          have hit : I[i]? = some (if ob then encStr a0 ++ 58 :: u0 else u0) := by
            rw [HI.out.1, pick_get σ (fun k hk => by rw [itm_len (fun h => by rw [HI.out.2.2.1 h, HI.out.2.1]), HI.out.2.1]; exact HI.out.2.2.2.2 k hk), HX0.out, Option.bind_some]
            exact itm_get hu0 fun h => (ha0 h).choose_spec.2.2
          have hile : (if ob then encStr a0 ++ 58 :: u0 else u0).length ≤ 6400000 := Nat.le_trans (joinC_le (List.mem_of_getElem? hit)) HUU.out.2.2
          have hu0l : u0.length ≤ 6400000 := by
            cases ob with
            | false => exact hile
            | true => simp only [if_true, List.length_append, List.length_cons] at hile; omega
          have HIT := Lib.hid hit
          have HILE := Lib.hid hile
          have HA0 := Lib.hid ha0
          have HCAN := Lib.hid (And.intro (HLC.out x0 T u0 hT hu0) hu0l)
          have HT := Lib.hid hT
          clear hit hile ha0 hu0 hu0l hT
          go_cut [6] (fun wv wy => ∃ S2 : ByteArray, wv = .string S2 ∧ S2.size ≤ 12800004 ∧ Hid (S2.data.toList = S1.data.toList ++ (if ob then encStr a0 ++ [58] else [])) ∧ Hid (Below wx.heap.size wx wy))
          case first =>
            as_aux_lemma =>
              cases ob with
              | false =>
                go_wp2_with (fail)
                go_meet
                case rel => exact ⟨S1, rfl, by omega, Lib.hid (by simp), Lib.hid (Below.refl _ _)⟩
              | true =>
                obtain ⟨s0, hs0, ha0, hA0⟩ := HA0.out (by first | rfl | trivial)
                obtain ⟨ka, rfl, ck⟩ := HL3.out wx (HS2.out wx HBX1.out) x0 s0 hs0
                have hxm : (x0 : Int) < (m : Int) := by rw [HMN.out (by first | rfl | trivial)]; omega
                have hE : (encStr a0).length ≤ 6400000 := by
                  have := HILE.out
                  simp only [if_true, List.length_append, List.length_cons] at this
                  omega
                have hs0l : s0.size ≤ 1073741824 := by
                  have h1 : a0.length ≤ (encStr a0).length := encStr_ge a0
                  rw [Lib.size_eq, ← ha0]
                  omega
                obtain ⟨E, hEE⟩ : ∃ E : ByteArray, E = ⟨(encStr s0.data.toList).toArray⟩ := ⟨_, rfl⟩
                have HCK := Lib.hid (canonical_any s0 hs0l wx)
                rw [← hEE] at HCK
                have HE : Hid (E.data.toList = encStr a0) := by rw [hEE, ha0]; exact Lib.hid (by simp)
                have hEs : E.size ≤ 6400000 := by rw [Lib.size_eq, HE.out]; exact hE
                have hk2 : (E ++ (⟨#[58]⟩ : ByteArray)).size = E.size + 1 := bsz_app _ _
                clear hEE hs0l hE hs0 ha0 hA0
                go_wp2_with (fail)
                (with_reducible refine HCK.out.mono ?_)
                rintro e wy ⟨rfl, hb⟩
                have HBY := Lib.hid hb
                clear hb
                go_wp2_with (fail)
                go_meet
                case rel => exact ⟨_, rfl, by rw [bsz_app, bsz_app]; show S1.size + (E.size + 1) ≤ _; omega, Lib.hid (by rw [bs_app, bs_app, HE.out]; simp), HBY⟩
          case rest =>
          obtain ⟨wy, rfl⟩ : ∃ wy, wy = wc := ⟨_, rfl⟩
          obtain ⟨S2, rfl, hS2, HS2', HBY⟩ := hcut
          clear c0 c1 c2 c3 co hS1
          have HBY1 : Hid (Below W1.heap.size W1 wy) := Lib.hid (HBX1.out.trans (HBY.out.mono HBX1.out.size))
          obtain ⟨c0, c1, c2, c3⟩ := HC.out wy HBY1.out
          obtain ⟨la, T', k0, l0, k1, l1, k2, l2, rfl, f0, f1, f2, f3, hvr, hT'⟩ := lr_elem HL4.out (HS2.out wy HBY1.out) x0 (by rw [← HKX.out.2.2.1]; exact hx0j)
          have hTT : T' = T := by rw [HT.out] at hT'; injection hT' with hT'; exact hT'.symm
          subst hTT
          obtain ⟨tk, htk⟩ : ∃ tk, tk = T'.kind := ⟨_, rfl⟩
          obtain ⟨tx, htx⟩ : ∃ tx, tx = T'.text := ⟨_, rfl⟩
          rw [← htk] at f0 hvr
          rw [← htx] at f1 hvr
          have HCX := Lib.hid (canon_x HCAN.out.1 (by have := HCAN.out.2; omega) hvr)
          clear htk htx hvr hT'
          go_wp2_with (fail)
          (with_reducible refine HCX.out.mono ?_)
          rintro e wv ⟨bv, rfl, hbs, hb⟩
          have HBV := Lib.hid (HBY1.out.trans (hb.mono HBY1.out.size))
          have HBVX := Lib.hid (HBX.out.trans ((HBY.out.trans (hb.mono HBY.out.size)).mono HBX.out.size))
          obtain ⟨U, hU⟩ : ∃ U : ByteArray, U = ⟨u0.toArray⟩ := ⟨_, rfl⟩
          have hcv := hbs.conv
          rw [← hU] at hcv
          have HU0 : Hid (U.data.toList = u0) := by rw [hU]; exact Lib.hid (by simp)
          have hUs : U.size ≤ 6400000 := by rw [Lib.size_eq, HU0.out]; exact HCAN.out.2
          clear hU hbs hb c0 c1 c2 c3 f0 f1 f2 f3
          go_wp2_with (fail)
          go_roundg g2
          case measure => omega
          case rel =>
            refine ⟨i + 1, S2 ++ U, hj1, by first | rfl | go_num, rfl, Lib.hid ?_, HBVX⟩
            rw [bs_app, HS2'.out, HS1'.out, HU0.out, preW_step HIT.out]
            cases ob <;> simp [List.append_assoc]
    | succ g2 =>
      obtain ⟨wq, rfl⟩ : ∃ wq, wq = wr := ⟨_, rfl⟩
      have hlt : j < n := by omega
      have hki : (j : Int) < (n : Int) := by omega
      have hj1 : j + 1 + g2 = n := by omega
      clear hj
      obtain ⟨ad, had⟩ : ∃ ad : Addr, ad = ⟨sg, 0, none⟩ := ⟨_, rfl⟩
      have HCELL : Hid (∀ W, Below wq.heap.size wq W → ∀ (i x : Nat), σ[i]? = some x → W.cell? (ad.add i) = some (.int .i64 (x : Int))) := Lib.hid fun W hb i x hx => by
        rw [had]
        exact (own_below HOWN.out hb).cells (g := sg) rfl i _ (by unfold intsOf; rw [List.getElem?_map, hx]; rfl)
      rw [← had]
      have HAD := Lib.hid had
      clear had
      go_upto_block 2 with (fail)
      go_cut [5] (fun at' wx => ∃ p : Nat, at' = .int .i64 p ∧ p ≤ j ∧ Hid (Below wq.heap.size wq wx) ∧ Hid (ob = false → p = j) ∧ Hid (ob = true → ∃ a, A[j]? = some a ∧ (∀ b ∈ pickS A (σ.drop p), leB a b = true) ∧ (p = 0 ∨ ∃ (k i : Nat) (b : List UInt8), p = k + 1 ∧ σ[k]? = some i ∧ A[i]? = some b ∧ leB b a = true)))
      case first =>
        go_wp2_with (fail)
        go_loopg [5] j (fun g at' wx => ∃ p : Nat, p = g ∧ at' = .int .i64 p ∧ p ≤ j ∧ Hid (Below wq.heap.size wq wx) ∧ Hid (ob = false → p = j) ∧ Hid (ob = true → ∃ a, A[j]? = some a ∧ ∀ b ∈ pickS A (σ.drop p), leB a b = true))
        case atStart =>
          refine ⟨j, rfl, rfl, Nat.le_refl _, Lib.hid (Below.refl _ _), Lib.hid fun _ => rfl, Lib.hid fun hob => ?_⟩
          obtain ⟨a, ha⟩ : ∃ a, A[j]? = some a := ⟨_, List.getElem?_eq_getElem (by rw [HA.out, List.length_map, ← HKX.out.2.2.2, HMN.out hob]; exact hlt)⟩
          refine ⟨a, ha, fun b hb => ?_⟩
          rw [List.drop_of_length_le (by rw [HS.out.1.length_eq, List.length_range]; exact Nat.le_refl _)] at hb
          cases hb
        case round =>
          obtain ⟨p, hpg, rfl, hpj, HBX, HOF, HOT⟩ := hrel
          have HBX1 : Hid (Below W1.heap.size W1 wr) := Lib.hid (HBR.out.trans (HBX.out.mono HBR.out.size))
          obtain ⟨c0, c1, c2, c3⟩ := HC.out wr HBX1.out
          cases gk with
          | zero =>
            have z0 : decide ((0 : Int) < (p : Int)) = false := decide_eq_false (by omega)
            have HPG := Lib.hid hpg
            have hp0 : ¬ 0 < p := by omega
            clear hpg
            go_wp2_with (fail)
            go_quiet (fail)
            go_wp2_with (fail)
            go_meet
            case rel =>
              refine ⟨p, rfl, hpj, Lib.hid (below_drewN HBX.out _), HOF, Lib.hid fun hob => ?_⟩
              obtain ⟨a, ha, hb⟩ := HOT.out hob
              exact ⟨a, ha, hb, .inl HPG.out⟩
          | succ g3 =>
            have z0 : decide ((0 : Int) < (p : Int)) = true := decide_eq_true (by omega)
            have hp0 : 0 < p := by omega
            cases ob with
            | false =>
              clear hpg
              go_wp2_with (fail)
              go_quiet (fail)
              go_wp2_with (fail)
              go_meet
              case rel => exact ⟨p, rfl, hpj, Lib.hid (below_drewN HBX.out _), Lib.hid fun _ => HOF.out trivial, Lib.hid fun h => by cases h⟩
            | true =>
              obtain ⟨a, ha, hall⟩ := HOT.out (by first | rfl | trivial)
              have HALL := Lib.hid (And.intro ha hall)
              have hAl : A.length = n := by rw [HA.out, List.length_map, ← HKX.out.2.2.2, HMN.out (by first | rfl | trivial)]
              have hσl : σ.length = j := by rw [HS.out.1.length_eq, List.length_range]
              obtain ⟨i2, hi2⟩ : ∃ i2, σ[g3]? = some i2 := ⟨_, List.getElem?_eq_getElem (by omega)⟩
              have hi2j : i2 < j := by
                have := HS.out.1.mem_iff.1 (List.mem_of_getElem? hi2)
                exact List.mem_range.1 this
              obtain ⟨sj, hsj⟩ : ∃ s, t.keys[j]? = some s := ⟨_, List.getElem?_eq_getElem (by rw [← HKX.out.2.2.2, HMN.out (by first | rfl | trivial)]; exact hlt)⟩
              obtain ⟨s2, hs2⟩ : ∃ s, t.keys[i2]? = some s := ⟨_, List.getElem?_eq_getElem (by rw [← HKX.out.2.2.2, HMN.out (by first | rfl | trivial)]; omega)⟩
              have hAj : A[j]? = some sj.data.toList := by rw [HA.out, List.getElem?_map, hsj]; rfl
              have hA2 : A[i2]? = some s2.data.toList := by rw [HA.out, List.getElem?_map, hs2]; rfl
              have haj : a = sj.data.toList := by rw [ha] at hAj; injection hAj
              have hmn : m = n := HMN.out (by first | rfl | trivial)
              obtain ⟨ka, rfl, ck⟩ := HL3.out wr (HS2.out wr HBX1.out) j sj hsj
              obtain ⟨ka', hka', ck2⟩ := HL3.out wr (HS2.out wr HBX1.out) i2 s2 hs2
              injection hka' with hka'
              subst hka'
              have co := HCELL.out wr HBX.out g3 i2 hi2
              have HF1 := Lib.hid (And.intro hi2 (And.intro hA2 haj))
              have e1 : IntKind.i64.wrap ((p : Int) - 1) = (p : Int) - 1 := by rw [IntKind.wrap_i64]; omega
              have e2 : (0 : Int) ≤ (p : Int) - 1 := by omega
              have e3 : (p : Int) - 1 < (j : Int) := by omega
              have e4 : ((p : Int) - 1).toNat = g3 := by omega
              have e5 : (i2 : Int) < (m : Int) := by omega
              have e6 : (j : Int) < (m : Int) := by omega
              have HE7 : Hid ((p : Int) - 1 = (g3 : Int)) := Lib.hid (by omega)
              have HPG := Lib.hid hpg
              clear hpg
              clear ha hall hAl hσl hi2 hsj hs2 hAj hA2 haj hmn hi2j
              by_cases q1 : Op.bytesLess s2.toList sj.toList = true
              · have HLE := Lib.hid (cmp_le (.inl q1))
                go_wp2_with (fail)
                go_quiet (fail)
                go_wp2_with (fail)
                go_meet
                case rel => exact ⟨p, rfl, hpj, Lib.hid (below_drewN HBX.out _), Lib.hid fun h => by simp at h, Lib.hid fun _ => ⟨a, HALL.out.1, HALL.out.2, .inr ⟨g3, i2, _, HPG.out, HF1.out.1, HF1.out.2.1, by rw [HF1.out.2.2]; exact HLE.out⟩⟩⟩
              · have q1' : Op.bytesLess s2.toList sj.toList = false := by simpa using q1
                clear q1
                by_cases q2 : (s2.toList == sj.toList) = true
                · have HLE := Lib.hid (cmp_le (.inr q2))
                  go_wp2_with (fail)
                  go_quiet (fail)
                  go_wp2_with (fail)
                  go_meet
                  case rel => exact ⟨p, rfl, hpj, Lib.hid (below_drewN HBX.out _), Lib.hid fun h => by simp at h, Lib.hid fun _ => ⟨a, HALL.out.1, HALL.out.2, .inr ⟨g3, i2, _, HPG.out, HF1.out.1, HF1.out.2.1, by rw [HF1.out.2.2]; exact HLE.out⟩⟩⟩
                · have q2' : (s2.toList == sj.toList) = false := by simpa using q2
                  have HGT := Lib.hid (cmp_gt q1')
                  clear q2
                  go_wp2_with (fail)
                  go_quiet (fail)
                  go_wp2_with (fail)
                  go_roundg g3
                  case measure => omega
                  case rel =>
                    refine ⟨g3, rfl, by first | rfl | rw [HE7.out], by omega, Lib.hid (below_drewN HBX.out _), Lib.hid fun h => by simp at h, Lib.hid fun _ => ⟨a, HALL.out.1, fun b hb => ?_⟩⟩
                    rw [List.drop_eq_getElem_cons (List.getElem?_eq_some_iff.1 HF1.out.1).1, (List.getElem?_eq_some_iff.1 HF1.out.1).2, pick_cons HF1.out.2.1] at hb
                    rcases List.mem_cons.1 hb with rfl | hb
                    · rw [HF1.out.2.2]; exact HGT.out
                    · exact HALL.out.2 b (by rw [HPG.out]; exact hb)
      case rest =>
        obtain ⟨p, rfl, hpj, HBX, HOF, HOT⟩ := hcut
        have hjc : j ≤ cap := by
          rcases HOWN.out.2 with ⟨e, _⟩ | ⟨g', cap', cur, e, _, _, h1, _⟩
          · cases e
          · simp only [Value.slice.injEq] at e; omega
        have hpc : p ≤ cap := by omega
        go_upto_region 12 with (fail)
        obtain ⟨AA, hAA, HNEW⟩ : ∃ AA : Addr, (if cap = p then some ad else some (ad.add p)) = some AA ∧ Hid (∀ W, Below wc.heap.size wc W → ∀ (i : Nat) (u : Value), (intsOf (σ.drop p))[i]? = some u → W.cell? (AA.add i) = some u) := by
          by_cases h : cap = p
          · refine ⟨ad, by simp [h], Lib.hid fun W hb i u hu => ?_⟩
            have hl : (intsOf (σ.drop p)).length = 0 := by unfold intsOf; rw [List.length_map, List.length_drop, HS.out.1.length_eq, List.length_range]; omega
            have := (List.getElem?_eq_some_iff.1 hu).1
            omega
          · refine ⟨ad.add p, by simp [h], Lib.hid fun W hb i u hu => ?_⟩
            unfold intsOf at hu
            rw [List.getElem?_map, List.getElem?_drop] at hu
            obtain ⟨x, hx, rfl⟩ := Option.map_eq_some_iff.1 hu
            rw [addr_add2]
            exact HCELL.out W (HBX.out.trans (hb.mono HBX.out.size)) (p + i) x hx
        have HL1 : Hid ((intsOf (σ.drop p)).length = (j - p) * 1) := by unfold intsOf; rw [List.length_map, List.length_drop, HS.out.1.length_eq, List.length_range, Nat.mul_one]; exact Lib.hid rfl
        have HL2 : Hid ((intsOf (σ.take p)).length = p * 1) := by unfold intsOf; rw [List.length_map, List.length_take, HS.out.1.length_eq, List.length_range, Nat.mul_one]; exact Lib.hid (by omega)
        have HNEW1 : Hid (∀ (i : Nat) (u : Value), (intsOf (σ.drop p))[i]? = some u → (wc.alloc (.cells #[.int .i64 (j : Int)] 3)).cell? (AA.add i) = some u) := Lib.hid (HNEW.out _ ((Below.refl _ _).alloc (Nat.le_refl _) _))
        have HOLD : Hid (∀ W, Below wc.heap.size wc W → ∀ b, some ad = some b → ∀ (i : Nat) (u : Value), (intsOf (σ.take p))[i]? = some u → W.cell? (b.add i) = some u) := by
          refine Lib.hid fun W hb b hb' i u hu => ?_
          cases hb'
          unfold intsOf at hu
          rw [List.getElem?_map] at hu
          obtain ⟨x, hx, rfl⟩ := Option.map_eq_some_iff.1 hu
          refine HCELL.out W (HBX.out.trans (hb.mono HBX.out.size)) i x ?_
          rw [List.getElem?_take] at hx
          split at hx
          · exact hx
          · cases hx
        obtain ⟨a, ha⟩ : ∃ a, ob = true → A[j]? = some a ∧ (∀ b ∈ pickS A (σ.drop p), leB a b = true) ∧ (p = 0 ∨ ∃ (k i : Nat) (b : List UInt8), p = k + 1 ∧ σ[k]? = some i ∧ A[i]? = some b ∧ leB b a = true) := by
          cases ob with
          | false => exact ⟨[], fun h => by cases h⟩
          | true =>
            obtain ⟨a, h⟩ := HOT.out (by first | rfl | trivial)
            exact ⟨a, fun _ => h⟩
        have HAA := Lib.hid ha
        have HNX : Hid (∀ (v2 : Value) (w1 w2 : World), Below wc.heap.size wc w1 → w2.ownsRow w1.heap.size 3 1 v2 (p + (1 + (j - p))) (intsOf (σ.take p) ++ ([.int .i64 (j : Int)] ++ intsOf (σ.drop p))) → w1.grownBy w2 none → OrdR A ob R wz (j + 1) v2 w2) := by
          refine Lib.hid fun v2 w1 w2 hb1 hown2 hgr2 => ?_
          have hb2 : Below wc.heap.size wc w2 := hb1.grown hgr2 hb1.size (fun k hk => by cases hk)
          have hRz : R ≤ wz.heap.size := by rw [HR.out]; exact Nat.le_refl _
          have hRq : R ≤ wq.heap.size := Nat.le_trans hRz HBW.out.size
          have hRc : R ≤ wc.heap.size := Nat.le_trans hRq HBX.out.size
          refine ord_step (p := p) HS.out.1 HS.out.2.1 (fun h => ⟨HS.out.2.2 h, HOF.out h⟩) (HBW.out.trans (HBX.out.mono hRq)) hRc HAA.out ?_ hb2
          rw [show j + 1 = p + (1 + (j - p)) by omega]
          exact own_base hown2 (Nat.le_trans hRc hb1.size)
        clear ha HOT HOF HAA
        go_region_law (first
          | (refine step_append_at rfl (.tmp 75) (.tmp 78) 28 rfl wc.heap.size 3 i0 (.int .i64 0) 1 8 Tryz.underlying28 ii iz0 iz1 iz2 rfl (by decide) (.slice (some ⟨wc.heap.size, 0, none⟩) 1 1) 1 [.int .i64 (j : Int)] (by simp [Act.eval]) (row_one wc (.int .i64 (j : Int)) 3) AA (j - p) (cap - p) (intsOf (σ.drop p)) (by simp [Act.eval]) HL1.out HNEW1.out (intsOf_one _) (by unfold maxLen; omega) (by omega) (by show wc.heap.size ≤ (wc.alloc _).heap.size; rw [World.size_alloc]; omega) ?_
             intro v1 w1 hown1 hgr1 _ _
             obtain ⟨g1, c1, rfl, hc1⟩ : ∃ g1 c1, v1 = .slice (some ⟨g1, 0, none⟩) (1 + (j - p)) c1 ∧ ∀ (i : Nat) (u : Value), ([.int .i64 (j : Int)] ++ intsOf (σ.drop p))[i]? = some u → w1.cell? ((⟨g1, 0, none⟩ : Addr).add i) = some u := by
               rcases hown1.2 with ⟨_, h0⟩ | ⟨g, cap', cur, e, _⟩
               · omega
               · exact ⟨g, cap', e, fun i u hu => by subst e; exact hown1.cells (g := g) rfl i u hu⟩
             have HB1 : Hid (Below wc.heap.size wc w1) := Lib.hid (Below.grown ((Below.refl wc.heap.size wc).alloc (Nat.le_refl _) (.cells #[.int .i64 (j : Int)] 3)).drew hgr1 (by show wc.heap.size ≤ (wc.alloc _).heap.size; rw [World.size_alloc]; omega) (fun k hk => by cases hk; exact Nat.le_refl _))
             have HC1 := Lib.hid hc1
             clear hown1 hgr1 hc1)
          | (refine step_append_grows rfl (.tmp 73) (.tmp 79) 28 rfl 3 i0 (.int .i64 0) 1 8 Tryz.underlying28 ii iz0 iz1 iz2 rfl (by decide) (some ad) p p (intsOf (σ.take p)) (by simp [Act.eval]) (fun h => by cases h) HL2.out (HOLD.out _ HB1.out) ⟨g1, 0, none⟩ (1 + (j - p)) c1 ([.int .i64 (j : Int)] ++ intsOf (σ.drop p)) (by simp [Act.eval]) (by rw [List.length_append, HL1.out]; simp) HC1.out (fun u hu => by rcases List.mem_append.1 hu with hu | hu; (rw [List.mem_singleton] at hu; rw [hu]; rfl); exact intsOf_one _ u hu) (by omega) (by unfold maxLen; omega) (by omega) ?_
             intro v2 w2 hown2 hgr2
             have HN2 := Lib.hid (HNX.out v2 _ w2 HB1.out hown2 hgr2)
             clear hown2 hgr2))
        go_wp2_with (fail)
        go_roundg g2
        case measure => omega
        case rel => exact ⟨j + 1, hj1, by first | rfl | go_num, HN2⟩
end Go.Proofs.YtjganhmbjffjfaaGreatDoor
