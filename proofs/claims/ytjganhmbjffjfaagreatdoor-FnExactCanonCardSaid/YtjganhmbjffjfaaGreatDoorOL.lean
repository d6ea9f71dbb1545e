/- spec.jOrder at texts: an order in which they ascend. What spec.jCanonParts puts together: plain. spec.jCanonParts at small trees. spec.jCanon at small trees. spec.Canon at small trees. laws.FnExactCanon: the walk. -/
import Derived.Test.YtjganhmbjffjfaaGreatDoorZD
import Derived.Test.YtjganhmbjffjfaaGreatDoorO7
import Derived.Laws.AppendOwnNone
import Derived.Test.YtjganhmbjffjfaaGreatDoorA1
open Go Go.RowKit
namespace Go.Proofs.YtjganhmbjffjfaaGreatDoor
theorem info_int3 : (Tryz.prog.info? 3).map (fun i => (i.zero, i.size, i.bytes)) = some (some (.int .i64 0), 1, 8) := by kernel_rfl
theorem row_one3 (w : World) (x : Value) (T : TypeId) : ∀ (j : Nat) (u : Value), [x][j]? = some u → (w.alloc (.cells #[x] T)).cell? ((⟨w.heap.size, 0, none⟩ : Addr).add j) = some u := by
  intro j u hu
  have hj : j = 0 := by have := (List.getElem?_eq_some_iff.1 hu).1; simp at this; exact this
  subst hj
  simp at hu
  subst hu
  have h0 := alloc_at w (.cells #[x] T)
  obtain ⟨W, hW⟩ : ∃ W, W = w.alloc (.cells #[x] T) := ⟨_, rfl⟩
  rw [← hW] at h0 ⊢
  simp [World.cell?, Addr.add, h0]
theorem own_base3 {w : World} {R R' k n : Nat} {T : TypeId} {v : Value} {xs : List Value} (h : w.ownsRow R T k v n xs) (hR : R' ≤ R) : w.ownsRow R' T k v n xs := by
  refine ⟨h.1, ?_⟩
  rcases h.2 with hn | ⟨g, cap, cur, e, h1, rest⟩
  · exact .inl hn
  · exact .inr ⟨g, cap, cur, e, Nat.le_trans hR h1, rest⟩
theorem addr_add3 (a : Addr) (i j : Nat) : (a.add i).add j = a.add (i + j) := by
  unfold Addr.add
  by_cases hi : i = 0 <;> by_cases hj : j = 0 <;> simp [hi, hj, Nat.add_assoc]
/-- The order so far: none, or a row. -/
def OrdN (A : List (List UInt8)) (R : Nat) (w : World) (j : Nat) (v : Value) (wr : World) : Prop := (j = 0 ∧ v = .slice none 0 0 ∧ Below R w wr) ∨ OrdR A true R w j v wr
/-- What jOrder leaves. -/
def JoP (A : List (List UInt8)) (w : World) (e : Ending) (w' : World) : Prop := ∃ (ao : Option Addr) (c : Nat) (σ : List Nat), e = .returned (.slice ao A.length c) ∧ Below w.heap.size w w' ∧ σ.Perm (List.range A.length) ∧ SortedS A σ ∧
  ∀ W, Below w'.heap.size w' W → ∀ (i x : Nat), σ[i]? = some x → ∃ ad, ao = some ad ∧ W.cell? (ad.add i) = some (.int .i64 (x : Int))
set_option maxRecDepth 100000 in
set_option maxHeartbeats 16000000 in
theorem jOrder_any {l : List ByteArray} {v : Value} {w : World} (h : StrR w v l) (hl : l.length ≤ 65536) : Calls Tryz.prog 98 #[v, .bool false] w (JoP (l.map (·.data.toList)) w) := by
  obtain ⟨i0, ii, iz0, iz1, iz2⟩ := info_parts info_int3
  obtain ⟨ko, kp, rfl, hkc⟩ := strR_cells h
  obtain ⟨n, hn⟩ : ∃ n, n = l.length := ⟨_, rfl⟩
  obtain ⟨A, hA⟩ : ∃ A, A = l.map (·.data.toList) := ⟨_, rfl⟩
  rw [← hn, ← hA]
  have hn6 : n ≤ 65536 := by omega
  have HKC := Lib.hid hkc
  have HNN := Lib.hid hn
  have HA := Lib.hid hA
  have HAL : Hid (A.length = n) := Lib.hid (by rw [hA, List.length_map, hn])
  obtain ⟨R, hR⟩ : ∃ R, R = w.heap.size := ⟨_, rfl⟩
  have HR := Lib.hid hR
  clear h hkc hn hA hl hR
  go_enter Tryz.func98, Tryz.ntmps98
  go_wp2_with (fail)
  go_loopg [5, 6] n (fun gk v i wr => ∃ (j : Nat) (ao : Option Addr) (cap : Nat), j + gk = n ∧ i = .int .i64 j ∧ v = .slice ao j cap ∧ Hid (OrdN A R w j (.slice ao j cap) wr))
  case atStart => exact ⟨0, none, 0, by omega, rfl, rfl, Lib.hid (.inl ⟨rfl, rfl, Below.refl _ _⟩)⟩
  case round =>
    obtain ⟨j, ao, cap, hj, rfl, rfl, HO⟩ := hrel
    obtain ⟨wq, rfl⟩ : ∃ wq, wq = wr := ⟨_, rfl⟩
    have HBQ : Hid (Below w.heap.size w wq) := by
      rw [← HR.out]
      rcases HO.out with ⟨_, _, hb⟩ | ⟨_, _, _, _, _, _, _, _, hb⟩
      · exact Lib.hid hb
      · exact Lib.hid hb
    obtain ⟨σ, hcap, hown, hperm, hsort⟩ : ∃ (σ : List Nat), Hid (j ≤ cap ∧ (ao = none → j = 0 ∧ cap = 0)) ∧ Hid (∀ W, Below wq.heap.size wq W → ∀ (i x : Nat), σ[i]? = some x → ∃ ad, ao = some ad ∧ W.cell? (ad.add i) = some (.int .i64 (x : Int))) ∧ Hid (σ.Perm (List.range j)) ∧ Hid (SortedS A σ) := by
      rcases HO.out with ⟨h0, hv, _⟩ | ⟨σ, sg, cap', hv, hown, hperm, hsort, _, _⟩
      · injection hv with h1 h2 h3
        subst h0 h1 h3
        exact ⟨[], Lib.hid ⟨Nat.le_refl _, fun _ => ⟨rfl, rfl⟩⟩, Lib.hid fun _ _ i x h => by simp at h, Lib.hid (List.Perm.refl _), Lib.hid List.Pairwise.nil⟩
      · injection hv with h1 h2 h3
        subst h1 h3
        refine ⟨σ, Lib.hid ⟨?_, fun h => by cases h⟩, Lib.hid fun W hb i x hx => ⟨_, rfl, ?_⟩, Lib.hid hperm, Lib.hid (hsort rfl)⟩
        · rcases hown.2 with ⟨e, _⟩ | ⟨g', cap', cur, e, _, _, h1, _⟩
          · cases e
          · simp only [Value.slice.injEq] at e; omega
        · exact (own_below hown hb).cells (g := sg) rfl i _ (by unfold intsOf; rw [List.getElem?_map, hx]; rfl)
    clear HO
    cases gk with
    | zero =>
      have hjn : j = n := by omega
      clear hj
      subst hjn
      have hki : ¬ (j : Int) < (j : Int) := by omega
      have HE : Hid (JoP A w (.returned (.slice ao j cap)) wq) := Lib.hid ⟨ao, cap, σ, by rw [HAL.out], HBQ.out, by rw [HAL.out]; exact hperm.out, hsort.out, hown.out⟩
      go_wp2_with (fail)
      go_ret
      exact HE.out
    | succ g2 =>
      have hlt : j < n := by omega
      have hki : (j : Int) < (n : Int) := by omega
      have hj1 : j + 1 + g2 = n := by omega
      clear hj
      obtain ⟨sj, hsj⟩ : ∃ s, l[j]? = some s := ⟨_, List.getElem?_eq_getElem (by rw [← HNN.out]; exact hlt)⟩
      have HSJ := Lib.hid hsj
      have HAJ : Hid (A[j]? = some sj.data.toList) := Lib.hid (by rw [HA.out, List.getElem?_map, hsj]; rfl)
      clear hsj
      go_upto_block 2 with (fail)
      go_cut [7] (fun at' wx => ∃ p : Nat, at' = .int .i64 p ∧ p ≤ j ∧ Hid (Below wq.heap.size wq wx) ∧ Hid (∀ b ∈ pickS A (σ.drop p), leB sj.data.toList b = true) ∧ Hid (p = 0 ∨ ∃ (k i : Nat) (b : List UInt8), p = k + 1 ∧ σ[k]? = some i ∧ A[i]? = some b ∧ leB b sj.data.toList = true))
      case first =>
        as_aux_lemma =>
        go_wp2_with (fail)
        go_loopg [7] j (fun g at' wx => ∃ p : Nat, p = g ∧ at' = .int .i64 p ∧ p ≤ j ∧ Hid (Below wq.heap.size wq wx) ∧ Hid (∀ b ∈ pickS A (σ.drop p), leB sj.data.toList b = true))
        case atStart =>
          refine ⟨j, rfl, rfl, Nat.le_refl _, Lib.hid (Below.refl _ _), Lib.hid fun b hb => ?_⟩
          rw [List.drop_of_length_le (by rw [hperm.out.length_eq, List.length_range]; exact Nat.le_refl _)] at hb
          cases hb
        case round =>
          obtain ⟨p, hpg, rfl, hpj, HBX, HALL⟩ := hrel
          have HPG := Lib.hid hpg
          cases gk with
          | zero =>
            have z0 : decide ((0 : Int) < (p : Int)) = false := decide_eq_false (by omega)
            have hp0 : ¬ 0 < p := by omega
            clear hpg
            go_wp2_with (fail)
            go_quiet (fail)
            go_wp2_with (fail)
            go_meet
            case rel => exact ⟨p, rfl, hpj, Lib.hid (below_drewN HBX.out _), HALL, Lib.hid (.inl HPG.out)⟩
          | succ g3 =>
            have z0 : decide ((0 : Int) < (p : Int)) = true := decide_eq_true (by omega)
            have hp0 : 0 < p := by omega
            have hσl : σ.length = j := by rw [hperm.out.length_eq, List.length_range]
            obtain ⟨i2, hi2⟩ : ∃ i2, σ[g3]? = some i2 := ⟨_, List.getElem?_eq_getElem (by omega)⟩
            have hi2j : i2 < j := List.mem_range.1 (hperm.out.mem_iff.1 (List.mem_of_getElem? hi2))
            obtain ⟨s2, hs2⟩ : ∃ s, l[i2]? = some s := ⟨_, List.getElem?_eq_getElem (by rw [← HNN.out]; omega)⟩
            have hA2 : A[i2]? = some s2.data.toList := by rw [HA.out, List.getElem?_map, hs2]; rfl
            have hbw : Below w.heap.size w wr := HBQ.out.trans (HBX.out.mono HBQ.out.size)
            obtain ⟨ka, hka, ck⟩ := HKC.out wr hbw j sj HSJ.out
            obtain ⟨ka', hka', ck2⟩ := HKC.out wr hbw i2 s2 hs2
            obtain ⟨ad, had, co⟩ := hown.out wr HBX.out g3 i2 hi2
            subst hka had
            injection hka' with hka'
            subst hka'
            have HF1 := Lib.hid (And.intro hi2 hA2)
            have e1 : IntKind.i64.wrap ((p : Int) - 1) = (p : Int) - 1 := by rw [IntKind.wrap_i64]; omega
            have e2 : (0 : Int) ≤ (p : Int) - 1 := by omega
            have e3 : (p : Int) - 1 < (j : Int) := by omega
            have e4 : ((p : Int) - 1).toNat = g3 := by omega
            have e5 : (i2 : Int) < (n : Int) := by omega
            have HE7 : Hid ((p : Int) - 1 = (g3 : Int)) := Lib.hid (by omega)
            clear hpg hσl hi2 hs2 hA2 hi2j hbw
            by_cases q1 : Op.bytesLess sj.toList s2.toList = true
            · have HGT : Hid (leB sj.data.toList s2.data.toList = true) := Lib.hid (cmp_le (.inl q1))
              go_wp2_with (fail)
              go_quiet (fail)
              go_wp2_with (fail)
              go_roundg g3
              case measure => omega
              case rel =>
                refine ⟨g3, rfl, by first | rfl | rw [HE7.out], by omega, Lib.hid (below_drewN HBX.out _), Lib.hid fun b hb => ?_⟩
                rw [List.drop_eq_getElem_cons (List.getElem?_eq_some_iff.1 HF1.out.1).1, (List.getElem?_eq_some_iff.1 HF1.out.1).2, pick_cons HF1.out.2] at hb
                rcases List.mem_cons.1 hb with rfl | hb
                · exact HGT.out
                · exact HALL.out b (by rw [HPG.out]; exact hb)
            · have q1' : Op.bytesLess sj.toList s2.toList = false := by simpa using q1
              have HLE : Hid (leB s2.data.toList sj.data.toList = true) := Lib.hid (cmp_gt q1')
              clear q1
              go_wp2_with (fail)
              go_quiet (fail)
              go_wp2_with (fail)
              go_meet
              case rel => exact ⟨p, rfl, hpj, Lib.hid (below_drewN HBX.out _), HALL, Lib.hid (.inr ⟨g3, i2, _, HPG.out, HF1.out.1, HF1.out.2, HLE.out⟩)⟩
      case rest =>
        obtain ⟨p, rfl, hpj, HBX, HALL, HPL⟩ := hcut
        have HJC := Lib.hid hcap.out
        have HCEL : Hid (∀ W, Below wc.heap.size wc W → ∀ (i x : Nat), σ[i]? = some x → ∃ ad, ao = some ad ∧ W.cell? (ad.add i) = some (.int .i64 (x : Int))) := Lib.hid fun W hb i x hx => hown.out W (HBX.out.trans (hb.mono HBX.out.size)) i x hx
        have HNX : Hid (∀ (v3 : Value) (w3 : World), Below wc.heap.size wc w3 → w3.ownsRow wc.heap.size 3 1 v3 (p + 1 + (j - p)) (intsOf (σ.take p) ++ [.int .i64 (j : Int)] ++ intsOf (σ.drop p)) → OrdR A true R w (j + 1) v3 w3) := by
          refine Lib.hid fun v3 w3 hb3 hown3 => ?_
          have hRq : R ≤ wq.heap.size := by rw [HR.out]; exact HBQ.out.size
          have hRc : R ≤ wc.heap.size := Nat.le_trans hRq HBX.out.size
          have hbq : Below R w wq := by rw [HR.out]; exact HBQ.out
          refine ord_step (p := p) (a := sj.data.toList) hperm.out (fun _ => hsort.out) (fun h => by cases h) (hbq.trans (HBX.out.mono hRq)) hRc (fun _ => ⟨HAJ.out, HALL.out, HPL.out⟩) ?_ hb3
          rw [show j + 1 = p + 1 + (j - p) by omega]
          have h := own_base3 hown3 hRc
          rw [List.append_assoc] at h
          exact h
        have HPJ := Lib.hid hpj
        go_upto_region 8 with (fail)
        cases ao with
        | none =>
          obtain ⟨rfl, rfl⟩ := HJC.out.2 rfl
          obtain rfl : p = 0 := by omega
          have hσ0 : σ = [] := List.eq_nil_of_length_eq_zero (by rw [hperm.out.length_eq]; rfl)
          have HIN : Hid (∀ (i : Nat) (u : Value), [(Value.int .i64 ((0 : Nat) : Int))][i]? = some u → (wc.alloc (.cells #[.int .i64 ((0 : Nat) : Int)] 3)).cell? ((⟨wc.heap.size, 0, none⟩ : Addr).add i) = some u) := Lib.hid (row_one3 wc _ _)
          go_region_law (first
            | (refine step_append_at rfl (.tmp 60) (.tmp 62) 28 rfl wc.heap.size 3 i0 (.int .i64 0) 1 8 Tryz.underlying28 ii iz0 iz1 iz2 rfl (by decide) (.slice none 0 0) 0 [] (by simp [Act.eval]) (World.ownsRow_nil _ _ _ _) ⟨wc.heap.size, 0, none⟩ 1 1 [.int .i64 ((0 : Nat) : Int)] (by simp [Act.eval]) rfl HIN.out (fun u hu => by rw [List.mem_singleton] at hu; rw [hu]; rfl) (by decide) (by decide) (by show wc.heap.size ≤ (wc.alloc _).heap.size; rw [World.size_alloc]; omega) ?_
               intro v2 w2 hown2 hgr2 _ _
               obtain ⟨g2', c2, hv2, hc2⟩ : ∃ g2' c2, v2 = .slice (some ⟨g2', 0, none⟩) 1 c2 ∧ 1 ≤ c2 := by
                 rcases hown2.2 with ⟨_, h0⟩ | ⟨g, cap', cur, e, _, _, hc, _⟩
                 · omega
                 · exact ⟨g, cap', e, hc⟩
               subst hv2
               have HB2 : Hid (Below wc.heap.size wc w2) := Lib.hid (Below.grown ((Below.refl wc.heap.size wc).alloc (Nat.le_refl _) (.cells #[.int .i64 ((0 : Nat) : Int)] 3)).drew hgr2 (by show wc.heap.size ≤ (wc.alloc _).heap.size; rw [World.size_alloc]; omega) (fun k hk => by cases hk))
               have HO2 := Lib.hid hown2
               clear hown2 hgr2))
          all_goals
            go_wp2_with (fail)
            go_roundg g2
            case measure => omega
            case rel =>
              refine ⟨1, _, _, by omega, by first | rfl | go_num, rfl, Lib.hid (.inr (HNX.out _ _ (by first | exact HB2.out | exact HB2.out.drew | exact HB2.out.drew.drew) ?_))⟩
              rw [hσ0]
              exact HO2.out
        | some ad =>
          have hpc : p ≤ cap := Nat.le_trans hpj HJC.out.1
          have hjc : j ≤ cap := HJC.out.1
          have HCE2 : Hid (∀ W, Below wc.heap.size wc W → ∀ (i x : Nat), σ[i]? = some x → W.cell? (ad.add i) = some (.int .i64 (x : Int))) := Lib.hid fun W hb i x hx => by
            obtain ⟨ad', e, hc⟩ := HCEL.out W hb i x hx
            injection e with e
            rw [e]; exact hc
          have hσl : σ.length = j := by rw [hperm.out.length_eq, List.length_range]
          obtain ⟨AA, hAA, HNEW⟩ : ∃ AA : Addr, (if cap = p then some ad else some (ad.add p)) = some AA ∧ Hid (∀ W, Below wc.heap.size wc W → ∀ (i : Nat) (u : Value), (intsOf (σ.drop p))[i]? = some u → W.cell? (AA.add i) = some u) := by
            by_cases h : cap = p
            · refine ⟨ad, by simp [h], Lib.hid fun W hb i u hu => ?_⟩
              have hl : (intsOf (σ.drop p)).length = 0 := by unfold intsOf; rw [List.length_map, List.length_drop, hσl]; omega
              have := (List.getElem?_eq_some_iff.1 hu).1
              omega
            · refine ⟨ad.add p, by simp [h], Lib.hid fun W hb i u hu => ?_⟩
              unfold intsOf at hu
              rw [List.getElem?_map, List.getElem?_drop] at hu
              obtain ⟨x, hx, rfl⟩ := Option.map_eq_some_iff.1 hu
              rw [addr_add3]
              exact HCE2.out W hb (p + i) x hx
          have HL1 : Hid ((intsOf (σ.drop p)).length = (j - p) * 1) := by unfold intsOf; rw [List.length_map, List.length_drop, hσl, Nat.mul_one]; exact Lib.hid rfl
          have HL2 : Hid ((intsOf (σ.take p)).length = p * 1) := by unfold intsOf; rw [List.length_map, List.length_take, hσl, Nat.mul_one]; exact Lib.hid (by omega)
          have HOLD : Hid (∀ W, Below wc.heap.size wc W → ∀ (i : Nat) (u : Value), (intsOf (σ.take p))[i]? = some u → W.cell? (ad.add i) = some u) := by
            refine Lib.hid fun W hb i u hu => ?_
            unfold intsOf at hu
            rw [List.getElem?_map] at hu
            obtain ⟨x, hx, rfl⟩ := Option.map_eq_some_iff.1 hu
            refine HCE2.out W hb i x ?_
            rw [List.getElem?_take] at hx
            split at hx
            · exact hx
            · cases hx
          have HBA : Hid (Below wc.heap.size wc (wc.alloc (.cells #[.int .i64 (j : Int)] 3)) ∧ wc.heap.size ≤ (wc.alloc (.cells #[.int .i64 (j : Int)] 3)).heap.size) := Lib.hid ⟨(Below.refl _ _).alloc (Nat.le_refl _) _, by rw [World.size_alloc]; omega⟩
          clear hσl
          go_region_law (first
            | (refine step_append_at rfl (.const (.slice none 0 0)) (.tmp 59) 28 rfl wc.heap.size 3 i0 (.int .i64 0) 1 8 Tryz.underlying28 ii iz0 iz1 iz2 rfl (by decide) (.slice none 0 0) 0 [] rfl (World.ownsRow_nil _ _ _ _) ad p cap (intsOf (σ.take p)) (by simp [Act.eval, Act.put]) HL2.out (HOLD.out wc.drew (Below.refl _ _).drew) (intsOf_one _) (by unfold maxLen; omega) (by omega) (Nat.le_refl _) ?_
               intro v1 w1 hown1 hgr1 _ _
               have HB1 : Hid (Below wc.heap.size wc w1) := Lib.hid (Below.grown (Below.refl wc.heap.size wc).drew hgr1 (Nat.le_refl _) (fun k hk => by cases hk))
               have HO1 : Hid (∀ o, (w1.alloc o).ownsRow wc.heap.size 3 1 v1 (0 + p) ([] ++ intsOf (σ.take p))) := Lib.hid fun o => ownsRow_alloc hown1 o
               have HLT1 := Lib.hid (fun k hk => (World.ownsRow.lt hown1 k hk).1)
               have HI1 := Lib.hid (row_one3 w1 (.int .i64 (j : Int)) 3)
               have HBX1 : Hid (∀ o, Below wc.heap.size wc (w1.alloc o)) := Lib.hid fun o => HB1.out.alloc HB1.out.size o
               clear hown1 hgr1)
            | (refine step_append_at rfl (.const (.slice none 0 0)) (.tmp 59) 28 rfl wc.heap.size 3 i0 (.int .i64 0) 1 8 Tryz.underlying28 ii iz0 iz1 iz2 rfl (by decide) (.slice none 0 0) 0 [] rfl (World.ownsRow_nil _ _ _ _) ad p cap (intsOf (σ.take p)) (by simp [Act.eval]) HL2.out (HOLD.out (wc.alloc (.cells #[.int .i64 (j : Int)] 3)).drew HBA.out.1.drew) (intsOf_one _) (by unfold maxLen; omega) (by omega) HBA.out.2 ?_
               intro v1 w1 hown1 hgr1 _ _
               have HB1 : Hid (Below wc.heap.size wc w1) := Lib.hid (Below.grown HBA.out.1.drew hgr1 HBA.out.2 (fun k hk => by cases hk))
               have HO1b := Lib.hid hown1
               have HLT1 := Lib.hid (fun k hk => (World.ownsRow.lt hown1 k hk).1)
               have HI1b : Hid (∀ (i : Nat) (u : Value), [Value.int .i64 (j : Int)][i]? = some u → w1.cell? ((⟨wc.heap.size, 0, none⟩ : Addr).add i) = some u) := Lib.hid fun i u hu => by
                 have h1 := row_one3 wc (.int .i64 (j : Int)) 3 i u hu
                 refine (World.cell?_of_block ?_).trans h1
                 have hb : ((⟨wc.heap.size, 0, none⟩ : Addr).add i).block = wc.heap.size := by unfold Addr.add; split <;> rfl
                 rw [hb]
                 exact hgr1.block wc.heap.size (by show wc.heap.size < (wc.alloc _).heap.size; rw [World.size_alloc]; omega) (by intro e; cases e)
               clear hown1 hgr1)
            | (refine step_append_at rfl (.tmp 60) (.tmp 62) 28 rfl wc.heap.size 3 i0 (.int .i64 0) 1 8 Tryz.underlying28 ii iz0 iz1 iz2 rfl (by decide) v1 (0 + p) ([] ++ intsOf (σ.take p)) (by simp [Act.eval]) (HO1.out _) ⟨w1.heap.size, 0, none⟩ 1 1 [.int .i64 (j : Int)] (by simp [Act.eval]) rfl HI1.out (fun u hu => by rw [List.mem_singleton] at hu; rw [hu]; rfl) (by unfold maxLen; omega) (by omega) (HBX1.out _).size ?_
               intro v2 w2 hown2 hgr2 _ _
               have HB2 : Hid (Below wc.heap.size wc w2) := Lib.hid (Below.grown (HBX1.out _) hgr2 (HBX1.out _).size (fun k hk => HLT1.out k hk))
               have HO2 := Lib.hid hown2
               clear hown2 hgr2)
            | (refine step_append_at rfl (.tmp 60) (.tmp 62) 28 rfl wc.heap.size 3 i0 (.int .i64 0) 1 8 Tryz.underlying28 ii iz0 iz1 iz2 rfl (by decide) v1 (0 + p) ([] ++ intsOf (σ.take p)) (by simp [Act.eval]) HO1b.out ⟨wc.heap.size, 0, none⟩ 1 1 [.int .i64 (j : Int)] (by simp [Act.eval]) rfl HI1b.out (fun u hu => by rw [List.mem_singleton] at hu; rw [hu]; rfl) (by unfold maxLen; omega) (by omega) HB1.out.size ?_
               intro v2 w2 hown2 hgr2 _ _
               have HB2 : Hid (Below wc.heap.size wc w2) := Lib.hid (Below.grown HB1.out hgr2 HB1.out.size (fun k hk => HLT1.out k hk))
               have HO2 := Lib.hid hown2
               clear hown2 hgr2)
            | (refine step_append_at rfl (.tmp 63) (.tmp 66) 28 rfl wc.heap.size 3 i0 (.int .i64 0) 1 8 Tryz.underlying28 ii iz0 iz1 iz2 rfl (by decide) v2 (0 + p + 1) ([] ++ intsOf (σ.take p) ++ [.int .i64 (j : Int)]) (by simp [Act.eval]) HO2.out AA (j - p) (cap - p) (intsOf (σ.drop p)) (by simp [Act.eval]) HL1.out (HNEW.out _ HB2.out) (intsOf_one _) (by unfold maxLen; omega) (by omega) HB2.out.size ?_
               intro v3 w3 hown3 hgr3 _ _
               have HB3 : Hid (Below wc.heap.size wc w3) := Lib.hid (Below.grown HB2.out hgr3 HB2.out.size (fun k hk => (World.ownsRow.lt HO2.out k hk).1))
               rw [Nat.zero_add, List.nil_append] at hown3
               have HO3 := Lib.hid (HNX.out v3 w3 HB3.out hown3)
               obtain ⟨σ3, g3, c3, rfl, _⟩ := HO3.out
               clear hown3 hgr3))
          all_goals
            go_wp2_with (fail)
            go_roundg g2
            case measure => omega
            case rel => exact ⟨j + 1, _, _, hj1, by first | rfl | go_num, rfl, Lib.hid (.inr HO3.out)⟩
/-- What is told of a part: its text, and whether it is good. -/
def GoodP (x : VT) (n : Nat) (r : List UInt8 × Bool) : Prop := (r.2 = true → CanT x r.1) ∧ (r.2 = false → ∃ u, KT x u false ∧ u.length ≤ 170000 * n) ∧ r.1.length ≤ 170000 * n
/-- The items in the order of σ. -/
def itR (ob : Bool) (A : List (List UInt8)) (σ : List Nat) (rs : List (List UInt8 × Bool)) : List (List UInt8) := (σ.zip rs).map fun p => if ob then encStr (A.getD p.1 []) ++ 58 :: p.2.1 else p.2.1
theorem zip_snoc {α β : Type} : ∀ (σ : List α) (rs : List β) (k : α) (r : β), σ[rs.length]? = some k → σ.zip (rs ++ [r]) = σ.zip rs ++ [(k, r)]
  | [], rs, k, r, h => by simp at h
  | a :: σ, [], k, r, h => by
    obtain rfl : a = k := by simpa using h
    simp
  | a :: σ, b :: rs, k, r, h => by
    have h1 := zip_snoc σ rs k r (by simpa using h)
    simp [h1]
theorem itR_snoc {ob : Bool} {A : List (List UInt8)} {σ : List Nat} {rs : List (List UInt8 × Bool)} {k : Nat} {r : List UInt8 × Bool} {a : List UInt8} (h : σ[rs.length]? = some k) (ha : ob = true → A[k]? = some a) : itR ob A σ (rs ++ [r]) = itR ob A σ rs ++ [if ob then encStr a ++ 58 :: r.1 else r.1] := by
  unfold itR
  rw [zip_snoc σ rs k r h, List.map_append]
  congr 1
  simp only [List.map_cons, List.map_nil]
  cases ob with
  | false => rfl
  | true => rw [List.getD_eq_getElem?_getD, ha rfl]; rfl
theorem itR_nil {ob : Bool} {A : List (List UInt8)} {σ : List Nat} : itR ob A σ [] = [] := by unfold itR; simp
/-- The results by the parts' own places. -/
def byP (σ : List Nat) (rs : List (List UInt8 × Bool)) (n : Nat) : List (List UInt8 × Bool) := (List.range n).map fun k => rs.getD (σ.idxOf k) ([], true)
theorem byP_len (σ : List Nat) (rs : List (List UInt8 × Bool)) (n : Nat) : (byP σ rs n).length = n := by unfold byP; rw [List.length_map, List.length_range]
theorem byP_get {σ : List Nat} {rs : List (List UInt8 × Bool)} {n k : Nat} (hp : σ.Perm (List.range n)) (hr : rs.length = n) (hk : k < n) : ∃ (i : Nat) (r : List UInt8 × Bool), σ[i]? = some k ∧ rs[i]? = some r ∧ (byP σ rs n)[k]? = some r := by
  have hm : k ∈ σ := hp.mem_iff.2 (List.mem_range.2 hk)
  have hi : σ.idxOf k < σ.length := List.idxOf_lt_length_iff.2 hm
  have hσ : σ.length = n := by rw [hp.length_eq, List.length_range]
  refine ⟨σ.idxOf k, rs[σ.idxOf k]'(by omega), ?_, List.getElem?_eq_getElem _, ?_⟩
  · rw [List.getElem?_eq_getElem hi, List.getElem_idxOf hi]
  · unfold byP
    rw [List.getElem?_map, List.getElem?_range hk, Option.map_some, List.getD_eq_getElem?_getD, List.getElem?_eq_getElem (by omega : σ.idxOf k < rs.length)]
    rfl
theorem byP_at {σ : List Nat} {rs : List (List UInt8 × Bool)} {n i k : Nat} (hp : σ.Perm (List.range n)) (hr : rs.length = n) (hi : σ[i]? = some k) : (byP σ rs n)[k]? = rs[i]? := by
  have hk : k < n := List.mem_range.1 (hp.mem_iff.1 (List.mem_of_getElem? hi))
  obtain ⟨i', r, h1, h2, h3⟩ := byP_get hp hr hk
  have hnd : σ.Nodup := hp.nodup_iff.2 List.nodup_range
  have hlt : i < σ.length := (List.getElem?_eq_some_iff.1 hi).1
  have : i = i' := (List.getElem?_inj hlt hnd).1 (hi.trans h1.symm)
  rw [h3, this, h2]
theorem itR_all {ob : Bool} {A : List (List UInt8)} {σ : List Nat} {rs : List (List UInt8 × Bool)} {n : Nat} (hp : σ.Perm (List.range n)) (hr : rs.length = n) (hA : ob = true → A.length = n) : itR ob A σ rs = pickS (itmL ob A ((byP σ rs n).map (·.1))) σ := by
  have hσ : σ.length = n := by rw [hp.length_eq, List.length_range]
  have hb : ∀ i ∈ σ, i < n := fun i hi => List.mem_range.1 (hp.mem_iff.1 hi)
  have hll : ((byP σ rs n).map (·.1)).length = n := by rw [List.length_map, byP_len]
  have hil : (itmL ob A ((byP σ rs n).map (·.1))).length = n := by rw [itm_len (fun h => by rw [hA h, hll]), hll]
  apply List.ext_getElem?
  intro i
  rw [pick_get σ (fun k hk => by rw [hil]; exact hb k hk)]
  unfold itR
  rw [List.getElem?_map]
  rcases Nat.lt_or_ge i n with hi | hi
  · obtain ⟨k, hk⟩ : ∃ k, σ[i]? = some k := ⟨_, List.getElem?_eq_getElem (by omega)⟩
    obtain ⟨r, hr'⟩ : ∃ r, rs[i]? = some r := ⟨_, List.getElem?_eq_getElem (by omega)⟩
    have hz : (σ.zip rs)[i]? = some (k, r) := by rw [List.getElem?_zip_eq_some]; exact ⟨hk, hr'⟩
    rw [hz, hk, Option.bind_some]
    have hL : ((byP σ rs n).map (·.1))[k]? = some r.1 := by rw [List.getElem?_map, byP_at hp hr hk, hr']; rfl
    have hkn := hb k (List.mem_of_getElem? hk)
    obtain ⟨a, ha⟩ : ∃ a, ob = true → A[k]? = some a := by
      cases ob with
      | false => exact ⟨[], fun h => by cases h⟩
      | true => exact ⟨A[k]'(by rw [hA rfl]; exact hkn), fun _ => List.getElem?_eq_getElem _⟩
    rw [itm_get hL ha, Option.map_some]
    cases ob with
    | false => rfl
    | true =>
      simp only [if_true]
      rw [List.getD_eq_getElem?_getD, ha rfl]
      rfl
  · rw [List.getElem?_eq_none (by rw [List.length_zip]; omega), List.getElem?_eq_none (by omega : σ.length ≤ i)]
    rfl
theorem items_len4 {K : List (List UInt8 × List UInt8)} (hd : (K.map (·.1)).Nodup) (hk : ∀ p ∈ K, p.1.length ≤ 400) : ((itemsT K).map List.length).sum ≤ 1603 * K.length + (K.map fun p => p.2.length).sum := by
  have hp : ((K.map (·.1)).mergeSort leB).Perm (K.map (·.1)) := List.mergeSort_perm _ _
  have h1 : ((itemsT K).map List.length).sum = (((K.map (·.1)).map fun k => encStr k ++ 58 :: lookT K k).map List.length).sum := sum_perm ((hp.map _).map _)
  rw [h1, List.map_map, List.map_map]
  have h2 : ∀ M : List (List UInt8 × List UInt8), (∀ p ∈ M, lookT K p.1 = p.2) → (∀ p ∈ M, p.1.length ≤ 400) → (M.map (List.length ∘ (fun k => encStr k ++ 58 :: lookT K k) ∘ fun p => p.1)).sum ≤ 1603 * M.length + (M.map fun p => p.2.length).sum := by
    intro M
    induction M with
    | nil => intro _ _; exact Nat.le_refl _
    | cons p M ih =>
      intro a b
      have h3 := ih (fun q hq => a q (List.mem_cons_of_mem _ hq)) fun q hq => b q (List.mem_cons_of_mem _ hq)
      have h4 := a p List.mem_cons_self
      have h5 := b p List.mem_cons_self
      have h6 := encStr_len p.1
      simp only [List.map_cons, List.sum_cons, Function.comp, List.length_append, List.length_cons, h4]
      omega
  exact h2 K (lookT_hit hd) hk
/-- The parts, each with a text that bounds it. -/
theorem kt_parts {l : List VT} : ∀ (L : List (List UInt8 × Bool)) (ns : List Nat), L.length = l.length → ns.length = l.length → (∀ (j : Nat) (x : VT) (r : List UInt8 × Bool) (n : Nat), l[j]? = some x → L[j]? = some r → ns[j]? = some n → GoodP x n r) →
    ∃ L' : List (List UInt8 × Bool), L'.length = l.length ∧ (∀ (j : Nat) (x : VT) (p : List UInt8 × Bool), l[j]? = some x → L'[j]? = some p → KT x p.1 p.2) ∧ L'.map (·.2) = L.map (·.2) ∧ ((L'.map (·.1)).map List.length).sum ≤ 170000 * ns.sum := by
  induction l with
  | nil =>
    intro L ns h1 h2 _
    have e1 : L = [] := List.eq_nil_of_length_eq_zero h1
    subst e1
    exact ⟨[], rfl, fun j x p h => by simp at h, rfl, Nat.zero_le _⟩
  | cons y l ih =>
    intro L ns h1 h2 hg
    cases L with
    | nil => cases h1
    | cons r L =>
      cases ns with
      | nil => cases h2
      | cons n ns =>
        obtain ⟨L', q1, q2, q3, q4⟩ := ih L ns (by simpa using h1) (by simpa using h2) fun j x r n a b c => hg (j + 1) x r n (by simpa using a) (by simpa using b) (by simpa using c)
        obtain ⟨g1, g2, g3⟩ := hg 0 y r n rfl rfl rfl
        obtain ⟨u, hu1, hu2⟩ : ∃ u, KT y u r.2 ∧ u.length ≤ 170000 * n := by
          cases hr : r.2 with
          | true => exact ⟨r.1, .good y r.1 (g1 hr), g3⟩
          | false => exact g2 hr
        refine ⟨(u, r.2) :: L', by simp [q1], fun j x p hx hp => ?_, by simp [q3], ?_⟩
        · cases j with
          | zero => simp only [List.getElem?_cons_zero, Option.some.injEq] at hx hp; subst hx hp; exact hu1
          | succ j => exact q2 j x p (by simpa using hx) (by simpa using hp)
        · simp only [List.map_cons, List.sum_cons]
          omega
set_option maxHeartbeats 4000000 in
theorem parts_end {t : VT} {ob : Bool} {σ : List Nat} {ns : List Nat} {rs : List (List UInt8 × Bool)} (hk : t.kind.toList = kdB ob) (hp : σ.Perm (List.range t.list.length)) (hs : ob = true → SortedS (t.keys.map (·.data.toList)) σ) (hf : ob = false → σ = List.range t.list.length)
    (hr : rs.length = t.list.length) (hns : ns.length = t.list.length) (hn : t.list.length ≤ 100) (hK : ob = true → t.keys.length = t.list.length ∧ (t.keys.map (·.data.toList)).Nodup ∧ ∀ s ∈ t.keys, s.size ≤ 400)
    (hg : ∀ (i k : Nat) (x : VT) (r : List UInt8 × Bool) (n : Nat), σ[i]? = some k → t.list[k]? = some x → rs[i]? = some r → ns[k]? = some n → GoodP x n r) :
    ((∀ r ∈ rs, r.2 = true) → CanT t (opB ob ++ joinC (itR ob (t.keys.map (·.data.toList)) σ rs) ++ clB ob)) ∧ ((∃ r ∈ rs, r.2 = false) → ∃ u, KT t u false ∧ u.length ≤ 170000 * (1 + ns.sum)) := by
  obtain ⟨L, hL⟩ : ∃ L, L = byP σ rs t.list.length := ⟨_, rfl⟩
  have hLl : L.length = t.list.length := by rw [hL, byP_len]
  have hgL : ∀ (j : Nat) (x : VT) (r : List UInt8 × Bool) (n : Nat), t.list[j]? = some x → L[j]? = some r → ns[j]? = some n → GoodP x n r := by
    intro j x r n hx hrj hnj
    obtain ⟨i, r', h1, h2, h3⟩ := byP_get hp hr (List.getElem?_eq_some_iff.1 hx).1
    rw [hL, h3] at hrj
    injection hrj with hrj
    subst hrj
    exact hg i j x r' n h1 hx h2 hnj
  have hA : ob = true → (t.keys.map (·.data.toList)).length = t.list.length := fun h => by rw [List.length_map]; exact (hK h).1
  have hkind : ∀ b, ob = b → t.kind = ⟨(kdB b).toArray⟩ := fun b hb => ba_of (by rw [hk, hb])
  constructor
  · intro hall
    have hLt : ∀ r ∈ L, r.2 = true := by
      intro r hr'
      obtain ⟨j, hj⟩ := List.mem_iff_getElem?.1 hr'
      have hjl : j < t.list.length := by rw [← hLl]; exact (List.getElem?_eq_some_iff.1 hj).1
      obtain ⟨i, r', h1, h2, h3⟩ := byP_get hp hr hjl
      rw [hL, h3] at hj
      injection hj with hj
      rw [← hj]
      exact hall r' (List.mem_of_getElem? h2)
    have hcan : ∀ (j : Nat) (x : VT) (u : List UInt8), t.list[j]? = some x → (L.map (·.1))[j]? = some u → CanT x u := by
      intro j x u hx hu
      rw [List.getElem?_map] at hu
      obtain ⟨r, hrj, rfl⟩ := Option.map_eq_some_iff.1 hu
      obtain ⟨n, hnj⟩ : ∃ n, ns[j]? = some n := ⟨_, List.getElem?_eq_getElem (by rw [hns]; exact (List.getElem?_eq_some_iff.1 hx).1)⟩
      exact (hgL j x r n hx hrj hnj).1 (hLt r (List.mem_of_getElem? hrj))
    rw [itR_all hp hr hA, ← hL]
    have hl2 : (L.map (·.1)).length = t.list.length := by rw [List.length_map]; exact hLl
    cases ob with
    | false =>
      rw [← parts_text (ob := false) (u := 91 :: joinC (L.map (·.1)) ++ [93]) hl2 (fun h => by cases h) hp (fun h => by cases h) hf (fun _ => rfl) (fun h => by cases h)]
      have hk1 : t.kind = ⟨#[108, 105, 115, 116]⟩ := hkind false rfl
      have h5 : (L.map (·.1)).length ≤ 65536 := by omega
      exact CanT.list t (L.map (·.1)) hk1 hl2 h5 hcan
    | true =>
      obtain ⟨k1, k2, k3⟩ := hK rfl
      rw [← parts_text (ob := true) (u := 123 :: joinC (itemsT ((t.keys.map (·.data.toList)).zip (L.map (·.1)))) ++ [125]) hl2 (fun _ => ⟨hA rfl, k2⟩) hp hs (fun h => by cases h) (fun h => by cases h) (fun _ => rfl)]
      have hk1 : t.kind = ⟨#[111, 98, 106, 101, 99, 116]⟩ := hkind true rfl
      have h5 : (L.map (·.1)).length ≤ 65536 := by omega
      have h6 : ∀ s ∈ t.keys, s.size ≤ 4294967296 := fun s hs => by have := k3 s hs; omega
      exact CanT.obj t (L.map (·.1)) hk1 hl2 h5 k1 k2 h6 hcan
  · intro hex
    obtain ⟨L', q1, q2, q3, q4⟩ := kt_parts L ns hLl hns hgL
    have hbad : ∃ p ∈ L', p.2 = false := by
      obtain ⟨r, hr', hrb⟩ := hex
      obtain ⟨i, hi⟩ := List.mem_iff_getElem?.1 hr'
      have hil : i < t.list.length := by rw [← hr]; exact (List.getElem?_eq_some_iff.1 hi).1
      obtain ⟨k, hk'⟩ : ∃ k, σ[i]? = some k := ⟨_, List.getElem?_eq_getElem (by rw [hp.length_eq, List.length_range]; exact hil)⟩
      have h1 : L[k]? = some r := by rw [hL, byP_at hp hr hk', hi]
      have h2 : (L'.map (·.2))[k]? = some false := by rw [q3, List.getElem?_map, h1]; simp [hrb]
      rw [List.getElem?_map] at h2
      obtain ⟨p, hp1, hp2⟩ := Option.map_eq_some_iff.1 h2
      exact ⟨p, List.mem_of_getElem? hp1, hp2⟩
    have hj1 := joinC_len (L'.map (·.1))
    cases ob with
    | false =>
      have hn6 : L'.length ≤ 65536 := by omega
      have hk1 : t.kind = ⟨#[108, 105, 115, 116]⟩ := hkind false rfl
      refine ⟨91 :: joinC (L'.map (·.1)) ++ [93], KT.list t L' hk1 q1 hn6 q2 hbad, ?_⟩
      rw [List.length_map] at hj1
      simp only [List.length_append, List.length_cons, List.length_nil]
      omega
    | true =>
      obtain ⟨k1, k2, k3⟩ := hK rfl
      have hn6 : L'.length ≤ 65536 := by omega
      have hk1 : t.kind = ⟨#[111, 98, 106, 101, 99, 116]⟩ := hkind true rfl
      refine ⟨123 :: joinC (itemsT ((t.keys.map (·.data.toList)).zip (L'.map (·.1)))) ++ [125], KT.obj t L' hk1 q1 hn6 k1 k2 (fun s hs => by have := k3 s hs; omega) q2 hbad, ?_⟩
      have hl2 : (L'.map (·.1)).length = t.list.length := by rw [List.length_map]; exact q1
      have hz : ((t.keys.map (·.data.toList)).zip (L'.map (·.1))).map (·.1) = t.keys.map (·.data.toList) := List.map_fst_zip (by rw [List.length_map]; omega)
      have hz2 : ((t.keys.map (·.data.toList)).zip (L'.map (·.1))).map (fun p => p.2.length) = (L'.map (·.1)).map List.length := by
        rw [show (fun p : List UInt8 × List UInt8 => p.2.length) = List.length ∘ (·.2) from rfl, ← List.map_map, List.map_snd_zip (by rw [List.length_map, List.length_map]; omega)]
      have h6 := items_len4 (K := (t.keys.map (·.data.toList)).zip (L'.map (·.1))) (by rw [hz]; exact k2) (fun p hp => by
        obtain ⟨s, hs, e⟩ := List.mem_map.1 (List.of_mem_zip hp).1
        have := k3 s hs
        rw [← e, ← Lib.size_eq]
        exact this)
      have h7 := joinC_len (itemsT ((t.keys.map (·.data.toList)).zip (L'.map (·.1))))
      have h8 : ((t.keys.map (·.data.toList)).zip (L'.map (·.1))).length = t.list.length := by rw [List.length_zip, List.length_map, hl2]; omega
      have h9 : (itemsT ((t.keys.map (·.data.toList)).zip (L'.map (·.1)))).length = t.list.length := by
        unfold itemsT
        rw [List.length_map, List.length_mergeSort, List.length_map, h8]
      rw [hz2, h8] at h6
      rw [h9] at h7
      simp only [List.length_append, List.length_cons, List.length_nil]
      omega
/-- What jCanon tells of a tree of n parts. -/
def JC (x : VT) (n : Nat) (w : World) (e : Ending) (w' : World) : Prop := ∃ (u : ByteArray) (ok said : Bool), e = .returned (.tuple #[.string u, .bool ok, .bool said]) ∧ Below w.heap.size w w' ∧ (said = true → u.size ≤ 170000 * n ∧ (ok = true → CanT x u.data.toList) ∧ (ok = false → ∃ u', KT x u' false ∧ u'.length ≤ 170000 * n))
theorem JC.quiet {x : VT} {n : Nat} {w w' : World} (h : Below w.heap.size w w') (u : ByteArray) (b : Bool) : JC x n w (.returned (.tuple #[.string u, .bool b, .bool false])) w' := ⟨u, b, false, rfl, h, fun h => by cases h⟩
theorem pick_sum {ns : List Nat} {σ : List Nat} (hp : σ.Perm (List.range ns.length)) (i : Nat) : (pickS ns (σ.take i)).sum + (pickS ns (σ.drop i)).sum = ns.sum := by
  have h1 : (pickS ns σ).Perm ns := pick_perm hp
  have h2 : (pickS ns (σ.take i ++ σ.drop i)).sum = ns.sum := by rw [List.take_append_drop]; exact h1.sum_nat
  rw [pick_app, List.sum_append] at h2
  exact h2
theorem pick_take {ns : List Nat} {σ : List Nat} {i x n : Nat} (h : σ[i]? = some x) (hn : ns[x]? = some n) : (pickS ns (σ.take (i + 1))).sum = (pickS ns (σ.take i)).sum + n := by
  rw [List.take_add_one, h, pick_app, List.sum_append]
  show _ + (pickS ns [x]).sum = _
  rw [pick_cons hn]
  show _ + ([n] : List Nat).sum = _
  simp
theorem GoodAll.snoc {l : List VT} {ns σ : List Nat} {rs : List (List UInt8 × Bool)} {r0 : List UInt8 × Bool} {x0 n0 : Nat} {T : VT} (h : ∀ (i k : Nat) (x : VT) (r : List UInt8 × Bool) (n : Nat), σ[i]? = some k → l[k]? = some x → rs[i]? = some r → ns[k]? = some n → GoodP x n r) (hx : σ[rs.length]? = some x0) (hT : l[x0]? = some T) (hn : ns[x0]? = some n0) (hr : GoodP T n0 r0) :
    ∀ (i k : Nat) (x : VT) (r : List UInt8 × Bool) (n : Nat), σ[i]? = some k → l[k]? = some x → (rs ++ [r0])[i]? = some r → ns[k]? = some n → GoodP x n r := by
  intro i k x r n h1 h2 h3 h4
  rcases Nat.lt_or_ge i rs.length with hi | hi
  · rw [List.getElem?_append_left hi] at h3
    exact h i k x r n h1 h2 h3 h4
  · rw [List.getElem?_append_right hi] at h3
    have hi0 : i = rs.length := by
      have := (List.getElem?_eq_some_iff.1 h3).1
      simp at this
      omega
    subst hi0
    rw [Nat.sub_self] at h3
    cases h3
    rw [hx] at h1
    cases h1
    rw [hT] at h2
    cases h2
    rw [hn] at h4
    cases h4
    exact hr
theorem parts_next {ob : Bool} {A : List (List UInt8)} {σ : List Nat} {rs : List (List UInt8 × Bool)} {x0 i : Nat} {a0 u : List UInt8} {β : Bool} {D S1 S2 : List UInt8} (hi : rs.length = i) (hσ : i < σ.length) (hx : σ[i]? = some x0) (ha : ob = true → A[x0]? = some a0) (hS1 : S1 = if 0 < i then (D ++ joinC (itR ob A σ rs)) ++ [44] else D ++ joinC (itR ob A σ rs)) (hS2 : S2 = S1 ++ (if ob then encStr a0 ++ [58] else [])) :
    S2 ++ u = D ++ joinC (itR ob A σ (rs ++ [(u, β)])) := by
  subst hi
  rw [itR_snoc hx ha, joinC_snoc, hS2, hS1]
  have hl : (itR ob A σ rs).length = rs.length := by
    unfold itR
    rw [List.length_map, List.length_zip]
    omega
  rcases Nat.eq_zero_or_pos rs.length with h0 | h0
  · have e : itR ob A σ rs = [] := List.eq_nil_of_length_eq_zero (by omega)
    rw [if_neg (by omega), if_pos e, e]
    cases ob <;> simp [joinC]
  · have e : itR ob A σ rs ≠ [] := fun h => by rw [h] at hl; simp at hl; omega
    rw [if_pos h0, if_neg e]
    cases ob <;> simp
set_option maxRecDepth 100000 in
set_option maxHeartbeats 16000000 in
theorem jParts_any {t : VT} {ob : Bool} {ns : List Nat} {lv kv : Value} {w : World} {N : Nat} (hk : t.kind.toList = kdB ob) (hl : LR w lv t.list) (hs : StrR w kv (if ob then t.keys else [])) (hns : ns.length = t.list.length) (hn : t.list.length ≤ 100) (hsum : ns.sum ≤ 400)
    (hK : ob = true → t.keys.length = t.list.length ∧ (t.keys.map (·.data.toList)).Nodup ∧ ∀ s ∈ t.keys, s.size ≤ 400)
    (IH : ∀ (j : Nat) (x : VT) (n : Nat), t.list[j]? = some x → ns[j]? = some n → ∀ (v : Value) (W : World), VR W v x → TL N W → Calls Tryz.prog 37 #[v] W (JC x n W)) (hN : TL N w) :
    Calls Tryz.prog 68 #[lv, kv, .bool ob] w (JC t (1 + ns.sum) w) := by
  obtain ⟨K, hKe⟩ : ∃ K, K = if ob then t.keys else [] := ⟨_, rfl⟩
  rw [← hKe] at hs
  have hKT : ob = true → K = t.keys := fun h => by rw [hKe, h]; rfl
  have hKF : ob = false → K = [] := fun h => by rw [hKe, h]; rfl
  have hm6 : K.length ≤ 65536 := by
    cases ob with
    | false => rw [hKF rfl]; exact Nat.zero_le _
    | true => rw [hKT rfl, (hK rfl).1]; omega
  have HJ := Lib.hid (jOrder_any hs hm6)
  obtain ⟨ko, kp, rfl, hkc⟩ := strR_cells hs
  obtain ⟨ao, cp, rfl, hll⟩ := lr_slice hl
  obtain ⟨n, hnn⟩ : ∃ n, n = t.list.length := ⟨_, rfl⟩
  obtain ⟨m, hmm⟩ : ∃ m, m = K.length := ⟨_, rfl⟩
  obtain ⟨A, hA⟩ : ∃ A, A = t.keys.map (·.data.toList) := ⟨_, rfl⟩
  obtain ⟨oB, hoB⟩ : ∃ o : ByteArray, o = ⟨(opB ob).toArray⟩ := ⟨_, rfl⟩
  obtain ⟨cB, hcB⟩ : ∃ o : ByteArray, o = ⟨(clB ob).toArray⟩ := ⟨_, rfl⟩
  have hos : oB.size = 1 := by rw [hoB]; cases ob <;> rfl
  have hcs : cB.size = 1 := by rw [hcB]; cases ob <;> rfl
  rw [← hnn] at hl ⊢
  rw [← hmm] at HJ ⊢
  have hn100 : n ≤ 100 := by omega
  have HKC := Lib.hid hkc
  have HLR := Lib.hid hl
  have HOC := Lib.hid (And.intro hoB hcB)
  have HP := Lib.hid (And.intro hk (And.intro hns (And.intro hn hK)))
  have HKA := Lib.hid (And.intro hnn (And.intro hmm (And.intro hA (And.intro hKT hKF))))
  have HMN : Hid (ob = true → m = n) := Lib.hid fun h => by rw [hmm, hKT h, hnn, (hK h).1]
  have HIH := Lib.hid IH
  have HTL := Lib.hid hN
  have HSUM := Lib.hid hsum
  clear hk hs hl hkc hns hn hK IH hN hm6 hKe hKT hKF hnn hmm hA hoB hcB hll hsum
  go_enter Tryz.func68, Tryz.ntmps68
  go_wp2_with (fail)
  (with_reducible refine HJ.out.mono ?_)
  rintro e wj ⟨ado, cj, σ0, rfl, hbj, hσp, hσs, hσc⟩
  have HBJ := Lib.hid hbj
  obtain ⟨σ, hσ⟩ : ∃ σ, σ = if ob then σ0 else List.range n := ⟨_, rfl⟩
  have HσP : Hid (σ.Perm (List.range n)) := by
    rw [hσ]
    cases ob with
    | false => exact Lib.hid (List.Perm.refl _)
    | true =>
      rw [List.length_map, ← HKA.out.2.1, HMN.out rfl] at hσp
      exact Lib.hid hσp
  have HσL : Hid (σ.length = n) := Lib.hid (by rw [HσP.out.length_eq, List.length_range])
  have HσS : Hid (ob = true → SortedS A σ) := Lib.hid fun h => by
    rw [hσ, h, HKA.out.2.2.1, ← HKA.out.2.2.2.1 h]
    exact hσs
  have HσF : Hid (ob = false → σ = List.range n) := Lib.hid fun h => by rw [hσ, h]; rfl
  have HσC : Hid (ob = true → ∀ W, Below wj.heap.size wj W → ∀ (i x : Nat), σ[i]? = some x → ∃ ad, ado = some ad ∧ W.cell? (ad.add i) = some (.int .i64 (x : Int))) := Lib.hid fun h => by
    rw [hσ, h]
    exact hσc
  rw [List.length_map, ← HKA.out.2.1]
  clear hbj hσp hσs hσc hσ HJ
  go_upto_if 23 with (fail)
  go_cut [9, 10] (fun o c wx => o = .string oB ∧ c = .string cB ∧ wj = wx)
  case first =>
    as_aux_lemma =>
      obtain ⟨rfl, rfl⟩ := HOC.out
      cases ob with
      | false =>
        go_wp2_with (fail)
        go_meet
        case rel => exact ⟨rfl, rfl, rfl⟩
      | true =>
        go_wp2_with (fail)
        go_meet
        case rel => exact ⟨rfl, rfl, rfl⟩
  case rest =>
    obtain ⟨rfl, rfl, rfl⟩ := hcut
    go_wp2_with (fail)
    go_loopg [12, 13, 14] n (fun gk ov gv iv wr => ∃ (i : Nat) (S : ByteArray) (β : Bool) (rs : List (List UInt8 × Bool)), i + gk = n ∧ iv = .int .i64 i ∧ ov = .string S ∧ gv = .bool β ∧ S.size ≤ 1 + 1610 * i + 170000 * 400 ∧ Hid (S.size ≤ 1 + 1610 * i + 170000 * (pickS ns (σ.take i)).sum) ∧ Hid (β = rs.all (·.2) ∧ rs.length = i) ∧ Hid (S.data.toList = opB ob ++ joinC (itR ob A σ rs)) ∧ Hid (∀ (i k : Nat) (x : VT) (r : List UInt8 × Bool) (n : Nat), σ[i]? = some k → t.list[k]? = some x → rs[i]? = some r → ns[k]? = some n → GoodP x n r) ∧ Hid (Below wj.heap.size wj wr))
    case atStart => exact ⟨0, oB, true, [], by omega, rfl, rfl, rfl, by omega, Lib.hid (by omega), Lib.hid ⟨rfl, rfl⟩, Lib.hid (by rw [HOC.out.1, itR_nil]; simp [joinC]), Lib.hid (fun i k x r n _ _ h => by simp at h), Lib.hid (Below.refl _ _)⟩
    case round =>
      obtain ⟨i, S, β, rs, hi, rfl, rfl, rfl, hS, HSZ, HRS, HSD, HGA, HBR⟩ := hrel
      obtain ⟨wq, rfl⟩ : ∃ wq, wq = wr := ⟨_, rfl⟩
      have HBQ : Hid (Below w.heap.size w wq) := Lib.hid (HBJ.out.trans (HBR.out.mono HBJ.out.size))
      cases gk with
      | zero =>
        have hin : i = n := by omega
        clear hi
        subst hin
        have hki : ¬ (i : Int) < (i : Int) := by omega
        have HE : Hid (JC t (1 + ns.sum) w (.returned (.tuple #[.string (S ++ cB), .bool β, .bool true])) wq) := by
          refine Lib.hid ⟨_, _, _, rfl, HBQ.out, fun _ => ⟨?_, ?_⟩⟩
          · have h1 := HSZ.out
            have h2 := pick_sum (ns := ns) (σ := σ) (by rw [HP.out.2.1, ← HKA.out.1]; exact HσP.out) i
            rw [bapz, hcs]
            omega
          · have h := parts_end (t := t) (ob := ob) (σ := σ) (ns := ns) (rs := rs) HP.out.1 (by rw [← HKA.out.1]; exact HσP.out) (by rw [← HKA.out.2.2.1]; exact HσS.out) (by rw [← HKA.out.1]; exact HσF.out) (by rw [← HKA.out.1]; exact HRS.out.2) HP.out.2.1 HP.out.2.2.1 HP.out.2.2.2 HGA.out
            rw [bap, HSD.out, HOC.out.2, HKA.out.2.2.1]
            refine ⟨fun hb => ?_, fun hb => ?_⟩
            · have h1 := h.1 fun r hr => by
                have := HRS.out.1
                rw [hb] at this
                exact List.all_eq_true.1 this.symm r hr
              simpa using h1
            · refine h.2 ?_
              have h1 := HRS.out.1
              rw [hb] at h1
              obtain ⟨r, hr, hr2⟩ := List.all_eq_false.1 h1.symm
              exact ⟨r, hr, by simpa using hr2⟩
        go_wp2_with (fail)
        go_ret3
        exact HE.out
      | succ g2 =>
        have hlt : i < n := by omega
        have hki : (i : Int) < (n : Int) := by omega
        have hi1 : i + 1 + g2 = n := by omega
        clear hi
        obtain ⟨x0, hx0⟩ : ∃ x0, σ[i]? = some x0 := ⟨_, List.getElem?_eq_getElem (by rw [HσL.out]; exact hlt)⟩
        have hx0n : x0 < n := List.mem_range.1 (HσP.out.mem_iff.1 (List.mem_of_getElem? hx0))
        have hx0i : (x0 : Int) < (n : Int) := by omega
        have HXF : Hid (ob = false → x0 = i) := Lib.hid fun h => by
          rw [HσF.out h, List.getElem?_range hlt] at hx0
          injection hx0 with hx0
          exact hx0.symm
        obtain ⟨n0, hn0⟩ : ∃ n0, ns[x0]? = some n0 := ⟨_, List.getElem?_eq_getElem (by rw [HP.out.2.1, ← HKA.out.1]; exact hx0n)⟩
        have HX0 := Lib.hid (And.intro hx0 hn0)
        have HPS := pick_take hx0 hn0
        have hps := pick_sum (ns := ns) (σ := σ) (by rw [HP.out.2.1, ← HKA.out.1]; exact HσP.out) (i + 1)
        have hsum := HSUM.out
        have hsz := HSZ.out
        have hn04 : n0 ≤ 400 := by omega
        have HSZ2 : Hid ((pickS ns (σ.take (i + 1))).sum = (pickS ns (σ.take i)).sum + n0 ∧ (pickS ns (σ.take i)).sum + n0 ≤ 400) := Lib.hid ⟨HPS, by omega⟩
        clear hx0 hn0 HPS hps hsum hsz
        go_upto_if 33 with (fail)
        go_cut [12] (fun wv wy => ∃ S1 : ByteArray, wv = .string S1 ∧ wq = wy ∧ S1.size ≤ S.size + 1 ∧ Hid (S1.data.toList = if 0 < i then (opB ob ++ joinC (itR ob A σ rs)) ++ [44] else opB ob ++ joinC (itR ob A σ rs)))
        case first =>
          as_aux_lemma =>
            rcases Nat.eq_zero_or_pos i with rfl | hi0
            · go_wp2_with (fail)
              go_meet
              case rel => exact ⟨S, rfl, rfl, by omega, Lib.hid (by rw [if_neg (by omega)]; exact HSD.out)⟩
            · have z0 : decide ((0 : Int) < (i : Int)) = true := decide_eq_true (by omega)
              go_wp2_with (fail)
              go_meet
              case rel => exact ⟨_, rfl, rfl, by rw [bapz]; exact Nat.le_refl _, Lib.hid (by rw [if_pos hi0, bap, HSD.out])⟩
        case rest =>
        obtain ⟨S1, rfl, rfl, hS1, HS1⟩ := hcut
        go_upto_if 36 with (fail)
        obtain ⟨a0, ha0⟩ : ∃ a0, ob = true → ∃ s0 : ByteArray, K[x0]? = some s0 ∧ a0 = s0.data.toList ∧ A[x0]? = some a0 ∧ s0.size ≤ 400 := by
          cases ob with
          | false => exact ⟨[], fun h => by cases h⟩
          | true =>
            obtain ⟨s0, hs0⟩ : ∃ s, K[x0]? = some s := ⟨_, List.getElem?_eq_getElem (by rw [← HKA.out.2.1, HMN.out (by first | rfl | trivial)]; exact hx0n)⟩
            have hs1 : t.keys[x0]? = some s0 := by rw [← HKA.out.2.2.2.1 (by first | rfl | trivial)]; exact hs0
            exact ⟨_, fun _ => ⟨s0, hs0, rfl, by rw [HKA.out.2.2.1, List.getElem?_map, hs1]; rfl, (HP.out.2.2.2 (by first | rfl | trivial)).2.2 s0 (List.mem_of_getElem? hs1)⟩⟩
        have HA0 := Lib.hid ha0
        clear ha0
        go_cut [12, 15] (fun wv kw wy => ∃ S2 : ByteArray, wv = .string S2 ∧ kw = .int .i64 (x0 : Int) ∧ S2.size ≤ S1.size + 1603 ∧ Hid (S2.data.toList = S1.data.toList ++ (if ob then encStr a0 ++ [58] else [])) ∧ Hid (Below wq.heap.size wq wy))
        case first =>
          as_aux_lemma =>
            cases ob with
            | false =>
              obtain rfl := HXF.out (by first | rfl | trivial)
              go_wp2_with (fail)
              go_meet
              case rel => exact ⟨S1, rfl, rfl, by omega, Lib.hid (by simp), Lib.hid (Below.refl _ _)⟩
            | true =>
              obtain ⟨s0, hs0, ha0, hA0, hs4⟩ := HA0.out (by first | rfl | trivial)
              obtain ⟨ka, rfl, ck⟩ := HKC.out wq HBQ.out x0 s0 hs0
              obtain ⟨ad, rfl, co⟩ := HσC.out (by first | rfl | trivial) wq HBR.out i x0 HX0.out.1
              obtain rfl := HMN.out (by first | rfl | trivial)
              obtain ⟨E, hEE⟩ : ∃ E : ByteArray, E = ⟨(encStr s0.data.toList).toArray⟩ := ⟨_, rfl⟩
              have HCK := Lib.hid (jPlain_any s0 (by omega) (HTL.out.below HBQ.out))
              rw [← hEE] at HCK
              have HE : Hid (E.data.toList = encStr a0) := by rw [hEE, ha0]; exact Lib.hid (by simp)
              have hEs : E.size ≤ 1602 := by
                rw [Lib.size_eq, HE.out, ha0]
                have h1 := encStr_len s0.data.toList
                have h2 := Lib.size_eq s0
                omega
              have hk2 : (E ++ (⟨#[58]⟩ : ByteArray)).size = E.size + 1 := bapz _ _
              clear hEE hs4 hs0 ha0 hA0
              go_wp2_with (fail)
              (with_reducible refine HCK.out.mono ?_)
              rintro e wy ⟨⟨b, rfl⟩, hb⟩
              have HBY := Lib.hid hb
              have HBW : Hid (Below w.heap.size w wy) := Lib.hid (HBQ.out.trans (hb.mono HBQ.out.size))
              clear hb
              cases b with
              | false =>
                go_wp2_with (fail)
                go_ret3
                exact JC.quiet HBW.out _ _
              | true =>
                go_wp2_with (fail)
                go_meet
                case rel => exact ⟨_, rfl, rfl, by rw [bapz, bapz]; show S1.size + (E.size + 1) ≤ _; omega, Lib.hid (by rw [bap, bap, HE.out]; simp), HBY⟩
        case rest =>
        obtain ⟨wy, rfl⟩ : ∃ wy, wy = wc := ⟨_, rfl⟩
        obtain ⟨S2, rfl, rfl, hS2, HS2, HBY⟩ := hcut
        have HBW : Hid (Below w.heap.size w wy) := Lib.hid (HBQ.out.trans (HBY.out.mono HBQ.out.size))
        obtain ⟨a, T, k0, l0, k1, l1, k2, l2, rfl, e0, e1, e2, e3, hvr, hTj⟩ := lr_elem HLR.out HBW.out x0 (by rw [← HKA.out.1]; exact hx0n)
        have HTJ := Lib.hid hTj
        have HCALL := Lib.hid (HIH.out x0 T n0 hTj HX0.out.2 _ _ hvr (HTL.out.below HBW.out))
        unfold JC at HCALL
        clear hvr hTj
        obtain ⟨tk, htk⟩ : ∃ tk, tk = T.kind := ⟨_, rfl⟩
        obtain ⟨tx, htx⟩ : ∃ tx, tx = T.text := ⟨_, rfl⟩
        rw [← htk] at e0 HCALL
        rw [← htx] at e1 HCALL
        clear htk htx
        go_wp2_with (fail)
        (with_reducible refine HCALL.out.mono ?_)
        rintro e wz ⟨u, ok, said, rfl, hb, hgd⟩
        have HBZ : Hid (Below w.heap.size w wz) := Lib.hid (HBW.out.trans (hb.mono HBW.out.size))
        have HBZJ : Hid (Below wj.heap.size wj wz) := Lib.hid ((HBR.out.trans (HBY.out.mono HBR.out.size)).trans (hb.mono (HBR.out.trans (HBY.out.mono HBR.out.size)).size))
        have HGD := Lib.hid hgd
        clear hb hgd e0 e1 e2 e3
        cases said with
        | false =>
          go_wp2_with (fail)
          go_ret3
          exact JC.quiet HBZ.out _ _
        | true =>
          have HU := Lib.hid (HGD.out rfl).1
          have hu2 : u.size ≤ 170000 * 400 := Nat.le_trans HU.out (by omega)
          have HGP : Hid (GoodP T n0 (u.data.toList, ok)) := Lib.hid ⟨(HGD.out rfl).2.1, (HGD.out rfl).2.2, by rw [← Lib.size_eq]; exact HU.out⟩
          have HF : Hid ((S2 ++ u).data.toList = opB ob ++ joinC (itR ob A σ (rs ++ [(u.data.toList, ok)]))) := Lib.hid (by
            rw [bap]
            exact parts_next HRS.out.2 (by rw [HσL.out]; exact hlt) HX0.out.1 (fun h => by obtain ⟨_, _, _, h1, _⟩ := HA0.out h; exact h1) HS1.out HS2.out)
          have HGA2 : Hid (∀ (i k : Nat) (x : VT) (r : List UInt8 × Bool) (n : Nat), σ[i]? = some k → t.list[k]? = some x → (rs ++ [(u.data.toList, ok)])[i]? = some r → ns[k]? = some n → GoodP x n r) := Lib.hid (GoodAll.snoc HGA.out (by rw [HRS.out.2]; exact HX0.out.1) HTJ.out HX0.out.2 HGP.out)
          have HZ : Hid ((S2 ++ u).size ≤ 1 + 1610 * (i + 1) + 170000 * (pickS ns (σ.take (i + 1))).sum ∧ (S2 ++ u).size ≤ 1 + 1610 * (i + 1) + 170000 * 400) := by
            have h1 := HSZ.out
            have h2 := HSZ2.out
            have h3 := HU.out
            rw [bapz, h2.1]
            exact Lib.hid ⟨by omega, by omega⟩
          have HR2 : Hid ((β && ok) = (rs ++ [(u.data.toList, ok)]).all (·.2) ∧ (rs ++ [(u.data.toList, ok)]).length = i + 1) := Lib.hid ⟨by rw [HRS.out.1, List.all_append]; simp, by rw [List.length_append, HRS.out.2]; rfl⟩
          cases β with
          | false =>
            go_wp2_with (fail)
            go_roundg g2
            case measure => omega
            case rel => exact ⟨i + 1, _, _, _, hi1, by first | rfl | go_num, rfl, rfl, HZ.out.2, Lib.hid HZ.out.1, HR2, HF, HGA2, HBZJ⟩
          | true =>
            go_wp2_with (fail)
            go_roundg g2
            case measure => omega
            case rel => exact ⟨i + 1, _, _, _, hi1, by first | rfl | go_num, rfl, rfl, HZ.out.2, Lib.hid HZ.out.1, HR2, HF, HGA2, HBZJ⟩
theorem strR_pre {w : World} {a : Addr} {n cp i : Nat} {l : List ByteArray} (h : StrR w (.slice (some a) n cp) l) (hi : i ≤ n) : StrR w (.slice (some a) i cp) (l.take i) := by
  rcases h with ⟨h, _⟩ | ⟨b, cap, h, h1, h2, h3⟩
  · cases h
  · injection h with e1 e2 e3
    injection e1 with e1
    subst e1 e2 e3
    have hl : (l.take i).length = i := by rw [List.length_take]; omega
    refine .inr ⟨a, cp, by rw [hl], by omega, h2, fun j s hj => ?_⟩
    rw [List.getElem?_take] at hj
    split at hj
    · exact h3 j s hj
    · cases hj
theorem nds_has {l : List ByteArray} {k : Nat} {x : ByteArray} (h : NdS (l.take k)) (hx : l[k]? = some x) (hm : ∀ y ∈ l.take k, y.toList ≠ x.toList) : NdS (l.take (k + 1)) :=
  nds_step h hx (List.any_eq_false.2 fun y hy => by have := hm y hy; simpa using this)
set_option maxRecDepth 100000 in
set_option maxHeartbeats 16000000 in
theorem jCanon_s {t : VT} {ns : List Nat} {N : Nat} (hx : t.text.size ≤ 400) (hn : t.list.length ≤ 100) (hm : t.keys.length ≤ 100) (hks : ∀ s ∈ t.keys, s.size ≤ 400) (hns : ns.length = t.list.length) (hsum : ns.sum ≤ 400)
    (IH : ∀ (j : Nat) (x : VT) (n : Nat), t.list[j]? = some x → ns[j]? = some n → ∀ (v : Value) (W : World), VR W v x → TL N W → Calls Tryz.prog 37 #[v] W (JC x n W)) {v : Value} {w : World} (hv : VR w v t) (hN : TL N w) :
    Calls Tryz.prog 37 #[v] w (JC t (1 + ns.sum) w) := by
  obtain ⟨kv, lv, rfl, hk, ht, hs, hl⟩ := hv.ex
  have HPARTS := Lib.hid (fun (ob : Bool) (lv kv : Value) (W : World) (hk : t.kind.toList = kdB ob) (hl : LR W lv t.list) (hs : StrR W kv (if ob then t.keys else [])) (hK : ob = true → t.keys.length = t.list.length ∧ (t.keys.map (·.data.toList)).Nodup ∧ ∀ s ∈ t.keys, s.size ≤ 400) (hN : TL N W) => jParts_any hk hl hs hns hn hsum hK IH hN)
  obtain ⟨k, hkk⟩ : ∃ k, k = t.kind := ⟨_, rfl⟩
  obtain ⟨x, hxx⟩ : ∃ x, x = t.text := ⟨_, rfl⟩
  rw [← hkk] at hk ⊢
  rw [← hxx] at ht hx ⊢
  obtain ⟨ao, cp, rfl, hll⟩ := lr_slice hl
  obtain ⟨ko, kp, rfl, hkl⟩ := strR_slice hs
  obtain ⟨n, hnn⟩ : ∃ n, n = t.list.length := ⟨_, rfl⟩
  obtain ⟨m, hmm⟩ : ∃ m, m = t.keys.length := ⟨_, rfl⟩
  rw [← hnn] at hll hl hn ⊢
  rw [← hmm] at hkl hs hm ⊢
  have HLR := Lib.hid hl
  have HSR := Lib.hid hs
  have HNM := Lib.hid (And.intro hnn hmm)
  have HKX := Lib.hid (And.intro hkk hxx)
  have HKS := Lib.hid hks
  have HTL := Lib.hid hN
  obtain ⟨B, hB⟩ : ∃ B, B = w.heap.size := ⟨_, rfl⟩
  obtain ⟨W1, hW1⟩ : ∃ W1, W1 = w.alloc (.cells #[.string k, .string x, .slice ko m kp, .slice ao n cp] 25) := ⟨_, rfl⟩
  have HB1 : Hid (Below w.heap.size w W1) := by rw [hW1]; exact Lib.hid ((Below.refl _ _).alloc (Nat.le_refl _) _)
  have HS1 : Hid (W1.heap.size = B + 1) := by rw [hW1, World.size_alloc, hB]; exact Lib.hid rfl
  have HC : Hid (∀ W, Below W1.heap.size W1 W → VB B k x (.slice ko m kp) (.slice ao n cp) W) := by
    intro W hb
    have hc : W.heap[B]? = some (.cells #[.string k, .string x, .slice ko m kp, .slice ao n cp] 25 (0, 0)) := by
      rw [hb.block B (by rw [HS1.out]; omega), hW1, hB]; exact alloc_at _ _
    refine ⟨?_, ?_, ?_, ?_⟩ <;> simp [World.cell?, hc]
  have HW1 := Lib.hid hW1
  have HBH := Lib.hid hB
  have HQ : Hid (∀ (wx : World), Below W1.heap.size W1 wx → Below w.heap.size w wx) := Lib.hid fun wx hb => HB1.out.trans (hb.mono HB1.out.size)
  obtain ⟨tot, htot⟩ : ∃ tot, tot = 1 + ns.sum := ⟨_, rfl⟩
  rw [← htot] at HPARTS ⊢
  have ht1 : 1 ≤ tot := by omega
  clear hW1 hB hk ht hv hs hl hnn hmm hkk hxx hks hN hns hsum IH htot hll hkl
  unfold maxLen at *
  go_enter Tryz.func37, Tryz.ntmps37
  go_upto_block 0 with (fail)
  rw [← HBH.out, ← HW1.out]
  obtain ⟨c0, c1, c2, c3⟩ := HC.out W1 (Below.refl _ _)
  by_cases q1 : k.toList = [110, 117, 108, 108]
  · have p1 : (k.toList == [110, 117, 108, 108]) = true := by simpa using q1
    have HR : Hid (JC t tot w (.returned (.tuple #[.string ⟨#[110, 117, 108, 108]⟩, .bool true, .bool true])) W1) := Lib.hid ⟨_, _, _, rfl, HB1.out, fun _ => ⟨by show 4 ≤ _; omega, fun _ => CanT.null t (by rw [← HKX.out.1]; exact ba_of q1), fun h => by cases h⟩⟩
    clear q1
    go_wp2_with (fail)
    go_ret3
    exact HR.out
  have p1 : (k.toList == [110, 117, 108, 108]) = false := by simpa using q1
  clear q1
  by_cases q2 : k.toList = [98, 111, 111, 108]
  · have p2 : (k.toList == [98, 111, 111, 108]) = true := by simpa using q2
    have HKB : Hid (t.kind = ⟨#[98, 111, 111, 108]⟩) := Lib.hid (by rw [← HKX.out.1]; exact ba_of q2)
    clear q2
    by_cases r1 : x.toList = [116, 114, 117, 101]
    · have s1 : (x.toList == [116, 114, 117, 101]) = true := by simpa using r1
      have s2 : (x.toList == [102, 97, 108, 115, 101]) = false := by rw [r1]; rfl
      have HX := ba_of r1
      have HR : Hid (∀ wx, Below w.heap.size w wx → JC t tot w (.returned (.tuple #[.string x, .bool true, .bool true])) wx) := Lib.hid fun wx hb => ⟨_, _, _, rfl, hb, fun _ => ⟨by omega, fun _ => by
        have h := CanT.bool t true HKB.out (by rw [← HKX.out.2]; exact HX)
        rw [HX]
        exact h, fun h => by cases h⟩⟩
      clear r1 HX
      go_wp2_with (fail)
      go_quiet (fail)
      go_wp2_with (fail)
      go_ret3
      exact HR.out _ (below_drewN HB1.out _)
    · have s1 : (x.toList == [116, 114, 117, 101]) = false := by simpa using r1
      clear r1
      by_cases r2 : x.toList = [102, 97, 108, 115, 101]
      · have s2 : (x.toList == [102, 97, 108, 115, 101]) = true := by simpa using r2
        have HX := ba_of r2
        have HR : Hid (∀ wx, Below w.heap.size w wx → JC t tot w (.returned (.tuple #[.string x, .bool true, .bool true])) wx) := Lib.hid fun wx hb => ⟨_, _, _, rfl, hb, fun _ => ⟨by omega, fun _ => by
          have h := CanT.bool t false HKB.out (by rw [← HKX.out.2]; exact HX)
          rw [HX]
          exact h, fun h => by cases h⟩⟩
        clear r2 HX
        go_wp2_with (fail)
        go_quiet (fail)
        go_wp2_with (fail)
        go_ret3
        exact HR.out _ (below_drewN HB1.out _)
      · have s2 : (x.toList == [102, 97, 108, 115, 101]) = false := by simpa using r2
        clear r2
        go_wp2_with (fail)
        go_quiet (fail)
        go_wp2_with (fail)
        go_ret3
        exact JC.quiet (below_drewN HB1.out _) _ _
  have p2 : (k.toList == [98, 111, 111, 108]) = false := by simpa using q2
  clear q2
  by_cases q3 : k.toList = [110, 117, 109, 98, 101, 114]
  · have p3 : (k.toList == [110, 117, 109, 98, 101, 114]) = true := by simpa using q3
    have HKB : Hid (t.kind = ⟨#[110, 117, 109, 98, 101, 114]⟩) := Lib.hid (by rw [← HKX.out.1]; exact ba_of q3)
    clear q3
    have HJ := Lib.hid (jWhole_any x (by omega) (HTL.out.below HB1.out))
    go_wp2_with (fail)
    (with_reducible refine HJ.out.mono ?_)
    rintro e w2 ⟨u, ok, said, rfl, hb, _, hg⟩
    have HR : Hid (JC t tot w (.returned (.tuple #[.string u, .bool ok, .bool said])) w2) := Lib.hid ⟨_, _, _, rfl, HQ.out _ hb, fun h => by
      obtain ⟨g1, g2, g3⟩ := hg h
      refine ⟨by omega, fun ho => ?_, fun ho => ⟨[], KT.num t HKB.out (by rw [← HKX.out.2]; omega) (by rw [← HKX.out.2]; exact g3 ho), Nat.zero_le _⟩⟩
      obtain ⟨rfl, v, hv⟩ := g2 ho
      rw [HKX.out.2] at hv hx ⊢
      exact CanT.num t v HKB.out (by omega) hv⟩
    clear hb hg
    go_wp2_with (fail)
    go_ret3
    exact HR.out
  have p3 : (k.toList == [110, 117, 109, 98, 101, 114]) = false := by simpa using q3
  clear q3
  by_cases q4 : k.toList = [115, 116, 114, 105, 110, 103]
  · have p4 : (k.toList == [115, 116, 114, 105, 110, 103]) = true := by simpa using q4
    have HKB : Hid (t.kind = ⟨#[115, 116, 114, 105, 110, 103]⟩) := Lib.hid (by rw [← HKX.out.1]; exact ba_of q4)
    clear q4
    have HJ := Lib.hid (jPlain_any x (by omega) (HTL.out.below HB1.out))
    go_wp2_with (fail)
    (with_reducible refine HJ.out.mono ?_)
    rintro e w2 ⟨⟨b, rfl⟩, hb⟩
    have HR : Hid (JC t tot w (.returned (.tuple #[.string ⟨(encStr x.data.toList).toArray⟩, .bool b, .bool b])) w2) := Lib.hid ⟨_, _, _, rfl, HQ.out _ hb, fun h => ⟨by
      have h1 := encStr_len x.data.toList
      have h2 := Lib.size_eq x
      rw [Lib.size_eq]
      show (encStr x.data.toList).length ≤ _
      omega, fun _ => by
      have h := CanT.str t HKB.out (by rw [← HKX.out.2]; omega)
      rw [← HKX.out.2] at h
      exact h, fun h2 => by rw [h] at h2; cases h2⟩⟩
    clear hb
    go_wp2_with (fail)
    go_ret3
    exact HR.out
  have p4 : (k.toList == [115, 116, 114, 105, 110, 103]) = false := by simpa using q4
  clear q4
  by_cases q5 : k.toList = [108, 105, 115, 116]
  · have p5 : (k.toList == [108, 105, 115, 116]) = true := by simpa using q5
    have HJ := Lib.hid (HPARTS.out false _ (.slice none 0 0) W1 (by rw [← HKX.out.1]; exact q5) (HLR.out.stay HB1.out) (.inl ⟨rfl, rfl⟩) (fun h => by cases h) (HTL.out.below HB1.out))
    clear q5
    go_wp2_with (fail)
    (with_reducible refine HJ.out.mono ?_)
    rintro e w2 ⟨u, ok, said, rfl, hb, hg⟩
    have HR : Hid (JC t tot w (.returned (.tuple #[.string u, .bool ok, .bool said])) w2) := Lib.hid ⟨_, _, _, rfl, HQ.out _ hb, hg⟩
    clear hb hg
    go_wp2_with (fail)
    go_ret3
    exact HR.out
  have p5 : (k.toList == [108, 105, 115, 116]) = false := by simpa using q5
  clear q5
  by_cases q6 : k.toList = [111, 98, 106, 101, 99, 116]
  · have p6 : (k.toList == [111, 98, 106, 101, 99, 116]) = true := by simpa using q6
    have HKB : Hid (t.kind = ⟨#[111, 98, 106, 101, 99, 116]⟩) := Lib.hid (by rw [← HKX.out.1]; exact ba_of q6)
    have HKO : Hid (t.kind.toList = kdB true) := Lib.hid (by rw [← HKX.out.1]; exact q6)
    clear q6
    by_cases hmn : m = n
    · have i5 : ((m : Int) == (n : Int)) = true := by simp; omega
      have i6 : ((m : Int) != (n : Int)) = false := by simp; omega
      have HMN := Lib.hid hmn
      clear hmn
      go_wp2_with (fail)
      go_loopw [7] (fun i wr => ∃ j : Nat, i = .int .i64 j ∧ j ≤ m ∧ Hid (Below W1.heap.size W1 wr) ∧ Hid (NdS (t.keys.take j))) (fun i _ => m - (intOf i).toNat)
      case atStart => exact ⟨0, rfl, Nat.zero_le _, Lib.hid (Below.refl _ _), Lib.hid List.nodup_nil⟩
      case round =>
        obtain ⟨j, rfl, hj, HBR, HND⟩ := hrel
        obtain ⟨wq, rfl⟩ : ∃ wq, wq = wr := ⟨_, rfl⟩
        clear c0 c1 c2 c3
        obtain ⟨c0, c1, c2, c3⟩ := HC.out wq HBR.out
        by_cases hjm : j < m
        · have j1 : decide ((j : Int) < (m : Int)) = true := decide_eq_true (by omega)
          obtain ⟨s, hsj⟩ : ∃ s, t.keys[j]? = some s := ⟨_, List.getElem?_eq_getElem (by rw [← HNM.out.2]; exact hjm)⟩
          have hSR := HSR.out.stay (HQ.out _ HBR.out)
          obtain ⟨a, rfl⟩ : ∃ a, ko = some a := by
            rcases hSR with ⟨h, _⟩ | ⟨a, _, h, _⟩
            · injection h with _ h _; omega
            · injection h with h _ _; exact ⟨a, h⟩
          have hmk : m ≤ kp := by
            rcases hSR with ⟨h, _⟩ | ⟨a, c, h, h1, _⟩
            · cases h
            · injection h with _ h h3; rw [h3, h]; exact h1
          have ck : wq.cell? (a.add j) = some (.string s) := by
            rcases hSR with ⟨h, _⟩ | ⟨a', c, h, _, _, h3⟩
            · cases h
            · injection h with h _ _
              injection h with h
              subst h
              exact (h3 j s hsj).1
          have HJH := Lib.hid (fun W (hb : Below W1.heap.size W1 W) => jHas_any s (strR_pre (HSR.out.stay (HQ.out _ hb)) (Nat.le_of_lt hjm)) (by rw [List.length_take]; omega))
          have HSJ := Lib.hid hsj
          clear hSR hsj
          have j2 : (j : Int) < (m : Int) := by omega
          have j3 : (j : Int) ≤ (kp : Int) := by omega
          go_upto_if 84 with (fail)
          go_region_law (go_simp
                         go_at_call 69
                         (with_reducible refine (HJH.out _ (by first | exact HBR.out | exact HBR.out.drew | exact below_drewN HBR.out _)).mono ?_)
                         rintro e w3 ⟨⟨b, rfl, hb⟩, rfl⟩
                         have HHB := Lib.hid hb
                         clear hb)
          all_goals
            have HBD := Lib.hid HBR.out.drew
            cases b with
            | true =>
              go_wp2_with (fail)
              go_ret3
              exact JC.quiet (HQ.out _ HBD.out) _ _
            | false =>
              have HN2 := Lib.hid (nds_has HND.out HSJ.out (HHB.out (by first | rfl | trivial)))
              go_wp2_with (fail)
              go_roundw
              case rel => exact ⟨j + 1, by go_num, by omega, HBD, HN2⟩
              case measure => simp [intOf]; omega
        · have j1 : decide ((j : Int) < (m : Int)) = false := decide_eq_false (by omega)
          have HJ := Lib.hid (HPARTS.out true _ _ wq HKO.out (HLR.out.stay (HQ.out _ HBR.out)) (HSR.out.stay (HQ.out _ HBR.out)) (fun _ => ⟨by rw [← HNM.out.2, ← HNM.out.1]; exact HMN.out, by
            have h0 := HND.out
            rw [List.take_of_length_le (by rw [← HNM.out.2]; omega)] at h0
            exact h0, HKS.out⟩) (HTL.out.below (HQ.out _ HBR.out)))
          go_wp2_with (fail)
          (with_reducible refine HJ.out.mono ?_)
          rintro e w2 ⟨u, ok, said, rfl, hb, hg⟩
          have HR : Hid (JC t tot w (.returned (.tuple #[.string u, .bool ok, .bool said])) w2) := Lib.hid ⟨_, _, _, rfl, (HQ.out _ HBR.out).trans (hb.mono (HQ.out _ HBR.out).size), hg⟩
          clear hb hg
          go_wp2_with (fail)
          go_ret3
          exact HR.out
    · have i5 : ((m : Int) == (n : Int)) = false := by simp; omega
      have i6 : ((m : Int) != (n : Int)) = true := by simp; omega
      have HR : Hid (JC t tot w (.returned (.tuple #[.string ⟨#[]⟩, .bool false, .bool true])) W1) := Lib.hid ⟨_, _, _, rfl, HB1.out, fun _ => ⟨Nat.zero_le _, (fun h => by cases h), fun _ => ⟨[], KT.parts t HKB.out (by rw [← HNM.out.1, ← HNM.out.2]; exact hmn), Nat.zero_le _⟩⟩⟩
      clear hmn
      go_wp2_with (fail)
      go_ret3
      exact HR.out
  have p6 : (k.toList == [111, 98, 106, 101, 99, 116]) = false := by simpa using q6
  clear q6
  have HR : Hid (JC t tot w (.returned (.tuple #[.string ⟨#[]⟩, .bool false, .bool true])) W1) := Lib.hid ⟨_, _, _, rfl, HB1.out, fun _ => ⟨Nat.zero_le _, (fun h => by cases h), fun _ => ⟨[], KT.kind t (by
    rw [← HKX.out.1]
    unfold amB kinds6
    simp only [List.any_cons, List.any_nil, Bool.or_false, Bool.or_eq_false_iff]
    have h1 : ∀ l : List UInt8, (k.toList == l) = false → ((⟨l.toArray⟩ : ByteArray).toList == k.toList) = false := fun l h => by
      rw [ByteArray.toList_eq]
      simp only [beq_eq_false_iff_ne, ne_eq] at h ⊢
      exact fun e => h e.symm
    exact ⟨h1 _ p1, h1 _ p2, h1 _ p3, h1 _ p4, h1 _ p5, h1 _ p6⟩), Nat.zero_le _⟩⟩⟩
  go_wp2_with (fail)
  go_ret3
  exact HR.out
theorem mem_le_sum : ∀ (l : List Nat) (j n : Nat), l[j]? = some n → n ≤ l.sum
  | [], _, _, h => by cases h
  | a :: l, 0, n, h => by
    simp at h
    rw [List.sum_cons]; omega
  | a :: l, j + 1, n, h => by
    have := mem_le_sum l j n (by simpa using h)
    rw [List.sum_cons]; omega
theorem jCanon_any {t : VT} {n N : Nat} (h : DT t n) : n ≤ 400 → ∀ (v : Value) (w : World), VR w v t → TL N w → Calls Tryz.prog 37 #[v] w (JC t n w) := by
  induction h with
  | node t ns hx hn hm hks hl hc ih =>
    intro h4 v w hv hN
    exact jCanon_s hx hn hm hks hl (by omega) (fun j x n h1 h2 => ih j x n h1 h2 (by have := mem_le_sum ns j n h2; omega)) hv hN
theorem BSrc.slc3 {w : World} {l : List UInt8} {v : Value} (h : BSrc w v l) : ∃ a n c, v = Value.slice a n c := by
  rcases h with ⟨rfl, _⟩ | ⟨_, _, rfl, _⟩ <;> exact ⟨_, _, _, rfl⟩
theorem conv_src (w : World) (s : ByteArray) (hs : s.size ≤ maxLen) : ∃ (v : Value) (W : World), (convert 9 31 (.string s)).run Tryz.prog w = .ok v W ∧ BSrc W v s.data.toList ∧ Below w.heap.size w W := by
  refine ⟨_, _, run_bytes_of_string w 9 31 5 s Tryz.underlying9 Tryz.underlying31 Tryz.underlying5, .inr ⟨⟨w.heap.size, 0, none⟩, grownCap w s.size 0 5, by rw [← Lib.size_eq], by rw [← Lib.size_eq]; exact hs, fun j x hj => ?_⟩, ((Below.refl _ _).drew).alloc (Nat.le_refl _) _⟩
  obtain ⟨W, hW⟩ : ∃ W, W = w.drew.alloc (.cells (bytesRow s (grownCap w s.size 0 5)) 5 ((bytesRow s (grownCap w s.size 0 5)).size, (bytesRow s (grownCap w s.size 0 5)).size + 1)) := ⟨_, rfl⟩
  have h0 : W.heap[w.heap.size]? = some (.cells (bytesRow s (grownCap w s.size 0 5)) 5 ((bytesRow s (grownCap w s.size 0 5)).size, (bytesRow s (grownCap w s.size 0 5)).size + 1)) := by rw [hW]; exact alloc_at w.drew _
  rw [← hW]
  have hj1 : j < s.data.size := by
    have := (List.getElem?_eq_some_iff.1 hj).1
    simpa using this
  have hx : s.data[j] = x := by
    have := (List.getElem?_eq_some_iff.1 hj).2
    simpa using this
  have h2 := bytesRow_at s (grownCap w s.size 0 5) j hj1
  rw [hx] at h2
  have h3 : ((⟨w.heap.size, 0, none⟩ : Addr).add j) = ⟨w.heap.size, j, none⟩ := by
    unfold Addr.add
    split
    · rename_i h; subst h; rfl
    · simp
  rw [h3]
  simp only [World.cell?, h0]
  exact h2
/-- What spec.Canon tells of a tree of n parts. -/
def SC (t : VT) (n : Nat) (w : World) (e : Ending) (w' : World) : Prop := ∃ (b : Value) (ok said : Bool), e = .returned (.tuple #[b, .bool ok, .bool said]) ∧ Below w.heap.size w w' ∧ (ok = false → b = .slice none 0 0) ∧ (said = true → (ok = true → ∃ u, CanT t u ∧ u.length ≤ 170000 * n ∧ BSrc w' b u) ∧ (ok = false → ∃ u', KT t u' false ∧ u'.length ≤ 170000 * n))
set_option maxRecDepth 100000 in
set_option maxHeartbeats 8000000 in
theorem specCanon_any {t : VT} {n N : Nat} (h : DT t n) (hn : n ≤ 400) {v : Value} {w : World} (hv : VR w v t) (hN : TL N w) : Calls Tryz.prog 17 #[v] w (SC t n w) := by
  obtain ⟨kv, lv, rfl, _, _, h3, h4⟩ := hv.ex
  obtain ⟨k1, k2, k3, rfl⟩ := strR_sl h3
  obtain ⟨l1, l2, l3, rfl⟩ := lr_sl h4
  obtain ⟨tk, htk⟩ : ∃ tk, tk = t.kind := ⟨_, rfl⟩
  obtain ⟨tt, htt⟩ : ∃ tt, tt = t.text := ⟨_, rfl⟩
  rw [← htk, ← htt] at hv ⊢
  obtain ⟨W, hW⟩ : ∃ W, W = w.alloc (.cells #[.string tk, .string tt, .slice k1 k2 k3, .slice l1 l2 l3] 25) := ⟨_, rfl⟩
  have HB : Hid (Below w.heap.size w W) := by show Below _ _ _; rw [hW]; exact (Below.refl _ _).alloc (Nat.le_refl _) _
  have HV := Lib.hid (jCanon_any h hn _ W (hv.stayB HB.out) (hN.below HB.out))
  unfold JC at HV
  have HW := Lib.hid hW
  clear hW hv h3 h4 htk htt hN h
  go_enter Tryz.func17, Tryz.ntmps17
  go_wp2_with (fail)
  rw [← HW.out]
  clear HW
  (with_reducible refine HV.out.mono ?_)
  rintro e w1 ⟨u, ok, said, rfl, hb, hg⟩
  have HB1 := Lib.hid (HB.out.trans (hb.mono HB.out.size))
  cases said with
  | false =>
    clear hb hg
    go_wp2_with (fail)
    all_goals
      go_ret3
      exact ⟨_, _, _, rfl, by first | exact HB1.out | exact HB1.out.drew | exact below_drewN HB1.out _, fun _ => rfl, fun h => by cases h⟩
  | true =>
    cases ok with
    | false =>
      have HG := Lib.hid ((hg rfl).2.2 rfl)
      clear hb hg
      go_wp2_with (fail)
      all_goals
        go_ret3
        exact ⟨_, _, _, rfl, by first | exact HB1.out | exact HB1.out.drew | exact below_drewN HB1.out _, fun _ => rfl, fun _ => ⟨(fun h => by cases h), fun _ => HG.out⟩⟩
    | true =>
      have HG := Lib.hid (And.intro (hg rfl).1 ((hg rfl).2.1 rfl))
      clear hb hg
      have hu : u.size ≤ 170000 * 400 := Nat.le_trans HG.out.1 (by omega)
      obtain ⟨b, W2, hcv, hbs, hb2⟩ := conv_src w1 u (by unfold maxLen; omega)
      obtain ⟨b0, b1, b2, rfl⟩ := hbs.slc3
      have HE : Hid (SC t n w (.returned (.tuple #[.slice b0 b1 b2, .bool true, .bool true])) W2) := Lib.hid ⟨_, _, _, rfl, HB1.out.trans (hb2.mono HB1.out.size), (fun h => by cases h), fun _ => ⟨fun _ => ⟨_, HG.out.2, by rw [← Lib.size_eq]; exact HG.out.1, hbs⟩, fun h => by cases h⟩⟩
      clear hbs hb2
      go_wp2_with (fail)
      go_ret3
      exact HE.out
set_option maxRecDepth 100000 in
set_option maxHeartbeats 16000000 in
theorem fnExactCanon_any {v : Value} {t : VT} {w : World} (h : VR w v t) (hN : TL w.heap.size w) : Calls Tryz.prog 5 #[v] w fun e w' => e = .returned (.bool true) ∧ Below w.heap.size w w' := by
  obtain ⟨kv, lv, rfl, _, _, h3, h4⟩ := h.ex
  obtain ⟨ko, kp, hk0, hkl⟩ := strR_slice h3
  obtain ⟨lo, lp, hl0, hll⟩ := lr_slice h4
  subst hk0 hl0
  obtain ⟨k, hkk⟩ : ∃ k, k = t.kind := ⟨_, rfl⟩
  obtain ⟨x, hxx⟩ : ∃ x, x = t.text := ⟨_, rfl⟩
  obtain ⟨n, hn⟩ : ∃ n, n = t.list.length := ⟨_, rfl⟩
  obtain ⟨m, hm⟩ : ∃ m, m = t.keys.length := ⟨_, rfl⟩
  rw [← hkk, ← hxx, ← hn, ← hm] at h ⊢
  have HVR := Lib.hid h
  have HN := Lib.hid hN
  obtain ⟨B, hB⟩ : ∃ B, B = w.heap.size := ⟨_, rfl⟩
  obtain ⟨W1, hW1⟩ : ∃ W1, W1 = w.alloc (.cells #[.string k, .string x, .slice ko m kp, .slice lo n lp] 25) := ⟨_, rfl⟩
  have HB1 : Hid (Below w.heap.size w W1) := by rw [hW1]; exact Lib.hid ((Below.refl _ _).alloc (Nat.le_refl _) _)
  have HBS : Hid (B = w.heap.size) := Lib.hid hB
  have HS1 : Hid (W1.heap.size = B + 1) := by rw [hW1, World.size_alloc, hB]; exact Lib.hid rfl
  have HC : Hid (∀ W, Below W1.heap.size W1 W → VB B k x (.slice ko m kp) (.slice lo n lp) W) := by
    intro W hb
    have hc : W.heap[B]? = some (.cells #[.string k, .string x, .slice ko m kp, .slice lo n lp] 25 (0, 0)) := by
      rw [hb.block B (by rw [HS1.out]; omega), hW1, hB]; exact alloc_at _ _
    refine ⟨?_, ?_, ?_, ?_⟩ <;> simp [World.cell?, hc]
  have HS2 : Hid (∀ W, Below W1.heap.size W1 W → Below w.heap.size w W) := fun W hb => HB1.out.trans (hb.mono (by rw [HS1.out, HBS.out]; omega))
  have HAW : Hid (∀ W, Below W1.heap.size W1 W → Calls Tryz.prog 12 #[] W fun e w' => e = .returned (.bool true) ∧ Below W.heap.size W w') := by
    intro W hb
    exact awake_true _ W (HN.out.mono (Nat.le_refl _) (HS2.out W hb))
  have HF : Hid (Calls Tryz.prog 9 #[.agg #[.string k, .string x, .slice ko m kp, .slice lo n lp]] W1 (SomeB W1)) := Lib.hid (fits1_some (HVR.out.stay HB1.out))
  unfold SomeB at HF
  have HDE : Hid (∀ W, Below W1.heap.size W1 W → Calls Tryz.prog 16 #[.agg #[.string k, .string x, .slice ko m kp, .slice lo n lp], .int .i64 40, .int .i64 400] W (DN t W)) := Lib.hid fun W hb => deep_any 40 (by decide) _ t W (HVR.out.stay (HS2.out W hb))
  unfold DN at HDE
  have HSP : Hid (∀ q, DT t q → q ≤ 400 → ∀ W, Below W1.heap.size W1 W → Calls Tryz.prog 17 #[.agg #[.string k, .string x, .slice ko m kp, .slice lo n lp]] W (SC t q W)) := Lib.hid fun q hq h4 W hb => specCanon_any hq h4 (HVR.out.stay (HS2.out W hb)) (HN.out.mono (Nat.le_refl _) (HS2.out W hb))
  unfold SC at HSP
  have HNO : Hid (∀ u, KT t u false → u.length ≤ 4294967296 → ∀ W, Below W1.heap.size W1 W → Calls Tryz.prog 14 #[.agg #[.string k, .string x, .slice ko m kp, .slice lo n lp]] W fun e w' => e = .returned (.tuple #[.slice none 0 0, .bool false]) ∧ Below W.heap.size W w') := Lib.hid fun u hk hu W hb => canon_no hk hu (HVR.out.stay (HS2.out W hb)) (HN.out.mono (Nat.le_refl _) (HS2.out W hb))
  have HYES : Hid (∀ u, CanT t u → u.length ≤ 4294967296 → ∀ W, Below W1.heap.size W1 W → Calls Tryz.prog 14 #[.agg #[.string k, .string x, .slice ko m kp, .slice lo n lp]] W fun e w' => ∃ b, e = .returned (.tuple #[b, .bool true]) ∧ BSrc w' b u ∧ Below W.heap.size W w') := Lib.hid fun u hk hu W hb => canon_x hk hu (HVR.out.stay (HS2.out W hb))
  have HW1 := Lib.hid hW1
  clear h h3 h4 hN hkk hxx hn hm hB hW1 hkl hll
  obtain ⟨c0, c1, c2, c3⟩ := HC.out W1 (Below.refl _ _)
  go_enter Tryz.func5, Tryz.ntmps5
  go_wp2_with (fail)
  rw [← HBS.out, ← HW1.out]
  (with_reducible refine HF.out.mono ?_)
  rintro e w2 ⟨b, rfl, hb⟩
  have HB2 := Lib.hid hb
  clear hb c0 c1 c2 c3
  obtain ⟨c0, c1, c2, c3⟩ := HC.out w2 HB2.out
  cases b with
  | false =>
    go_wp2_with (fail)
    go_ret
    exact ⟨rfl, HS2.out _ HB2.out⟩
  | true =>
  go_wp2_with (fail)
  (with_reducible refine (HDE.out w2 HB2.out).mono ?_)
  rintro e w3 ⟨q, rfl, hq, hb, hdt⟩
  have HB3 := Lib.hid (HB2.out.trans (hb.mono HB2.out.size))
  have HDT := Lib.hid hdt
  clear hb hdt c0 c1 c2 c3
  obtain ⟨c0, c1, c2, c3⟩ := HC.out w3 HB3.out
  have HA3 := Lib.hid (HAW.out w3 HB3.out)
  by_cases h4 : 400 < q
  · have z1 : decide ((400 : Int) < (q : Int)) = true := decide_eq_true (by omega)
    clear h4
    go_wp2_with (fail)
    (with_reducible refine HA3.out.mono ?_)
    rintro e we ⟨rfl, hb⟩
    have HBE := Lib.hid (HB3.out.trans (hb.mono HB3.out.size))
    clear hb
    go_wp2_with (fail)
    go_ret
    exact ⟨rfl, HS2.out _ HBE.out⟩
  have z1 : decide ((400 : Int) < (q : Int)) = false := decide_eq_false (by omega)
  have hq4 : q ≤ 400 := by omega
  clear h4
  have HSC := Lib.hid (HSP.out q (HDT.out hq4) hq4 w3 HB3.out)
  go_wp2_with (fail)
  (with_reducible refine HSC.out.mono ?_)
  rintro e w4 ⟨b, ok, said, rfl, hb, hno, hg⟩
  have HB4 := Lib.hid (HB3.out.trans (hb.mono HB3.out.size))
  have HA4 := Lib.hid (HAW.out w4 HB4.out)
  clear hb c0 c1 c2 c3
  obtain ⟨c0, c1, c2, c3⟩ := HC.out w4 HB4.out
  cases said with
  | false =>
    clear hno hg
    go_wp2_with (fail)
    (with_reducible refine HA4.out.mono ?_)
    rintro e we ⟨rfl, hb⟩
    have HBE := Lib.hid (HB4.out.trans (hb.mono HB4.out.size))
    clear hb
    go_wp2_with (fail)
    go_ret
    exact ⟨rfl, HS2.out _ HBE.out⟩
  | true =>
    cases ok with
    | false =>
      obtain rfl := hno rfl
      obtain ⟨u', hk, hu⟩ := (hg rfl).2 rfl
      have HCA := Lib.hid (HNO.out u' hk (by omega) w4 HB4.out)
      clear hno hg hk hu
      go_wp2_with (fail)
      (with_reducible refine HCA.out.mono ?_)
      rintro e w5 ⟨rfl, hb⟩
      have HB5 := Lib.hid (HB4.out.trans (hb.mono HB4.out.size))
      have HA5 := Lib.hid (HAW.out w5 HB5.out)
      have hcv : (convert 31 9 (.slice none 0 0)).run Tryz.prog w5 = .ok (.string ⟨([] : List UInt8).toArray⟩) w5 := BSrc.conv (w := w5) (v := .slice none 0 0) (l := []) (.inl ⟨rfl, rfl⟩)
      clear hb c0 c1 c2 c3
      go_wp2_with (fail)
      (with_reducible refine HA5.out.mono ?_)
      rintro e we ⟨rfl, hb⟩
      have HBE := Lib.hid (HB5.out.trans (hb.mono HB5.out.size))
      clear hb
      go_wp2_with (fail)
      go_ret
      exact ⟨rfl, HS2.out _ HBE.out⟩
    | true =>
      obtain ⟨u, hk, hu, hbs⟩ := (hg rfl).1 rfl
      have HCA := Lib.hid (HYES.out u hk (by omega) w4 HB4.out)
      obtain ⟨b0, b1, b2, rfl⟩ := hbs.slc3
      have HBS4 := Lib.hid hbs
      clear hno hg hk hu hbs
      go_wp2_with (fail)
      (with_reducible refine HCA.out.mono ?_)
      rintro e w5 ⟨bv, rfl, hb5, hb⟩
      obtain ⟨d0, d1, d2, rfl⟩ := hb5.slc3
      have HB5 := Lib.hid (HB4.out.trans (hb.mono HB4.out.size))
      have HA5 := Lib.hid (HAW.out w5 HB5.out)
      have hcv := hb5.conv
      have hcw := (HBS4.out.stay hb).conv
      obtain ⟨U, hU⟩ : ∃ U : ByteArray, U = ⟨u.toArray⟩ := ⟨_, rfl⟩
      rw [← hU] at hcv hcw
      have hUU : (U.toList == U.toList) = true := by simp
      clear hb5 hU hb c0 c1 c2 c3
      go_wp2_with (fail)
      (with_reducible refine HA5.out.mono ?_)
      rintro e we ⟨rfl, hb⟩
      have HBE := Lib.hid (HB5.out.trans (hb.mono HB5.out.size))
      clear hb
      go_wp2_with (fail)
      go_ret
      exact ⟨rfl, HS2.out _ HBE.out⟩
end Go.Proofs.YtjganhmbjffjfaaGreatDoor
