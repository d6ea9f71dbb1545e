/- Slices of texts as lists; slices.Clone at texts; isTargetInPathPattern, IsDelegatedPath, impl.delRole, impl.Delegated. -/
import Derived.Test.YtpanemfpipcggaaGreatDoorF5
import Derived.Test.YtpanemfpipcggaaGreatDoorF6
open Go Go.RowKit
namespace Go.Proofs.YtpanemfpipcggaaGreatDoor
/-- A slice of texts that reads as l. -/
def TxtB (w : World) (v : Value) (l : List (List UInt8)) : Prop :=
  (v = .slice none 0 0 ∧ l = []) ∨ ∃ ad cp, v = .slice (some ad) l.length cp ∧ l.length ≤ 4294967297 ∧ ∀ (j : Nat) (a : List UInt8), l[j]? = some a → w.cell? (ad.add j) = some (.string (bs a))
theorem TxtB.stay {w w' : World} {v : Value} {l : List (List UInt8)} (h : TxtB w v l) (hb : Below w.heap.size w w') : TxtB w' v l := by
  rcases h with h | ⟨ad, cp, rfl, h1, h2⟩
  · exact .inl h
  · exact .inr ⟨ad, cp, rfl, h1, fun j a hj => (hb.cell (p := ad.add j) (cell_lt (h2 j a hj))).trans (h2 j a hj)⟩
theorem OwnS.txt {w : World} {B : Nat} {v : Value} {l : List (List UInt8)} (h : OwnS w B v l) (hl : l.length ≤ 4294967297) : TxtB w v l := by
  rcases h.2 with ⟨rfl, h0⟩ | ⟨g, cap, cur, rfl, hb, hg, h1, h2, h3, h4⟩
  · exact .inl ⟨rfl, List.length_eq_zero_iff.1 h0⟩
  · exact .inr ⟨_, _, rfl, hl, fun j a hj => h.cells (g := g) rfl j _ (by rw [List.getElem?_map, hj]; rfl)⟩
theorem strR_txt {w : World} {v : Value} {l : List ByteArray} (h : StrR w v l) (hl : l.length ≤ 4294967297) : TxtB w v (l.map (·.data.toList)) := by
  rcases h with ⟨rfl, rfl⟩ | ⟨a, cap, rfl, h1, h2, h3⟩
  · exact .inl ⟨rfl, rfl⟩
  · refine .inr ⟨a, cap, by rw [List.length_map], by rw [List.length_map]; exact hl, fun j x hx => ?_⟩
    rw [List.getElem?_map] at hx
    cases e : l[j]? with
    | none => rw [e] at hx; cases hx
    | some s => rw [e] at hx; cases hx; rw [bs_of]; exact (h3 j s e).1
set_option maxRecDepth 100000 in
set_option maxHeartbeats 2000000 in
theorem cloneS_any {l : List (List UInt8)} {v : Value} {w : World} (hv : TxtB w v l) (hl : l.length ≤ 1073741824) :
    Calls Tryz.prog 61 #[v] w fun e w' => ∃ u, e = .returned u ∧ TxtB w' u l ∧ (∀ ad n c, u = .slice (some ad) n c → w.heap.size ≤ ad.block) ∧ Below w.heap.size w w' := by
  obtain ⟨i0, hi, hz0, hz1, hz2⟩ := info_parts info_strS
  have q : ∀ (w : World) (a : Option Addr) (n c n' c' : Nat), (binOp .eql 22 (.slice a n c) (.slice none n' c')).run Tryz.prog w = .ok (.bool a.isNone) w := fun w a n c n' c' => Lib.run_eql_slice_nil w _ _ a n c n' c' Tryz.underlying22
  rcases hv with ⟨rfl, rfl⟩ | ⟨ad, cp, rfl, hm, hc⟩
  · go_enter Tryz.func61, Tryz.ntmps61
    go_wp2_with (fail)
    go_ret
    exact ⟨_, rfl, .inl ⟨rfl, rfl⟩, (fun _ _ _ h => by cases h), Below.refl _ _⟩
  · have HNEW : Hid (∀ (j : Nat) (u : Value), (l.map fun a => Value.string (bs a))[j]? = some u → (w.alloc (.cells #[] 9)).cell? (ad.add j) = some u) := by
      intro j u hj
      rw [List.getElem?_map] at hj
      cases e : l[j]? with
      | none => rw [e] at hj; cases hj
      | some x => rw [e] at hj; cases hj; exact Lib.cell?_alloc_some _ (hc j x e)
    have HLEN : Hid ((l.map fun a => Value.string (bs a)).length = l.length * 1) := by rw [Nat.mul_one, List.length_map]; exact Lib.hid rfl
    have HONE : Hid (∀ q ∈ (l.map fun a => Value.string (bs a)), q.oneCell' = true) := by
      intro q hq
      obtain ⟨a, _, rfl⟩ := List.mem_map.1 hq
      rfl
    clear hc
    go_enter Tryz.func61, Tryz.ntmps61
    go_wp2_with (at_builtin; refine wpList_append_own_at _ rfl _ _ 22 rfl w.heap.size 9 i0 (.string ⟨#[]⟩) 1 16 Tryz.underlying22 hi hz0 hz1 hz2 rfl (by decide) _ _ _ rfl (World.ownsRow_made w #[] 0 (Nat.le_refl _) (Nat.zero_le _) rfl) ad l.length cp (l.map fun a => Value.string (bs a)) rfl HLEN.out HNEW.out HONE.out (by unfold maxLen; omega) (by omega) (by rw [World.size_alloc]; omega) ?_)
    intro v' w1 hown hgr _ _
    have HS : Hid (TxtB w1 v' l) := Lib.hid (OwnS.txt (B := w.heap.size) (by unfold OwnS; simpa using hown) (by omega))
    have HOB : Hid (∀ ad n c, v' = .slice (some ad) n c → w.heap.size ≤ ad.block) := Lib.hid fun ad n c h => (World.ownsRow.lt hown ad.block (by rw [h]; rfl)).1
    have HB : Hid (Below w.heap.size w w1) := Lib.hid (((Below.refl _ _).alloc (Nat.le_refl _) _).grown hgr (by rw [World.size_alloc]; omega) (fun k hk => by cases hk; exact Nat.le_refl _))
    clear hown hgr
    go_wp2_with (fail)
    go_ret
    exact ⟨_, rfl, HS.out, HOB.out, HB.out⟩
/-- A text of ASCII. -/
def AsciiL (l : List UInt8) : Prop := ∀ x ∈ l, x.toNat < 128
/-- What a call that answers a bool leaves. -/
def BoolP (b : Bool) (w : World) (e : Ending) (w' : World) : Prop := e = .returned (.bool b) ∧ Below w.heap.size w w'
theorem split_part {l a : List UInt8} {j : Nat} (h : (splitB l)[j]? = some a) : ∀ x ∈ a, x ∈ l ∧ x ≠ 47 := split_mem l a (List.mem_of_getElem? h)
theorem split_size {l a : List UInt8} {j : Nat} (h : (splitB l)[j]? = some a) : a.length ≤ l.length := by
  have key : ∀ (l : List UInt8), ∀ a ∈ splitB l, a.length ≤ l.length := by
    intro l
    induction l with
    | nil => intro a ha; simp [splitB] at ha; subst ha; exact Nat.le_refl _
    | cons x l ih =>
      intro a ha
      rw [splitB] at ha
      split at ha
      · rcases List.mem_cons.1 ha with rfl | ha
        · exact Nat.zero_le _
        · have := ih a ha; rw [List.length_cons]; omega
      · split at ha
        · simp at ha; subst ha; simp
        · rename_i b r e
          rcases List.mem_cons.1 ha with rfl | ha
          · have := ih b (by rw [e]; exact List.mem_cons_self); rw [List.length_cons, List.length_cons]; omega
          · have := ih a (by rw [e]; exact List.mem_cons_of_mem _ ha); rw [List.length_cons]; omega
  exact key l a (List.mem_of_getElem? h)
theorem allB_at {l m : List (List UInt8)} {k : Nat} {a b : List UInt8} (ha : l[k]? = some a) (hb : m[k]? = some b) : allB (l.drop k) (m.drop k) = (matB b a && allB (l.drop (k + 1)) (m.drop (k + 1))) := by
  obtain ⟨h1, rfl⟩ := List.getElem?_eq_some_iff.1 ha
  obtain ⟨h2, rfl⟩ := List.getElem?_eq_some_iff.1 hb
  rw [List.drop_eq_getElem_cons h1, List.drop_eq_getElem_cons h2, allB]
theorem below_drawn {B M : Nat} {w wr wm : World} (h : Below B w wr) (hb : Below M wr.drew wm) (hB : B ≤ wr.heap.size) (hM : M = wr.heap.size := by rfl) : Below B w wm := by
  subst hM
  have h2 := hb.mono hB
  exact h.trans ⟨h2.os, h2.tape, h2.output, h2.size, h2.block⟩
set_option maxRecDepth 100000 in
set_option maxHeartbeats 8000000 in
theorem inPattern_any {t p : ByteArray} (ht : AsciiL t.data.toList) (hp : QuietL p.data.toList) (htl : t.size ≤ 4294967290) (hpl : p.size ≤ 4294967290) (w : World) :
    Calls Tryz.prog 62 #[.string t, .string p] w (BoolP (tipB t.data.toList p.data.toList) w) := by
  have HT := Lib.hid ht
  have HP := Lib.hid hp
  have HS1 := fun w => Lib.hid (mdSplit_any t (by omega) w)
  have HS2 := fun w => Lib.hid (mdSplit_any p (by omega) w)
  unfold SpP at HS1 HS2
  clear ht hp
  go_enter Tryz.func62, Tryz.ntmps62
  go_upto_region 2 with (go_at_call 91; refine (HS1 _).out.mono ?_; rintro e w1 ⟨v1, rfl, ho, hb⟩)
  obtain ⟨ao, cp, rfl, hc⟩ := ho.slice
  have HC1 := Lib.hid hc
  have HB1 := Lib.hid hb
  clear ho hc hb HS1
  go_upto_region 3 with (go_at_call 91; refine (HS2 _).out.mono ?_; rintro e w2 ⟨v2, rfl, ho, hb⟩)
  obtain ⟨ap, cq, rfl, hc⟩ := ho.slice
  have HC2 := Lib.hid hc
  have HC1' : Hid (∀ (W : World), Below w2.heap.size w2 W → ∀ (j : Nat) (a : List UInt8), (splitB t.data.toList)[j]? = some a → ∃ ad, ao = some ad ∧ W.cell? (ad.add j) = some (.string (bs a))) := by
    refine Lib.hid fun W hW j a hj => ?_
    obtain ⟨ad, h1, h2⟩ := HC1.out j a hj
    refine ⟨ad, h1, ?_⟩
    have h3 := (hb.cell (p := ad.add j) (cell_lt h2)).trans h2
    exact (hW.cell (p := ad.add j) (cell_lt h3)).trans h3
  have HC2' : Hid (∀ (W : World), Below w2.heap.size w2 W → ∀ (j : Nat) (a : List UInt8), (splitB p.data.toList)[j]? = some a → ∃ ad, ap = some ad ∧ W.cell? (ad.add j) = some (.string (bs a))) := by
    refine Lib.hid fun W hW j a hj => ?_
    obtain ⟨ad, h1, h2⟩ := HC2.out j a hj
    exact ⟨ad, h1, (hW.cell (p := ad.add j) (cell_lt h2)).trans h2⟩
  have HB2 := Lib.hid (HB1.out.trans (hb.mono HB1.out.size))
  clear ho hc hb HS2 HC1 HC2
  obtain ⟨m, hm⟩ : ∃ m, m = (splitB t.data.toList).length := ⟨_, rfl⟩
  obtain ⟨n, hn⟩ : ∃ n, n = (splitB p.data.toList).length := ⟨_, rfl⟩
  have hm2 : m ≤ 4294967291 := by have := split_len t.data.toList; rw [bs_size_eq] at this; omega
  have hn2 : n ≤ 4294967291 := by have := split_len p.data.toList; rw [bs_size_eq] at this; omega
  have HM := Lib.hid hm
  have HN := Lib.hid hn
  rw [← hm, ← hn]
  clear hm hn
  by_cases hmn : m = n
  · subst hmn
    have i1 : ((m : Int) != (m : Int)) = false := by simp
    go_wp2_with (fail)
    go_loopg [7] m (fun g v wr => ∃ k : Nat, k + g = m ∧ v = .int .i64 k ∧ Hid (allB ((splitB t.data.toList).drop k) ((splitB p.data.toList).drop k) = tipB t.data.toList p.data.toList) ∧ Hid (Below w2.heap.size w2 wr))
    case atStart => exact ⟨0, by omega, rfl, Lib.hid (by rw [List.drop_zero, List.drop_zero, tipB, ← HM.out, ← HN.out]; simp), Lib.hid (Below.refl _ _)⟩
    case round =>
      obtain ⟨k, hk, rfl, HK, HB⟩ := hrel
      cases gk with
      | zero =>
        have hkm : m ≤ k := by omega
        have ik : ¬ (k : Int) < (m : Int) := by omega
        have HE : Hid (true = tipB t.data.toList p.data.toList) := Lib.hid (by rw [← HK.out, List.drop_of_length_le (by rw [← HM.out]; omega)]; rfl)
        clear hk
        go_wp2_with (fail)
        go_ret
        exact ⟨by rw [← HE.out]; rfl, HB2.out.trans (HB.out.mono HB2.out.size)⟩
      | succ g =>
        have hlt : k < m := by omega
        have hk1 : k + 1 + g = m := by omega
        have HK1 := Lib.hid hk1
        obtain ⟨a, ha⟩ : ∃ a, (splitB t.data.toList)[k]? = some a := ⟨_, List.getElem?_eq_getElem (by rw [← HM.out]; exact hlt)⟩
        obtain ⟨b, hb⟩ : ∃ b, (splitB p.data.toList)[k]? = some b := ⟨_, List.getElem?_eq_getElem (by rw [← HN.out]; exact hlt)⟩
        obtain ⟨ad, rfl, c1⟩ := HC1'.out _ HB.out k a ha
        obtain ⟨bd, rfl, c2⟩ := HC2'.out _ HB.out k b hb
        have HST := Lib.hid (allB_at ha hb)
        have HMA := fun w => Lib.hid (match_any (p := bs b) (s := bs a) (by rw [bs_data]; exact fun x hx => HP.out x (split_part hb x hx).1) (by rw [bs_data]; exact fun x hx => ⟨HT.out x (split_part ha x hx).1, (split_part ha x hx).2⟩) (by rw [bs_size]; have := split_size hb; rw [bs_size_eq] at this; omega) (by rw [bs_size]; have := split_size ha; rw [bs_size_eq] at this; omega) w)
        unfold MaP at HMA
        simp only [bs_data] at HMA
        obtain ⟨sa, hsa⟩ : ∃ sa, sa = bs a := ⟨_, rfl⟩
        obtain ⟨sb, hsb⟩ : ∃ sb, sb = bs b := ⟨_, rfl⟩
        obtain ⟨β, hβ⟩ : ∃ β, β = matB b a := ⟨_, rfl⟩
        rw [← hsa] at c1 HMA
        rw [← hsb] at c2 HMA
        rw [← hβ] at HMA HST
        have hkl : (k : Int) < (m : Int) := by omega
        clear hk hk1 ha hb hsa hsb hβ
        go_upto_region 8 with (fail)
        cases β with
        | true =>
          have HS2 : Hid (allB ((splitB t.data.toList).drop (k + 1)) ((splitB p.data.toList).drop (k + 1)) = tipB t.data.toList p.data.toList) := Lib.hid (by rw [← HK.out, HST.out, Bool.true_and])
          go_region_with (go_at_call 92; refine (HMA _).out.mono ?_; rintro e wm ⟨rfl, hb⟩)
          all_goals
            have HB3 := Lib.hid (below_drawn HB.out hb HB.out.size)
            clear hb
            go_wp2_with (fail)
            go_roundg g
            case measure => omega
            case rel => exact ⟨k + 1, HK1.out, by first | rfl | go_num, HS2, HB3⟩
        | false =>
          have HE : Hid (false = tipB t.data.toList p.data.toList) := Lib.hid (by rw [← HK.out, HST.out, Bool.false_and])
          go_region_with (go_at_call 92; refine (HMA _).out.mono ?_; rintro e wm ⟨rfl, hb⟩)
          all_goals
            have HB3 := Lib.hid (below_drawn HB.out hb HB.out.size)
            clear hb
            go_wp2_with (fail)
            go_ret
            exact ⟨by rw [← HE.out]; rfl, HB2.out.trans (HB3.out.mono HB2.out.size)⟩
  · have i1 : ((m : Int) != (n : Int)) = true := by simp; omega
    have HE : Hid (false = tipB t.data.toList p.data.toList) := Lib.hid (by rw [tipB, ← HM.out, ← HN.out, decide_eq_false hmn]; rfl)
    clear hmn
    go_wp2_with (fail)
    go_ret
    exact ⟨by rw [← HE.out]; rfl, HB2.out⟩
end Go.Proofs.YtpanemfpipcggaaGreatDoor
