/- The reader's parseElement, and the whole reader by recursion. -/
import Derived.Test.YtjganhmbjffjfaaGreatDoorN7
import Derived.Test.YtjganhmbjffjfaaGreatDoorJ8
open Go Go.RowKit
namespace Go.Proofs.YtjganhmbjffjfaaGreatDoor

/-- What is told of the literals' texts holds. -/
def LitOK (lit : Lit) : Prop := ∀ t q, lit t = some q → PL ⟨t.toArray⟩ q
theorem pElem_succ (lit : Lit) (k d : Nat) (s : List UInt8) : pElem lit (k + 1) d s = match s.dropWhile wsB with
    | [] => .err
    | x :: r => if 127 < x.toNat then .err
      else if x = 123 then objOut lit k d r
      else if x = 34 then strOut r
      else if x = 91 then arrOut lit k d r
      else tokOut lit (x :: r) := by rw [pElem]; rfl
def outT : Option (ByteArray × List UInt8) → Out
  | none => .err
  | some (q, r) => .ok q.data.toList r
theorem tok_res {lit : Lit} (hL : LitOK lit) {s : List UInt8} (h : tokOut lit s ≠ .stuck) : ∃ res, TokRes s res ∧ tokOut lit s = outT res := by
  unfold tokOut at h ⊢
  unfold TokRes
  cases hp : pTok s with
  | none => exact ⟨none, rfl, rfl⟩
  | some p =>
    obtain ⟨t, r⟩ := p
    rw [hp] at h
    simp only at h ⊢
    cases hl : lit t with
    | none => rw [hl] at h; exact absurd rfl h
    | some q =>
      cases q with
      | none => exact ⟨none, ⟨none, hL t none hl, rfl⟩, rfl⟩
      | some q => exact ⟨some (q, r), ⟨some q, hL t (some q) hl, rfl⟩, rfl⟩
/-- The result's block in parseElement. -/
theorem retE {w : World} {b : Nat} {x0 x1 x2 x3 u : Value} {T : TypeId} {tmps : Array Value} (h : w.heap[b]? = some (.cells #[x0, x1, x2, x3] T (0, 0))) (hp : tmps.getD 2 undef = .pointer (some ⟨b, 0, none⟩)) (hu : tmps.getD 3 undef = u) :
    (results Tryz.f111 tmps).run Tryz.prog w = .ok (.tuple #[.agg #[x0, x1, x2, x3], u]) w := by
  rw [results_cell_tmp rfl, hp, hu]
  simp only [asAddr, Sem.run_pure, Result.andThen, load4 h]
/-- The state: the result's block is new, the reader stands at r. -/
structure ES (w : World) (j : Nat) (A : Option Addr) (c : Nat) (D : List UInt8) (d : Nat) (r : List UInt8) (x0 x1 x2 x3 : Value) (W : World) : Prop where
  lt : j < w.heap.size
  j0 : ∃ r0, JR w j A c D r0 d
  fr : Fr j w W
  jr : JR W j A c D r d
  slot : W.heap[w.heap.size]? = some (.cells #[x0, x1, x2, x3] 206 (0, 0))
section
variable {w W W' : World} {j : Nat} {A : Option Addr} {c : Nat} {D : List UInt8} {d : Nat} {r : List UInt8} {x0 x1 x2 x3 : Value}
theorem ES.size (h : ES w j A c D d r x0 x1 x2 x3 W) : w.heap.size < W.heap.size := (slot_cells h.slot).2.2.2.2.2
theorem ES.start (h : JR w j A c D r d) : ES w j A c D d r (.int .u8 0) (.string ⟨#[]⟩) (.slice none 0 0) (.slice none 0 0) (w.alloc (.cells #[.int .u8 0, .string ⟨#[]⟩, .slice none 0 0, .slice none 0 0] 206)) :=
  ⟨h.lt, ⟨r, h⟩, (Fr.refl j w).alloc _, h.below ((Below.refl _ _).alloc (Nat.le_refl _) _), alloc_at _ _⟩
theorem ES.keep {r' : List UInt8} (h : ES w j A c D d r x0 x1 x2 x3 W) (hf : Fr j W W') (hJ : JR W' j A c D r' d) : ES w j A c D d r' x0 x1 x2 x3 W' := by
  have hs := h.size
  have hl := h.lt
  exact ⟨h.lt, h.j0, h.fr.trans hf, hJ, by rw [hf.block _ hs (by omega)]; exact h.slot⟩
theorem ES.below (h : ES w j A c D d r x0 x1 x2 x3 W) (hb : Below W.heap.size W W') : ES w j A c D d r x0 x1 x2 x3 W' :=
  h.keep (Fr.of_below hb) (h.jr.below hb)
theorem ES.set4 (h : ES w j A c D d r x0 x1 x2 x3 W) (y0 y1 y2 y3 : Value) :
    ES w j A c D d r y0 y1 y2 y3 ((((W.setCell ⟨w.heap.size, 0, none⟩ y0).setCell ⟨w.heap.size, 1, none⟩ y1).setCell ⟨w.heap.size, 2, none⟩ y2).setCell ⟨w.heap.size, 3, none⟩ y3) := by
  have hl := h.lt
  have hf := h.fr.set4 (b := w.heap.size) (Nat.le_refl _) y0 y1 y2 y3
  obtain ⟨r0, h0⟩ := h.j0
  exact ⟨h.lt, ⟨r0, h0⟩, hf, h0.from hf h.jr (set4_other (by omega) _ _ _ _), Go.Proofs.YtjganhmbjffjfaaGreatDoor.set4 h.slot y0 y1 y2 y3⟩
end
theorem elem_end {P : Ending → World → Prop} {tmps : Array Value} {w WF : World} {j : Nat} {A : Option Addr} {c : Nat} {D : List UInt8} {d : Nat} {r : List UInt8} {x0 x1 x2 x3 u : Value} (h : ES w j A c D d r x0 x1 x2 x3 WF)
    (h2 : tmps.getD 2 undef = .pointer (some ⟨w.heap.size, 0, none⟩)) (h3 : tmps.getD 3 undef = u) (hP : P (.returned (.tuple #[.agg #[x0, x1, x2, x3], u])) WF) :
    bodyPost Tryz.prog Tryz.f111 P Exit.ret { tmps := tmps, defers := [] } WF := bodyPost_ret (retE h.slot h2 h3) rfl hP
theorem nd_set4 {P : Nat → Prop} {W : World} {b : Nat} {v : List Value} {t : List UInt8} (h : ND P W v t) (hP : ∀ k, P k → k ≠ b) (y0 y1 y2 y3 : Value) :
    ND P ((((W.setCell ⟨b, 0, none⟩ y0).setCell ⟨b, 1, none⟩ y1).setCell ⟨b, 2, none⟩ y2).setCell ⟨b, 3, none⟩ y3) v t :=
  h.frame (by simp only [World.size_setCell']; exact Nat.le_refl _) (fun k _ hp => set4_other (hP k hp) _ _ _ _)

set_option maxRecDepth 100000 in
set_option maxHeartbeats 4000000 in
theorem elem_any (lit : Lit) (hL : LitOK lit) (k : Nat) (HAR : ArrOK lit k) (HOB : ObjOK lit k) : ElemOK lit (k + 1) := by
  intro w j A c D s d hdd h hns
  have HARH := Lib.hid HAR
  have HOBH := Lib.hid HOB
  have HLH := Lib.hid hL
  have hjl := h.lt
  have HS0 := Lib.hid (ES.start h)
  obtain ⟨res, hres⟩ : ∃ res, res = pElem lit (k + 1) d s := ⟨_, rfl⟩
  rw [← hres] at hns ⊢
  have HRES : Hid (res = match s.dropWhile wsB with
    | [] => .err
    | x :: r => if 127 < x.toNat then .err
      else if x = 123 then objOut lit k d r
      else if x = 34 then strOut r
      else if x = 91 then arrOut lit k d r
      else tokOut lit (x :: r)) := by show _ = _; rw [hres, pElem_succ]
  have HNS := Lib.hid hns
  clear hres hns HAR HOB hL h
  by_cases hpk : ∃ x ys, s.dropWhile wsB = x :: ys ∧ x.toNat ≤ 127
  · obtain ⟨x, ys, hx, hx7⟩ := hpk
    have HX := Lib.hid hx
    have HR2 : Hid (res = if x = 123 then objOut lit k d ys else if x = 34 then strOut ys else if x = 91 then arrOut lit k d ys else tokOut lit (x :: ys)) := by
      show _ = _; rw [HRES.out, hx]; simp only; rw [if_neg (by omega)]
    clear hx HRES
    by_cases h1 : x = 123
    · subst h1
      have HR3 : Hid (res = objOut lit k d ys) := by show _ = _; rw [HR2.out, if_pos rfl]
      clear HR2
      go_enter Tryz.func111, Tryz.ntmps111
      go_wp2_with (fail)
      refine (scan_ok HS0.out.jr HX.out hx7).mono ?_
      rintro e w1 ⟨rfl, hf1, hq1⟩
      have HE1 := Lib.hid (HS0.out.keep hf1 hq1.toR)
      clear hf1 hq1
      go_wp2_with (fail)
      refine (HOBH.out _ j A c D ys d hdd HE1.out.jr (by rw [← HR3.out]; exact HNS.out)).mono ?_
      rintro e w2 hP
      rw [← HR3.out] at hP
      cases hr : res with
      | stuck => exact absurd hr HNS.out
      | err =>
        rw [hr] at hP
        have HE2 := Lib.hid hr
        obtain ⟨⟨v, ⟨t, a, rfl⟩, rfl⟩, hf2, r2, hJ2⟩ := hP
        unfold zeroNode
        have HE3 := Lib.hid (HE1.out.keep hf2 hJ2)
        clear hr hf2 hJ2
        obtain ⟨s0, s1, s2, s3, sf, sl⟩ := slot_cells HE3.out.slot
        have hfz0 := sf 0
        have hfz1 := sf 1
        have hfz2 := sf 2
        have hfz3 := sf 3
        clear sf
        go_wp2
        have hE := HE3.out.set4 (.int .u8 0) (.string ⟨#[]⟩) (.slice none 0 0) (.slice none 0 0)
        exact elem_end hE rfl rfl (NPost.err HE2.out ⟨_, _, rfl⟩ hE.fr hE.jr)
      | ok t2 r2 =>
        rw [hr] at hP
        obtain ⟨x0, x1, x2, x3, rfl, hf2, hJ2, hnd⟩ := hP
        obtain ⟨kd, sx, a1, n1, c1, a2, n2, c2, rfl, rfl, rfl, rfl⟩ := hnd.shape
        have HE3 := Lib.hid (HE1.out.keep hf2 hJ2)
        have HND := Lib.hid hnd
        have HE2 := Lib.hid hr
        have hsz1 := HE1.out.size
        clear hr hf2 hJ2 hnd
        obtain ⟨s0, s1, s2, s3, sf, sl⟩ := slot_cells HE3.out.slot
        have hfz0 := sf 0
        have hfz1 := sf 1
        have hfz2 := sf 2
        have hfz3 := sf 3
        clear sf
        go_wp2
        have hE := HE3.out.set4 (.int .u8 kd) (.string sx) (.slice a1 n1 c1) (.slice a2 n2 c2)
        exact elem_end hE rfl rfl (NPost.ok HE2.out hE.fr hE.jr (nd_set4 (HND.out.mono (Q := fun k => w1.heap.size ≤ k) (fun k _ hp => hp)) (fun k hk => by omega) _ _ _ _ |>.mono (fun k _ hp => by have := HE1.out.fr.size; omega)))
    have b1 : ((x.toNat : Int) == 123) = false := u8_ne (n := 123) (by omega) h1
    by_cases h2 : x = 34
    · subst h2
      have HR3 : Hid (res = strOut ys) := by show _ = _; rw [HR2.out, if_neg h1, if_pos rfl]
      clear HR2 h1
      go_enter Tryz.func111, Tryz.ntmps111
      go_wp2_with (fail)
      refine (scan_ok HS0.out.jr HX.out hx7).mono ?_
      rintro e w1 ⟨rfl, hf1, hq1⟩
      have HE1 := Lib.hid (HS0.out.keep hf1 hq1.toR)
      clear hf1 hq1
      go_wp2_with (fail)
      have hqu := quoted_any HE1.out.jr
      cases hp : pStr (ys.length + 1) [] ys with
      | none =>
        rw [hp] at hqu
        have HE2 : Hid (res = .err) := by show _ = _; rw [HR3.out, strOut, hp]
        refine hqu.mono ?_
        rintro e w2 ⟨hf2, ⟨v, ⟨t, a, rfl⟩, rfl⟩, r2, hJ2⟩
        have HE3 := Lib.hid (HE1.out.keep hf2 hJ2)
        clear hqu hp hf2 hJ2
        obtain ⟨s0, s1, s2, s3, sf, sl⟩ := slot_cells HE3.out.slot
        have hfz0 := sf 0
        have hfz1 := sf 1
        have hfz2 := sf 2
        have hfz3 := sf 3
        clear sf
        go_wp2
        have hE := HE3.out.set4 (.int .u8 0) (.string ⟨#[]⟩) (.slice none 0 0) (.slice none 0 0)
        exact elem_end hE rfl rfl (NPost.err HE2.out ⟨_, _, rfl⟩ hE.fr hE.jr)
      | some q =>
        obtain ⟨b, r2⟩ := q
        rw [hp] at hqu
        by_cases hnb : nameB b = true
        · have HE2 : Hid (res = .ok (deco b) r2) := by show _ = _; rw [HR3.out, strOut, hp]; simp only; rw [if_pos hnb]
          have hnl : b.length ≤ 4294967296 := by
            have h1 := pStr_len _ _ _ _ _ hp
            obtain ⟨i3, hJ3', hD3⟩ := HE1.out.jr
            have h2 := congrArg List.length hD3
            rw [List.length_drop] at h2
            have := hJ3'.len4
            simp at h1; omega
          have HNO := Lib.hid (nameB_ok hnb hnl)
          refine hqu.mono ?_
          rintro e w2 ⟨hf2, rfl, hJ2⟩
          have HE3 := Lib.hid (HE1.out.keep hf2 hJ2)
          clear hqu hp hf2 hJ2 hnb hnl
          go_wp2_with (fail)
          refine (deco_any _ ⟨b.toArray⟩ w2 HNO.out.1 HNO.out.2).mono ?_
          rintro e w3 ⟨rfl, hb3⟩
          have HE4 := Lib.hid (HE3.out.below hb3)
          clear hb3
          have HDB : Hid ((⟨(deco (⟨b.toArray⟩ : ByteArray).data.toList).toArray⟩ : ByteArray).data.toList = deco b) := rfl
          obtain ⟨DS, hDS⟩ : ∃ DS : ByteArray, DS = ⟨(deco (⟨b.toArray⟩ : ByteArray).data.toList).toArray⟩ := ⟨_, rfl⟩
          rw [← hDS] at HDB ⊢
          clear hDS
          obtain ⟨s0, s1, s2, s3, sf, sl⟩ := slot_cells HE4.out.slot
          have hfz0 := sf 0
          have hfz1 := sf 1
          have hfz2 := sf 2
          have hfz3 := sf 3
          clear sf
          go_wp2
          have hE := HE4.out.set4 (.int .u8 0) (.string DS) (.slice none 0 0) (.slice none 0 0)
          refine elem_end hE rfl rfl (NPost.ok HE2.out hE.fr hE.jr ?_)
          rw [← HDB.out]; exact .scal DS
        · exact absurd (show res = .stuck by rw [HR3.out, strOut, hp]; simp only; rw [if_neg hnb]) HNS.out
    have b2 : ((x.toNat : Int) == 34) = false := u8_ne (n := 34) (by omega) h2
    by_cases h3 : x = 91
    · subst h3
      have HR3 : Hid (res = arrOut lit k d ys) := by show _ = _; rw [HR2.out, if_neg h1, if_neg h2, if_pos rfl]
      clear HR2 h1 h2
      go_enter Tryz.func111, Tryz.ntmps111
      go_wp2_with (fail)
      refine (scan_ok HS0.out.jr HX.out hx7).mono ?_
      rintro e w1 ⟨rfl, hf1, hq1⟩
      have HE1 := Lib.hid (HS0.out.keep hf1 hq1.toR)
      clear hf1 hq1
      go_wp2_with (fail)
      refine (HARH.out _ j A c D ys d hdd HE1.out.jr (by rw [← HR3.out]; exact HNS.out)).mono ?_
      rintro e w2 hP
      rw [← HR3.out] at hP
      cases hr : res with
      | stuck => exact absurd hr HNS.out
      | err =>
        rw [hr] at hP
        have HE2 := Lib.hid hr
        obtain ⟨⟨v, ⟨t, a, rfl⟩, rfl⟩, hf2, r2, hJ2⟩ := hP
        unfold zeroNode
        have HE3 := Lib.hid (HE1.out.keep hf2 hJ2)
        clear hr hf2 hJ2
        obtain ⟨s0, s1, s2, s3, sf, sl⟩ := slot_cells HE3.out.slot
        have hfz0 := sf 0
        have hfz1 := sf 1
        have hfz2 := sf 2
        have hfz3 := sf 3
        clear sf
        go_wp2
        have hE := HE3.out.set4 (.int .u8 0) (.string ⟨#[]⟩) (.slice none 0 0) (.slice none 0 0)
        exact elem_end hE rfl rfl (NPost.err HE2.out ⟨_, _, rfl⟩ hE.fr hE.jr)
      | ok t2 r2 =>
        rw [hr] at hP
        obtain ⟨x0, x1, x2, x3, rfl, hf2, hJ2, hnd⟩ := hP
        obtain ⟨kd, sx, a1, n1, c1, a2, n2, c2, rfl, rfl, rfl, rfl⟩ := hnd.shape
        have HE3 := Lib.hid (HE1.out.keep hf2 hJ2)
        have HND := Lib.hid hnd
        have HE2 := Lib.hid hr
        have hsz1 := HE1.out.size
        clear hr hf2 hJ2 hnd
        obtain ⟨s0, s1, s2, s3, sf, sl⟩ := slot_cells HE3.out.slot
        have hfz0 := sf 0
        have hfz1 := sf 1
        have hfz2 := sf 2
        have hfz3 := sf 3
        clear sf
        go_wp2
        have hE := HE3.out.set4 (.int .u8 kd) (.string sx) (.slice a1 n1 c1) (.slice a2 n2 c2)
        exact elem_end hE rfl rfl (NPost.ok HE2.out hE.fr hE.jr (nd_set4 (HND.out.mono (Q := fun k => w1.heap.size ≤ k) (fun k _ hp => hp)) (fun k hk => by omega) _ _ _ _ |>.mono (fun k _ hp => by have := HE1.out.fr.size; omega)))
    have b3 : ((x.toNat : Int) == 91) = false := u8_ne (n := 91) (by omega) h3
    have HR3 : Hid (res = tokOut lit (x :: ys)) := by show _ = _; rw [HR2.out, if_neg h1, if_neg h2, if_neg h3]
    clear HR2 h1 h2 h3
    go_enter Tryz.func111, Tryz.ntmps111
    go_wp2_with (fail)
    refine (scan_ok HS0.out.jr HX.out hx7).mono ?_
    rintro e w1 ⟨rfl, hf1, hq1⟩
    obtain ⟨tr, htr, hte⟩ := tok_res HLH.out (s := x :: ys) (by rw [← HR3.out]; exact HNS.out)
    have HTR := Lib.hid htr
    have HTE : Hid (res = outT tr) := by show _ = _; rw [HR3.out, hte]
    have HQ1 := Lib.hid hq1
    have HE1 := Lib.hid (HS0.out.keep hf1 hq1.toR)
    clear htr hte hf1 hq1
    go_wp2_with (fail)
    refine (simple_any HQ1.out HTR.out).mono ?_
    rintro e w2 hP
    cases tr with
    | none =>
      obtain ⟨⟨v, ⟨t, a, rfl⟩, rfl⟩, hf2, r2, hJ2⟩ := hP
      unfold zeroNode
      have HE3 := Lib.hid (HE1.out.keep hf2 hJ2)
      clear hf2 hJ2
      obtain ⟨s0, s1, s2, s3, sf, sl⟩ := slot_cells HE3.out.slot
      have hfz0 := sf 0
      have hfz1 := sf 1
      have hfz2 := sf 2
      have hfz3 := sf 3
      clear sf
      go_wp2
      have hE := HE3.out.set4 (.int .u8 0) (.string ⟨#[]⟩) (.slice none 0 0) (.slice none 0 0)
      exact elem_end hE rfl rfl (NPost.err HTE.out ⟨_, _, rfl⟩ hE.fr hE.jr)
    | some q =>
      obtain ⟨q, r2⟩ := q
      obtain ⟨rfl, hf2, hJ2⟩ := hP
      unfold scalar
      have HE3 := Lib.hid (HE1.out.keep hf2 hJ2)
      clear hf2 hJ2
      obtain ⟨s0, s1, s2, s3, sf, sl⟩ := slot_cells HE3.out.slot
      have hfz0 := sf 0
      have hfz1 := sf 1
      have hfz2 := sf 2
      have hfz3 := sf 3
      clear sf
      go_wp2
      have hE := HE3.out.set4 (.int .u8 0) (.string q) (.slice none 0 0) (.slice none 0 0)
      exact elem_end hE rfl rfl (NPost.ok HTE.out hE.fr hE.jr (.scal q))
  · have HS := Lib.hid (show ∀ x ys, s.dropWhile wsB = x :: ys → 127 < x.toNat from fun x ys e => by
      rcases Nat.lt_or_ge 127 x.toNat with h | h
      · exact h
      · exact absurd ⟨x, ys, e, h⟩ hpk)
    have HE2 : Hid (res = .err) := by
      show _ = _
      rw [HRES.out]
      cases hd' : s.dropWhile wsB with
      | nil => rfl
      | cons x ys => simp only; rw [if_pos (HS.out x ys hd')]
    clear hpk
    go_enter Tryz.func111, Tryz.ntmps111
    go_wp2_with (fail)
    refine (scan_err HS0.out.jr HS.out).mono ?_
    rintro e w1 ⟨v, ⟨t, a, rfl⟩, rfl, hf1, r1, hJ1⟩
    have HE3 := Lib.hid (HS0.out.keep hf1 hJ1)
    clear hf1 hJ1
    obtain ⟨s0, s1, s2, s3, sf, sl⟩ := slot_cells HE3.out.slot
    have hfz0 := sf 0
    have hfz1 := sf 1
    have hfz2 := sf 2
    have hfz3 := sf 3
    clear sf
    go_wp2
    have hE := HE3.out.set4 (.int .u8 0) (.string ⟨#[]⟩) (.slice none 0 0) (.slice none 0 0)
    exact elem_end hE rfl rfl (NPost.err HE2.out ⟨_, _, rfl⟩ hE.fr hE.jr)

/-- The reader, whole: parseElement at whatever fuel. -/
theorem elem_all (lit : Lit) (hL : LitOK lit) : ∀ k, ElemOK lit k := by
  have key : ∀ n k, k ≤ n → ElemOK lit k := by
    intro n
    induction n with
    | zero =>
      intro k hk
      obtain rfl : k = 0 := by omega
      intro w j A c D s d _ _ hns
      exact absurd (by rw [pElem]) hns
    | succ n ih =>
      intro k hk
      cases k with
      | zero => exact ih 0 (Nat.zero_le _)
      | succ k => exact elem_any lit hL k (array_any lit k (fun k' h => ih k' (by omega))) (object_any lit k (fun k' h => ih k' (by omega)))
  exact fun k => key k k (Nat.le_refl _)
end Go.Proofs.YtjganhmbjffjfaaGreatDoor
