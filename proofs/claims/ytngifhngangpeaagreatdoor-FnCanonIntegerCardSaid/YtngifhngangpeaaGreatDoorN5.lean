/- The reader's parseArray. -/
import Derived.Test.YtngifhngangpeaaGreatDoorN4
open Go Go.RowKit
namespace Go.Proofs.YtngifhngangpeaaGreatDoor

/-- The loop's relation. -/
structure ARel (w : World) (j : Nat) (A : Option Addr) (c : Nat) (D : List UInt8) (d : Nat) (L : List (List Value × List UInt8)) (r : List UInt8) (v : Value) (W : World) : Prop where
  st : AS w j A c D d r (.int .u8 0) (.string ⟨#[]⟩) (.slice none 0 0) (.slice none 0 0) W
  own : W.ownsRow (w.heap.size + 2) 135 4 v L.length (L.flatMap (·.1))
  nd : ∀ x ∈ L, ND (fun k => w.heap.size + 2 ≤ k ∧ v.ownBlock ≠ some k) W x.1 x.2
  nn : ∃ g cp, v = .slice (some ⟨g, 0, none⟩) L.length cp

theorem ownsRow_fr {w w' : World} {R k n j : Nat} {T : TypeId} {v : Value} {xs : List Value} (h : w.ownsRow R T k v n xs) (hf : Fr j w w') (hj : j < R) : w'.ownsRow R T k v n xs := by
  refine ⟨h.1, ?_⟩
  rcases h.2 with hn | ⟨g, cap, cur, rfl, hb, hg, rest⟩
  · exact .inl hn
  · refine .inr ⟨g, cap, cur, rfl, hb, ?_, rest⟩
    rw [hf.block _ ?_ (by omega)]; exact hg
    rcases Nat.lt_or_ge g w.heap.size with h1 | h1
    · exact h1
    · rw [Array.getElem?_eq_none h1] at hg; cases hg
theorem ownsRow_lt {w : World} {R k n : Nat} {T : TypeId} {v : Value} {xs : List Value} (h : w.ownsRow R T k v n xs) : ∀ g, v.ownBlock = some g → R ≤ g ∧ g < w.heap.size := by
  intro g' e
  rcases h.2 with ⟨rfl, _⟩ | ⟨g, cap, cur, rfl, hb, hg, rest⟩
  · cases e
  · cases e
    refine ⟨hb, ?_⟩
    rcases Nat.lt_or_ge g w.heap.size with h1 | h1
    · exact h1
    · rw [Array.getElem?_eq_none h1] at hg; cases hg
theorem below_app {w3 w4 : World} {M : Nat} {o : Obj} {r : Option Nat} (hM : M ≤ w3.heap.size) (hg : (w3.alloc o).grownBy w4 r) (hr : ∀ g, r = some g → M ≤ g) : Below M w3 w4 :=
  ⟨hg.os, hg.tape, hg.output, by have := hg.size; rw [World.size_alloc] at this; omega, fun k hk => by
    rw [hg.block k (by rw [World.size_alloc]; omega) (fun e => by have := hr k e.symm; omega), Below.heap_alloc _ _ _ (by omega)]⟩
theorem ARel.push {w wr w3 w4 : World} {j : Nat} {A : Option Addr} {c : Nat} {D : List UInt8} {d : Nat} {L : List (List Value × List UInt8)} {r r2 t : List UInt8} {v v' : Value} {m : Nat} {x0 x1 x2 x3 : Value} (h : ARel w j A c D d L r v wr)
    (hf : Fr j wr w3) (hJ3 : JR w3 j A c D r2 (d + 1)) (hm : wr.heap.size ≤ m) (hND : ND (fun k => m ≤ k) w3 [x0, x1, x2, x3] t) (o : Obj)
    (hown' : w4.ownsRow (w.heap.size + 2) 135 4 v' (L.length + 1) (L.flatMap (·.1) ++ [x0, x1, x2, x3])) (hg : (w3.alloc o).grownBy w4 v.ownBlock)
    (hat : v'.ownBlock = v.ownBlock ∨ ∃ g, v'.ownBlock = some g ∧ (w3.alloc o).heap.size ≤ g) : ARel w j A c D d (L ++ [([x0, x1, x2, x3], t)]) r2 v' w4 := by
  have hol := ownsRow_lt h.own
  have hsz := h.st.size
  have hfs := hf.size
  have hjl := h.st.lt
  have hb : Below (w.heap.size + 2) w3 w4 := below_app (by omega) hg (fun g e => (hol g e).1)
  have hat' : ∀ k, k < w3.heap.size → v.ownBlock ≠ some k → v'.ownBlock ≠ some k := by
    intro k hk hv e
    rcases hat with h1 | ⟨g, h1, h2⟩
    · exact hv (by rw [← h1]; exact e)
    · rw [h1] at e; cases e; rw [World.size_alloc] at h2; omega
  have hkeep : ∀ k, k < w3.heap.size → v.ownBlock ≠ some k → w4.heap[k]? = w3.heap[k]? := fun k hk hv => by
    rw [hg.block k (by rw [World.size_alloc]; omega) (fun e => hv e.symm), Below.heap_alloc _ _ _ (by omega)]
  refine ⟨(h.st.keep hf hJ3).below (Nat.le_refl _) hb, ?_, ?_, ?_⟩
  · rw [List.length_append, List.flatMap_append]; simpa using hown'
  · intro x hx
    rcases List.mem_append.1 hx with hx | hx
    · have h1 := ((h.nd x hx).fr hf (fun k hk => by omega))
      have h2 := h1.mono (Q := fun k => (w.heap.size + 2 ≤ k ∧ v'.ownBlock ≠ some k) ∧ v.ownBlock ≠ some k) (fun k hk hp => ⟨⟨hp.1, hat' k hk hp.2⟩, hp.2⟩)
      exact (h2.frame hb.size (fun k hk hp => hkeep k hk hp.2)).mono (fun k _ hp => hp.1)
    · rw [List.mem_singleton.1 hx]
      have hv : ∀ k, m ≤ k → v.ownBlock ≠ some k := fun k hk e => by have := (hol k e).2; omega
      have h2 := hND.mono (Q := fun k => (w.heap.size + 2 ≤ k ∧ v'.ownBlock ≠ some k) ∧ v.ownBlock ≠ some k) (fun k hk hp => ⟨⟨by omega, hat' k hk (hv k hp)⟩, hv k hp⟩)
      exact (h2.frame hb.size (fun k hk hp => hkeep k hk hp.2)).mono (fun k _ hp => hp.1)
  · rcases hown'.2 with ⟨_, h0⟩ | ⟨g, cap, cur, rfl, _⟩
    · omega
    · exact ⟨g, cap, by simp⟩
theorem ARel.result {w wr W' : World} {j : Nat} {A : Option Addr} {c : Nat} {D : List UInt8} {d : Nat} {L : List (List Value × List UInt8)} {r : List UInt8} {g cp : Nat} (h : ARel w j A c D d L r (.slice (some ⟨g, 0, none⟩) L.length cp) wr)
    (hs : wr.heap.size ≤ W'.heap.size) (hk : ∀ k, k < wr.heap.size → w.heap.size + 2 ≤ k → W'.heap[k]? = wr.heap[k]?) :
    ND (fun k => w.heap.size ≤ k) W' [.int .u8 1, .string ⟨#[]⟩, .slice (some ⟨g, 0, none⟩) L.length cp, .slice none 0 0] (91 :: joinC (L.map (·.2)) ++ [93]) := by
  have ho := ownsRow_lt h.own g rfl
  obtain ⟨hl1, hl2⟩ : L.length ≤ cp ∧ cp ≤ maxLen := by
    rcases h.own.2 with ⟨e, h0⟩ | ⟨g', cap, cur, e, _, _, h1, h2, _⟩
    · cases e
    · cases e; exact ⟨h1, h2⟩
  refine .arr g L.length cp L (by omega) (by omega) rfl hl1 hl2 (fun x hx => ?_) (fun i u hu => ?_)
  · exact ((h.nd x hx).mono (Q := fun k => w.heap.size + 2 ≤ k) (fun k _ hp => hp.1)).frame hs (fun k hkl hp => hk k hkl hp) |>.mono (fun k _ hp => by omega)
  · have := h.own.cells (g := g) rfl i u hu
    rw [addrAdd, Nat.zero_add] at this
    rw [World.cell?_of_block (hk g ho.2 ho.1)]; exact this
theorem pEls_succ (lit : Lit) (k d : Nat) (nx : Bool) (acc : List (List UInt8)) (s : List UInt8) : pEls lit (k + 1) d nx acc s = match s.dropWhile wsB with
    | [] => .err
    | x :: r => if 127 < x.toNat then .err
      else if x = 93 then .ok (91 :: joinC acc ++ [93]) r
      else if nx = true ∧ x ≠ 44 then .err
      else match pElem lit k d (if nx = true then r else x :: r) with
        | .ok t r2 => if acc.length < 256 then pEls lit k d true (acc ++ [t]) r2 else .stuck
        | o => o := by rw [pEls]; rfl

set_option maxRecDepth 100000 in
set_option maxHeartbeats 4000000 in
theorem array_any (lit : Lit) (k : Nat) (HE : ∀ k', k' < k → ElemOK lit k') : ArrOK lit k := by
  intro w j A c D s d hdd h hns
  have HEH := Lib.hid HE
  clear HE
  have h' := h
  obtain ⟨i, hJ, hD⟩ := h'
  have c2 := hJ.c2
  have f2 := hJ.fz 2
  have hjl := hJ.lt
  have hd2 : d ≤ 20000 := hJ.dle
  have hmf : ∀ (fn : Fn) (first cap : Array Value) (w : World), (Instr.makeFunc fn first cap).run Tryz.prog w = .ok (.func fn first cap) w := fun _ _ _ _ => rfl
  clear hJ hD
  by_cases hdeep : 10000 < d + 1
  · have HE2 : Hid (arrOut lit k d s = .err) := by
      show _ = _
      unfold arrOut; rw [if_pos hdeep]
    have HA := Lib.hid (AS.start h (by omega))
    clear hns h
    go_enter_defers Tryz.func97, Tryz.ntmps97
    go_wp2_with (fail)
    refine (errorsNew_any _ _).mono ?_
    rintro e w1 ⟨rfl, rfl⟩
    go_wp2
    refine array_end (HA.out.alloc _) rfl rfl ?_
    intro W' _ _ hF hJ'
    exact NPost.err HE2.out ⟨_, _, rfl⟩ hF hJ'
  · have ho : Hid (arrOut lit k d s = pEls lit k (d + 1) false [] s) := by
      show _ = _
      unfold arrOut; rw [if_neg hdeep]
    obtain ⟨res, hres⟩ : ∃ res, res = arrOut lit k d s := ⟨_, rfl⟩
    rw [← hres] at hns ⊢
    have HRES : Hid (pEls lit k (d + 1) false [] s = res) := by show _ = _; rw [hres, ho.out]
    have HNS := Lib.hid hns
    have hd1 : d + 1 ≤ 10000 := by omega
    have HA := Lib.hid (AS.start h (by omega))
    have H0 := Lib.hid h
    clear hres ho hns h hdeep
    go_enter_defers Tryz.func97, Tryz.ntmps97
    go_wp2_with (fail)
    have HR0 : Hid (ARel w j A c D d [] s (.slice (some ⟨w.heap.size + 2, 0, none⟩) 0 0) ((((w.setCell ⟨j, 2, none⟩ (.int .i64 ((d : Int) + 1))).alloc (.cells #[.pointer (some ⟨j, 0, none⟩)] 130)).alloc (.cells #[.int .u8 0, .string ⟨#[]⟩, .slice none 0 0, .slice none 0 0] 135)).alloc (.cells #[] 135))) := by
      have hA := HA.out
      have hsz : (((w.setCell ⟨j, 2, none⟩ (.int .i64 ((d : Int) + 1))).alloc (.cells #[.pointer (some ⟨j, 0, none⟩)] 130)).alloc (.cells #[.int .u8 0, .string ⟨#[]⟩, .slice none 0 0, .slice none 0 0] 135)).heap.size = w.heap.size + 2 := by
        rw [World.size_alloc, World.size_alloc, World.size_setCell']
      refine ⟨hA.alloc _, ⟨by simp, .inr ⟨w.heap.size + 2, 0, #[], rfl, Nat.le_refl _, ?_, Nat.le_refl _, by decide, rfl, rfl⟩⟩, (fun x hx => by cases hx), ⟨_, _, rfl⟩⟩
      have := alloc_at (((w.setCell ⟨j, 2, none⟩ (.int .i64 ((d : Int) + 1))).alloc (.cells #[.pointer (some ⟨j, 0, none⟩)] 130)).alloc (.cells #[.int .u8 0, .string ⟨#[]⟩, .slice none 0 0, .slice none 0 0] 135)) (.cells #[] 135)
      rw [hsz] at this; exact this
    clear HA c2 f2
    go_loopg [4, 5] (k) (fun kq v4 v5 wr => ∃ L nx r, Hid (pEls lit kq (d + 1) nx (L.map (·.2)) r = res) ∧ v5 = .bool nx ∧ kq ≤ k ∧ ARel w j A c D d L r v4 wr)
    case atStart => exact ⟨[], false, s, HRES.out, rfl, Nat.le_refl _, HR0.out⟩
    case round =>
      obtain ⟨L, nx, r, HQ, rfl, hkq, hR⟩ := hrel
      clear HR0
      cases gk with
      | zero => exact absurd HQ.out.symm (by rw [pEls]; exact HNS.out)
      | succ k1 =>
      have HR := Lib.hid hR
      have hbx := hR.st.bx
      have HJ := Lib.hid hR.st.jr
      obtain ⟨g, cp, rfl⟩ := hR.nn
      have HQ2 : Hid (res = pEls lit (k1 + 1) (d + 1) nx (L.map (·.2)) r) := by show _ = _; exact HQ.out.symm
      clear HQ hR HRES
      by_cases hpk : ∃ x ys, r.dropWhile wsB = x :: ys ∧ x.toNat ≤ 127
      · obtain ⟨x, ys, hx, hx7⟩ := hpk
        have HX := Lib.hid hx
        have hws : wsB x = false := dropWhile_head hx
        clear hx
        have HQ3 : Hid (res = if x = 93 then .ok (91 :: joinC (L.map (·.2)) ++ [93]) ys
            else if nx = true ∧ x ≠ 44 then .err
            else match pElem lit k1 (d + 1) (if nx = true then ys else x :: ys) with
              | .ok t r2 => if (L.map (·.2)).length < 256 then pEls lit k1 (d + 1) true (L.map (·.2) ++ [t]) r2 else .stuck
              | o => o) := by
          show _ = _
          rw [HQ2.out, pEls_succ, HX.out]
          simp only
          rw [if_neg (by omega)]
        clear HQ2
        go_wp2_with (fail)
        refine (peek_ok HJ.out HX.out hx7).mono ?_
        rintro e w1 ⟨rfl, hf1, hJ1⟩
        have HA1 := Lib.hid (HR.out.st.keep hf1 hJ1)
        have hbx1 := HA1.out.bx
        by_cases h93 : x = 93
        · subst h93
          have HQ4 : Hid (res = .ok (91 :: joinC (L.map (·.2)) ++ [93]) ys) := by show _ = _; rw [HQ3.out, if_pos rfl]
          clear HQ3
          obtain ⟨i1, hJ1w, hD1⟩ := hJ1
          have c1 := hJ1w.c1
          have f1 := hJ1w.fz 1
          have hi1 : i1 + 1 ≤ D.length := by have := congrArg List.length hD1; simp at this; omega
          have hlen := hJ1w.len
          have hj1 := hJ1w.lt
          have HJX := Lib.hid (hJ1w.set1 (i1 + 1) hi1)
          have HDX := Lib.hid (drop_cons hD1).2
          obtain ⟨s0, s1, s2, s3, sf, sl⟩ := slot_cells HA1.out.slot
          have hfz0 := sf 0
          have hfz1 := sf 1
          have hfz2 := sf 2
          have hfz3 := sf 3
          clear sf hJ1w hD1
          have HFX := Lib.hid ((Fr.refl j w1).setCell (p := ⟨j, 1, none⟩) (Or.inl rfl) (.int .i64 ((i1 : Int) + 1)))
          have e1 : (((i1 + 1 : Nat) : Int)) = (i1 : Int) + 1 := by omega
          rw [e1] at HJX
          clear e1
          have HF1 := Lib.hid hf1
          clear hf1
          go_wp2
          refine array_end ((HA1.out.keep HFX.out ⟨i1 + 1, HJX.out, HDX.out⟩).set4 (.int .u8 1) (.string ⟨#[]⟩) (.slice (some ⟨g, 0, none⟩) L.length cp) (.slice none 0 0)) rfl rfl ?_
          intro W' hsz ho hF hJ'
          refine NPost.ok HQ4.out hF hJ' (HR.out.result ?_ ?_)
          · rw [hsz]; have := HF1.out.size; simp only [World.size_setCell'] at *; omega
          · intro k hk hkw
            rw [ho k (by omega), set4_other (by omega), HFX.out.block k (by have := HF1.out.size; omega) (by omega), HF1.out.block k hk (by omega)]
        · have b93 : ((x.toNat : Int) == 93) = false := u8_ne (n := 93) (by omega) h93
          have hxw : (x :: ys).dropWhile wsB = x :: ys := List.dropWhile_cons_of_neg (by simpa using hws)
          have HXW := Lib.hid hxw
          have HQ4 : Hid (res = if nx = true ∧ x ≠ 44 then .err
            else match pElem lit k1 (d + 1) (if nx = true then ys else x :: ys) with
              | .ok t r2 => if (L.map (·.2)).length < 256 then pEls lit k1 (d + 1) true (L.map (·.2) ++ [t]) r2 else .stuck
              | o => o) := by show _ = _; rw [HQ3.out, if_neg h93]
          clear HQ3 hxw
          have HJ1 := Lib.hid hJ1
          by_cases hbad : nx = true ∧ x ≠ 44
          · obtain ⟨rfl, h44⟩ := hbad
            have HE2 : Hid (res = .err) := by show _ = _; rw [HQ4.out, if_pos ⟨rfl, h44⟩]
            clear HQ4
            go_wp2_with (fail)
            refine (scanFor_err (x := 44) HJ1.out (fun r e => h44 (by rw [HXW.out] at e; injection e))).mono ?_
            rintro e w2 ⟨v, ⟨t, a, rfl⟩, rfl, hf2, r2, hJ2⟩
            have HA2 := Lib.hid (HA1.out.keep hf2 hJ2)
            obtain ⟨s0, s1, s2, s3, sf, sl⟩ := slot_cells HA2.out.slot
            have hfz0 := sf 0
            have hfz1 := sf 1
            have hfz2 := sf 2
            have hfz3 := sf 3
            clear sf
            go_wp2
            refine array_end (HA2.out.set4 (.int .u8 0) (.string ⟨#[]⟩) (.slice none 0 0) (.slice none 0 0)) rfl rfl ?_
            intro W' _ _ hF hJ'
            exact NPost.err HE2.out ⟨_, _, rfl⟩ hF hJ'
          · rw [if_neg hbad] at HQ4
            have hnx : (nx = false) ∨ (nx = true ∧ x = 44) := by
              cases nx with
              | false => exact Or.inl rfl
              | true => exact Or.inr ⟨rfl, by by_cases e : x = 44; exact e; exact absurd ⟨rfl, e⟩ hbad⟩
            clear hbad
            have HF1 := Lib.hid hf1
            clear hf1 hJ1
            rcases hnx with rfl | ⟨rfl, rfl⟩
            · go_wp2_with (fail)
              obtain ⟨S, HQ5, HJ2⟩ : ∃ S, Hid (res = match pElem lit k1 (d + 1) S with
                | .ok t r2 => if (L.map (·.2)).length < 256 then pEls lit k1 (d + 1) true (L.map (·.2) ++ [t]) r2 else .stuck
                | o => o) ∧ Hid (JR w1 j A c D S (d + 1)) := ⟨x :: ys, HQ4, HJ1⟩
              have HA2 := HA1
              have HF2 := HF1
              clear HQ4 HA1 HJ1 HF1
              cases ho : pElem lit k1 (d + 1) S with
              | stuck => exact absurd (HQ5.out.trans (by rw [ho])) HNS.out
              | err =>
                have HE2 : Hid (res = .err) := by show _ = _; rw [HQ5.out, ho]
                refine (HEH.out k1 (by omega) _ j A c D S (d + 1) (by omega) HJ2.out (by rw [ho]; exact fun h => by cases h)).mono ?_
                rintro e w3 hP
                rw [ho] at hP
                obtain ⟨⟨v, ⟨t, a, rfl⟩, rfl⟩, hf3, r3, hJ3⟩ := hP
                unfold zeroNode
                have HA3 := Lib.hid (HA2.out.keep hf3 hJ3)
                obtain ⟨s0, s1, s2, s3, sf, sl⟩ := slot_cells HA3.out.slot
                have hfz0 := sf 0
                have hfz1 := sf 1
                have hfz2 := sf 2
                have hfz3 := sf 3
                clear sf ho HQ5 hf3 hJ3
                go_wp2
                refine array_end ((HA3.out.set4 (.int .u8 0) (.string ⟨#[]⟩) (.slice none 0 0) (.slice none 0 0)).alloc _) rfl rfl ?_
                intro W' _ _ hF hJ'
                exact NPost.err HE2.out ⟨_, _, rfl⟩ hF hJ'
              | ok t r2 =>
                have HQ6 : Hid (res = if (L.map (·.2)).length < 256 then pEls lit k1 (d + 1) true (L.map (·.2) ++ [t]) r2 else .stuck) := by show _ = _; rw [HQ5.out, ho]
                by_cases hn : L.length < 256
                · have HQ7 : Hid (pEls lit k1 (d + 1) true ((L.map (·.2)) ++ [t]) r2 = res) := by show _ = _; rw [HQ6.out, if_pos (by simpa using hn)]
                  refine (HEH.out k1 (by omega) _ j A c D S (d + 1) (by omega) HJ2.out (by rw [ho]; exact fun h => by cases h)).mono ?_
                  rintro e w3 hP
                  rw [ho] at hP
                  obtain ⟨x0, x1, x2, x3, rfl, hf3, hJ3, hnd⟩ := hP
                  obtain ⟨kd, sx, a1, n1, c1, a2, n2, c2, rfl, rfl, rfl, rfl⟩ := hnd.shape
                  have HA3 := Lib.hid (HA2.out.keep hf3 hJ3)
                  have HND := Lib.hid hnd
                  have HJ3 := Lib.hid hJ3
                  have HF3 := Lib.hid (HF2.out.trans hf3)
                  have HL := Lib.hid HF2.out.size
                  have HOWN := Lib.hid (ownsRow_alloc (ownsRow_fr HR.out.own HF3.out (by omega)) (.cells #[.int .u8 kd, .string sx, .slice a1 n1 c1, .slice a2 n2 c2] 135))
                  have HSZ : Hid (w.heap.size + 2 ≤ (w3.alloc (.cells #[.int .u8 kd, .string sx, .slice a1 n1 c1, .slice a2 n2 c2] 135)).heap.size) := by
                    show _ ≤ _; rw [World.size_alloc]; have := HA3.out.size; omega
                  clear ho HQ5 HQ6 hf3 hJ3 hnd
                  go_wp2_with (fail)
                  refine (appendElement_any HOWN.out hn HND.out.one HSZ.out).mono ?_
                  rintro e w4 ⟨v', rfl, hown', hgrow, hat⟩
                  have HR4 := Lib.hid (HR.out.push HF3.out HJ3.out HL.out HND.out _ hown' hgrow hat)
                  clear hown' hgrow hat
                  go_wp2
                  go_roundg (k1)
                  case measure => omega
                  case rel => exact ⟨_, true, r2, by show _ = _; rw [List.map_append]; exact HQ7.out, rfl, by omega, HR4.out⟩
                · exact absurd (HQ6.out.trans (by rw [if_neg (by simpa using hn)])) HNS.out
            · go_wp2_with (fail)
              refine (scanFor_ok (x := 44) HJ1.out HXW.out (by decide)).mono ?_
              rintro e w2 ⟨rfl, hf2, hJ2⟩
              have HA2 := Lib.hid (HA1.out.keep hf2 hJ2)
              have hbx2 := HA2.out.bx
              obtain ⟨S, HQ5, HJ2⟩ : ∃ S, Hid (res = match pElem lit k1 (d + 1) S with
                | .ok t r2 => if (L.map (·.2)).length < 256 then pEls lit k1 (d + 1) true (L.map (·.2) ++ [t]) r2 else .stuck
                | o => o) ∧ Hid (JR w2 j A c D S (d + 1)) := ⟨ys, HQ4, hJ2⟩
              have HF2 := Lib.hid (HF1.out.trans hf2)
              clear HQ4 HA1 HJ1 HF1 hf2 hJ2
              go_wp2_with (fail)
              cases ho : pElem lit k1 (d + 1) S with
              | stuck => exact absurd (HQ5.out.trans (by rw [ho])) HNS.out
              | err =>
                have HE2 : Hid (res = .err) := by show _ = _; rw [HQ5.out, ho]
                refine (HEH.out k1 (by omega) _ j A c D S (d + 1) (by omega) HJ2.out (by rw [ho]; exact fun h => by cases h)).mono ?_
                rintro e w3 hP
                rw [ho] at hP
                obtain ⟨⟨v, ⟨t, a, rfl⟩, rfl⟩, hf3, r3, hJ3⟩ := hP
                unfold zeroNode
                have HA3 := Lib.hid (HA2.out.keep hf3 hJ3)
                obtain ⟨s0, s1, s2, s3, sf, sl⟩ := slot_cells HA3.out.slot
                have hfz0 := sf 0
                have hfz1 := sf 1
                have hfz2 := sf 2
                have hfz3 := sf 3
                clear sf ho HQ5 hf3 hJ3
                go_wp2
                refine array_end ((HA3.out.set4 (.int .u8 0) (.string ⟨#[]⟩) (.slice none 0 0) (.slice none 0 0)).alloc _) rfl rfl ?_
                intro W' _ _ hF hJ'
                exact NPost.err HE2.out ⟨_, _, rfl⟩ hF hJ'
              | ok t r2 =>
                have HQ6 : Hid (res = if (L.map (·.2)).length < 256 then pEls lit k1 (d + 1) true (L.map (·.2) ++ [t]) r2 else .stuck) := by show _ = _; rw [HQ5.out, ho]
                by_cases hn : L.length < 256
                · have HQ7 : Hid (pEls lit k1 (d + 1) true ((L.map (·.2)) ++ [t]) r2 = res) := by show _ = _; rw [HQ6.out, if_pos (by simpa using hn)]
                  refine (HEH.out k1 (by omega) _ j A c D S (d + 1) (by omega) HJ2.out (by rw [ho]; exact fun h => by cases h)).mono ?_
                  rintro e w3 hP
                  rw [ho] at hP
                  obtain ⟨x0, x1, x2, x3, rfl, hf3, hJ3, hnd⟩ := hP
                  obtain ⟨kd, sx, a1, n1, c1, a2, n2, c2, rfl, rfl, rfl, rfl⟩ := hnd.shape
                  have HA3 := Lib.hid (HA2.out.keep hf3 hJ3)
                  have HND := Lib.hid hnd
                  have HJ3 := Lib.hid hJ3
                  have HF3 := Lib.hid (HF2.out.trans hf3)
                  have HL := Lib.hid HF2.out.size
                  have HOWN := Lib.hid (ownsRow_alloc (ownsRow_fr HR.out.own HF3.out (by omega)) (.cells #[.int .u8 kd, .string sx, .slice a1 n1 c1, .slice a2 n2 c2] 135))
                  have HSZ : Hid (w.heap.size + 2 ≤ (w3.alloc (.cells #[.int .u8 kd, .string sx, .slice a1 n1 c1, .slice a2 n2 c2] 135)).heap.size) := by
                    show _ ≤ _; rw [World.size_alloc]; have := HA3.out.size; omega
                  clear ho HQ5 HQ6 hf3 hJ3 hnd
                  go_wp2_with (fail)
                  refine (appendElement_any HOWN.out hn HND.out.one HSZ.out).mono ?_
                  rintro e w4 ⟨v', rfl, hown', hgrow, hat⟩
                  have HR4 := Lib.hid (HR.out.push HF3.out HJ3.out HL.out HND.out _ hown' hgrow hat)
                  clear hown' hgrow hat
                  go_wp2
                  go_roundg (k1)
                  case measure => omega
                  case rel => exact ⟨_, true, r2, by show _ = _; rw [List.map_append]; exact HQ7.out, rfl, by omega, HR4.out⟩
                · exact absurd (HQ6.out.trans (by rw [if_neg (by simpa using hn)])) HNS.out
      · have HS := Lib.hid (show ∀ x ys, r.dropWhile wsB = x :: ys → 127 < x.toNat from fun x ys e => by
          rcases Nat.lt_or_ge 127 x.toNat with h | h
          · exact h
          · exact absurd ⟨x, ys, e, h⟩ hpk)
        clear hpk
        have HE2 : Hid (res = .err) := by
          show _ = _
          rw [HQ2.out, pEls_succ]
          cases hd' : r.dropWhile wsB with
          | nil => rfl
          | cons x ys => simp only; rw [if_pos (HS.out x ys hd')]
        go_wp2_with (fail)
        refine (peek_err HJ.out HS.out).mono ?_
        rintro e w1 ⟨v, ⟨t, a, rfl⟩, rfl, hf1, r1, hJ1⟩
        have HA1 := Lib.hid (HR.out.st.keep hf1 hJ1)
        obtain ⟨s0, s1, s2, s3, sf, sl⟩ := slot_cells HA1.out.slot
        have hfz0 := sf 0
        have hfz1 := sf 1
        have hfz2 := sf 2
        have hfz3 := sf 3
        clear sf
        go_wp2
        refine array_end (HA1.out.set4 (.int .u8 0) (.string ⟨#[]⟩) (.slice none 0 0) (.slice none 0 0)) rfl rfl ?_
        intro W' _ _ hF hJ'
        exact NPost.err HE2.out ⟨_, _, rfl⟩ hF hJ'
end Go.Proofs.YtngifhngangpeaaGreatDoor
