/- parseEntry; bytes.Buffer.Grow at a new buffer. -/
import Derived.Test.YtngifhngangpeaaGreatDoorW1
import Derived.Test.YtngifhngangpeaaGreatDoorN8
open Go Go.RowKit
namespace Go.Proofs.YtngifhngangpeaaGreatDoor
theorem retN {w : World} {b : Nat} {x0 x1 x2 x3 u : Value} {T : TypeId} {tmps : Array Value} (h : w.heap[b]? = some (.cells #[x0, x1, x2, x3] T (0, 0))) (hp : tmps.getD 2 undef = .pointer (some ⟨b, 0, none⟩)) (hu : tmps.getD 3 undef = u) :
    (results Tryz.f65 tmps).run Tryz.prog w = .ok (.tuple #[.agg #[x0, x1, x2, x3], u]) w := by
  rw [results_cell_tmp rfl, hp, hu]
  simp only [asAddr, Sem.run_pure, Result.andThen, load4 h]
theorem entry_end {P : Ending → World → Prop} {tmps : Array Value} {w WF : World} {j : Nat} {A : Option Addr} {c : Nat} {D : List UInt8} {d : Nat} {r : List UInt8} {x0 x1 x2 x3 u : Value} (h : ES w j A c D d r x0 x1 x2 x3 WF)
    (h2 : tmps.getD 2 undef = .pointer (some ⟨w.heap.size, 0, none⟩)) (h3 : tmps.getD 3 undef = u) (hP : P (.returned (.tuple #[.agg #[x0, x1, x2, x3], u])) WF) :
    bodyPost Tryz.prog Tryz.f65 P Exit.ret { tmps := tmps, defers := [] } WF := bodyPost_ret (retN h.slot h2 h3) rfl hP
theorem pElem_ws (lit : Lit) (k d : Nat) {s r : List UInt8} {x : UInt8} (h : s.dropWhile wsB = x :: r) : pElem lit k d (x :: r) = pElem lit k d s := by
  cases k with
  | zero => rfl
  | succ k =>
    have hw : wsB x = false := dropWhile_head h
    rw [pElem_succ, pElem_succ, h, List.dropWhile_cons_of_neg (by simpa using hw)]
theorem pElem_err {lit : Lit} {k d : Nat} {s : List UInt8} (h : ∀ x r, s.dropWhile wsB = x :: r → 127 < x.toNat) (hns : pElem lit k d s ≠ .stuck) : pElem lit k d s = .err := by
  cases k with
  | zero => exact absurd (by rw [pElem]) hns
  | succ k =>
    rw [pElem_succ]
    cases hd : s.dropWhile wsB with
    | nil => rfl
    | cons x r => simp only; rw [if_pos (h x r hd)]
set_option maxRecDepth 100000 in
set_option maxHeartbeats 4000000 in
theorem entry_any (lit : Lit) (k : Nat) (HE : ElemOK lit k) {w : World} {j : Nat} {A : Option Addr} {c : Nat} {D s : List UInt8} (h : JR w j A c D s 0) (hns : pElem lit k 0 s ≠ .stuck) :
    Calls Tryz.prog 65 #[.pointer (some ⟨j, 0, none⟩)] w (NPost (pElem lit k 0 s) w j A c D 0) := by
  have HEH := Lib.hid HE
  have hjl := h.lt
  have HS0 := Lib.hid (ES.start h)
  obtain ⟨res, hres⟩ : ∃ res, res = pElem lit k 0 s := ⟨_, rfl⟩
  have HNS := Lib.hid hns
  rw [← hres]
  have HRES := Lib.hid hres
  clear hres hns HE h
  by_cases hpk : ∃ x ys, s.dropWhile wsB = x :: ys ∧ x.toNat ≤ 127
  · obtain ⟨x, ys, hx, hx7⟩ := hpk
    have HR3 : Hid (res = pElem lit k 0 (x :: ys)) := by show _ = _; rw [HRES.out, pElem_ws _ _ _ hx]
    have HX := Lib.hid hx
    clear hx
    go_enter Tryz.func65, Tryz.ntmps65
    go_wp2_with (fail)
    refine (scan_ok HS0.out.jr HX.out hx7).mono ?_
    rintro e w1 ⟨rfl, hf1, i1, hJ1, hD1⟩
    have c1 := hJ1.c1
    have f1 := hJ1.fz 1
    have hi1 := hJ1.ile
    have hlen := hJ1.len
    have hj1 := hJ1.lt
    have e1 : ((i1 + 1 : Nat) : Int) - 1 = (i1 : Int) := by omega
    have HE1 : Hid (ES w j A c D 0 (x :: ys) (.int .u8 0) (.string ⟨#[]⟩) (.slice none 0 0) (.slice none 0 0) (w1.setCell ⟨j, 1, none⟩ (.int .i64 (i1 : Int)))) :=
      HS0.out.keep (hf1.setCell (Or.inl rfl) _) ⟨i1, hJ1.set1 i1 (by omega), hD1⟩
    clear hf1 hJ1 hD1
    go_wp2_with (fail)
    refine (fun (k : ∀ W, ES w j A c D 0 (x :: ys) (.int .u8 0) (.string ⟨#[]⟩) (.slice none 0 0) (.slice none 0 0) W → Calls _ _ _ W _) => k _ HE1.out) ?_
    intro W hEW
    have HEW := Lib.hid hEW
    clear hEW HE1 c1 f1 e1 hj1
    refine (HEH.out W j A c D (x :: ys) 0 (by omega) HEW.out.jr (by rw [← HR3.out, HRES.out]; exact HNS.out)).mono ?_
    rintro e w2 hP
    rw [← HR3.out] at hP
    cases hr : res with
    | stuck => exact absurd (by rw [← HRES.out, hr]) HNS.out
    | err =>
      rw [hr] at hP
      have HE2 := Lib.hid hr
      obtain ⟨⟨v, ⟨t, a, rfl⟩, rfl⟩, hf2, r2, hJ2⟩ := hP
      unfold zeroNode
      have HE3 := Lib.hid (HEW.out.keep hf2 hJ2)
      clear hr hf2 hJ2
      obtain ⟨s0, s1, s2, s3, sf, sl⟩ := slot_cells HE3.out.slot
      have hfz0 := sf 0
      have hfz1 := sf 1
      have hfz2 := sf 2
      have hfz3 := sf 3
      clear sf
      go_wp2
      have hE := HE3.out.set4 (.int .u8 0) (.string ⟨#[]⟩) (.slice none 0 0) (.slice none 0 0)
      exact entry_end hE rfl rfl (NPost.err HE2.out ⟨_, _, rfl⟩ hE.fr hE.jr)
    | ok t2 r2 =>
      rw [hr] at hP
      obtain ⟨x0, x1, x2, x3, rfl, hf2, hJ2, hnd⟩ := hP
      obtain ⟨kd, sx, a1, n1, c1, a2, n2, c2, rfl, rfl, rfl, rfl⟩ := hnd.shape
      have HE3 := Lib.hid (HEW.out.keep hf2 hJ2)
      have HND := Lib.hid hnd
      have HE2 := Lib.hid hr
      have hsz1 := HEW.out.size
      clear hr hf2 hJ2 hnd
      obtain ⟨s0, s1, s2, s3, sf, sl⟩ := slot_cells HE3.out.slot
      have hfz0 := sf 0
      have hfz1 := sf 1
      have hfz2 := sf 2
      have hfz3 := sf 3
      clear sf
      go_wp2
      have hE := HE3.out.set4 (.int .u8 kd) (.string sx) (.slice a1 n1 c1) (.slice a2 n2 c2)
      exact entry_end hE rfl rfl (NPost.ok HE2.out hE.fr hE.jr (nd_set4 (HND.out.mono (Q := fun k => W.heap.size ≤ k) (fun k _ hp => hp)) (fun k hk => by omega) _ _ _ _ |>.mono (fun k _ hp => by have := HEW.out.fr.size; omega)))
  · have HS := Lib.hid (show ∀ x ys, s.dropWhile wsB = x :: ys → 127 < x.toNat from fun x ys e => by
      rcases Nat.lt_or_ge 127 x.toNat with h | h
      · exact h
      · exact absurd ⟨x, ys, e, h⟩ hpk)
    have HE2 : Hid (res = .err) := by show _ = _; rw [HRES.out, pElem_err HS.out HNS.out]
    clear hpk
    go_enter Tryz.func65, Tryz.ntmps65
    go_wp2_with (fail)
    refine (scan_err HS0.out.jr HS.out).mono ?_
    rintro e w1 ⟨v, ⟨t, a, rfl⟩, rfl, hf1, r1, hJ1⟩
    have HE3 := Lib.hid (HS0.out.keep hf1 hJ1)
    clear hf1 hJ1
    obtain ⟨s0, s1, s2, s3, sf, sl⟩ := slot_cells HE3.out.slot
    have hfz0 := sf 0
    have hfz1 := sf 1
    have hfz2 := sf 2
    have hfz3 := sf 3
    clear sf
    go_wp2
    have hE := HE3.out.set4 (.int .u8 0) (.string ⟨#[]⟩) (.slice none 0 0) (.slice none 0 0)
    exact entry_end hE rfl rfl (NPost.err HE2.out ⟨_, _, rfl⟩ hE.fr hE.jr)

set_option maxRecDepth 100000 in
set_option maxHeartbeats 4000000 in
theorem grow_any (B b n : Nat) (w : World) (hB : B ≤ b) (hBw : B ≤ w.heap.size) (hbk : w.heap[b]? = some (.cells #[.slice none 0 0, .int .i64 0, .int .i8 0] 87 (0, 0))) (hn : 1 ≤ n) (hl : n ≤ 4294967296) :
    Calls Tryz.prog 52 #[.pointer (some ⟨b, 0, none⟩), .int .i64 n] w fun e w' => e = .returned (.tuple #[]) ∧ WF B b w w' ∧ WB B b [] w' := by
  have HG : Hid (Calls Tryz.prog 69 #[.pointer (some ⟨b, 0, none⟩), .int .i64 n] w fun e w' => e = .returned (.int .i64 0) ∧ ∃ xs, xs.length = n ∧ Lib.IsBuffer 87 5 B b xs w' ∧ Below B w w' ∧ Lib.OthersKept 5 (some b) w w') := by
    rcases Nat.lt_or_ge 64 n with h | h
    · exact Tryz.Buffer_grow_nil_big_kept B b n 0 w hB hBw hbk h (by omega)
    · exact Tryz.Buffer_grow_nil_small_kept B b n 0 w hB hBw hbk hn h
  clear hbk
  go_enter Tryz.func52, Tryz.ntmps52
  go_wp2_with (fail)
  refine HG.out.mono ?_
  rintro e w1 ⟨rfl, xs, hxs, hbuf, hbel, hoth⟩
  obtain ⟨hBb, v, lr, hb1, hown, hne⟩ := hbuf
  obtain ⟨g, cap, cur, rfl, hg1, hg2, hg3, hg4, hg5, hg6⟩ : ∃ g cap cur, v = .slice (some ⟨g, 0, none⟩) xs.length cap ∧ B ≤ g ∧ w1.heap[g]? = some (.cells cur 5 (0, 0)) ∧ xs.length ≤ cap ∧ cap ≤ maxLen ∧ cur.size = cap * 1 ∧ True := by
    rcases hown.2 with ⟨_, h0⟩ | ⟨g, cap, cur, rfl, h1, h2, h3, h4, h5, _⟩
    · omega
    · exact ⟨g, cap, cur, rfl, h1, h2, h3, h4, h5, trivial⟩
  have c0 : w1.cell? ⟨b, 0, none⟩ = some (.slice (some ⟨g, 0, none⟩) xs.length cap) := by simp [World.cell?, hb1]
  have f0 : w1.frozen? ⟨b, 0, none⟩ = false := by simp [World.frozen?, hb1]
  have hgb : g ≠ b := by intro e; subst e; exact hne rfl
  have HWB : Hid (WB B b [] (w1.setCell ⟨b, 0, none⟩ (.slice (some ⟨g, 0, none⟩) 0 cap))) := by
    refine ⟨⟨hBb, .slice (some ⟨g, 0, none⟩) 0 cap, lr, ?_, ⟨rfl, .inr ⟨g, cap, cur, rfl, hg1, ?_, Nat.zero_le _, hg4, hg5, rfl⟩⟩, by simpa [Value.ownBlock] using hgb⟩, ?_⟩
    · have := setAt hb1 0 (.slice (some ⟨g, 0, none⟩) 0 cap)
      simpa using this
    · rw [Below.heap_setCell _ _ _ _ hgb]; exact hg2
    · rw [World.size_setCell']; exact Nat.le_trans hBw hbel.size
  have HWF : Hid (WF B b w (w1.setCell ⟨b, 0, none⟩ (.slice (some ⟨g, 0, none⟩) 0 cap))) := ⟨hbel.setCell hBb _, hoth.setCell _ rfl _⟩
  have hcap : (0 : Int) ≤ (cap : Int) := by omega
  clear hb1 hown hne hg1 hg2 hg3 hg4 hg5 hbel hoth hxs
  go_wp2

  go_end0
  exact ⟨rfl, HWF.out, HWB.out⟩
end Go.Proofs.YtngifhngangpeaaGreatDoor
