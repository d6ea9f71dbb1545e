/- jcs.Transform. -/
import Derived.Test.YtngifhngangpeaaGreatDoorW2
import Derived.Deep.QuietTactic
import Derived.BigQuiet
import Derived.Lib.BufferMore
open Go Go.RowKit
namespace Go.Proofs.YtngifhngangpeaaGreatDoor
theorem quiet_left' {P : Program} {f : FuncId} {args : Array Value} {w : World} {a n : Nat} {v : Value} (h : Calls P f args (w.drewN (a + n)) fun e w' => e = .returned v ∧ w.drewN (a + n) = w') :
    Calls P f args (w.drewN (a + n)) fun e w'' => e = .returned v ∧ ∃ m, w'' = w.drewN (a + m) := h.mono fun _ _ ⟨he, hm⟩ => ⟨he, n, hm.symm⟩
theorem belowN {B : Nat} {a w : World} (h : Below B a w) (n : Nat) : Below B a (w.drewN n) := ⟨h.os, h.tape, h.output, h.size, h.block⟩
/-- What Transform comes to. -/
def TPost (o : Out) (w : World) (e : Ending) (w' : World) : Prop :=
  match o with
  | .stuck => True
  | .err => (∃ v, IsErr v ∧ e = .returned (.tuple #[.slice none 0 0, v])) ∧ Below w.heap.size w w'
  | .ok t _ => ∃ v B, e = .returned (.tuple #[v, .nilIface]) ∧ w.heap.size ≤ B ∧ w'.ownsRow B 5 1 v t.length (Lib.byteCells t) ∧ Below w.heap.size w w'
theorem TPost.no {o : Out} {w w' : World} {v : Value} (ho : o = .err) (hv : IsErr v) (hb : Below w.heap.size w w') : TPost o w (.returned (.tuple #[.slice none 0 0, v])) w' := by subst ho; exact ⟨⟨v, hv, rfl⟩, hb⟩
theorem TPost.yes {o : Out} {w w' : World} {v : Value} {B : Nat} {t r : List UInt8} (ho : o = .ok t r) (hB : w.heap.size ≤ B) (hw : w'.ownsRow B 5 1 v t.length (Lib.byteCells t)) (hb : Below w.heap.size w w') : TPost o w (.returned (.tuple #[v, .nilIface])) w' := by
  subst ho; exact ⟨v, B, rfl, hB, hw, hb⟩
/-- The reader as Transform makes it. -/
theorem start_jr {w : World} {a cp N : Nat} {D : List UInt8} (hdat : ∀ (i : Nat) (x : UInt8), D[i]? = some x → w.cell? ⟨a, i, none⟩ = some (.int .u8 x.toNat)) (ha : a < w.heap.size) (hlen : D.length ≤ 4294967296) (hcap : D.length ≤ cp ∧ cp ≤ 9223372036854775807) (hN : TL N w) :
    JR (w.alloc (.cells #[.slice (some ⟨a, 0, none⟩) D.length cp, .int .i64 0, .int .i64 0] 129)) w.heap.size (some ⟨a, 0, none⟩) cp D D 0 := by
  have hb : Below w.heap.size w (w.alloc (.cells #[.slice (some ⟨a, 0, none⟩) D.length cp, .int .i64 0, .int .i64 0] 129)) := (Below.refl _ _).alloc (Nat.le_refl _) _
  refine ⟨0, ⟨⟨_, alloc_at _ _⟩, fun i x hx => ⟨a, 0, rfl, by omega, by rw [World.size_alloc]; omega, ?_⟩, hlen, hcap, Nat.zero_le _, Nat.zero_le _, N, hN.le, hN.below hb⟩, rfl⟩
  rw [Nat.zero_add, hb.cell (p := ⟨a, i, none⟩) ha]; exact hdat i x hx
theorem nd_min {P : Nat → Prop} {w : World} {v : List Value} {t : List UInt8} (h : ND P w v t) : ND (fun k => k < w.heap.size) w v t := h.mono (fun _ hk _ => hk)
set_option maxRecDepth 100000 in
set_option maxHeartbeats 8000000 in
theorem transform_any (lit : Lit) (hL : LitOK lit) (k : Nat) {w : World} {a cp N : Nat} {D : List UInt8} (hdat : ∀ (i : Nat) (x : UInt8), D[i]? = some x → w.cell? ⟨a, i, none⟩ = some (.int .u8 x.toNat)) (ha : a < w.heap.size) (hlen : D.length ≤ 4294967296)
    (hcap : D.length ≤ cp ∧ cp ≤ 9223372036854775807) (hN : TL N w) (hns : pAll lit k D ≠ .stuck) (hT : ∀ t r, pElem lit k 0 D = .ok t r → t.length ≤ 549755813888) :
    Calls Tryz.prog 50 #[.slice (some ⟨a, 0, none⟩) D.length cp] w (TPost (pAll lit k D) w) := by
  have HJ0 := Lib.hid (start_jr hdat ha hlen hcap hN)
  have HE := Lib.hid (elem_all lit hL k)
  obtain ⟨res, hres⟩ : ∃ res, res = pAll lit k D := ⟨_, rfl⟩
  rw [← hres] at hns ⊢
  have HRES := Lib.hid hres
  have HNS := Lib.hid hns
  have HT := Lib.hid hT
  have hB0 : Below w.heap.size w (w.alloc (.cells #[.slice (some ⟨a, 0, none⟩) D.length cp, .int .i64 0, .int .i64 0] 129)) := (Below.refl _ _).alloc (Nat.le_refl _) _
  have HB0 := Lib.hid hB0
  have hne : pElem lit k 0 D ≠ .stuck := by
    intro e; apply HNS.out; rw [HRES.out, pAll, e]
  have HNE := Lib.hid hne
  have hlen1 : D.length ≤ 140737488355328 := by omega
  clear hdat hN hres hns hT hB0 hne hL
  have hnil := fun w => Lib.run_eql_slice_some_nil (P := Tryz.prog) w (t := 22) (e := 5) ⟨a, 0, none⟩ D.length cp Tryz.underlying22
  go_enter Tryz.func50, Tryz.ntmps50
  go_wp2_with (fail)
  refine (entry_any lit k HE.out HJ0.out HNE.out).mono ?_
  rintro e w1 hP
  cases ho : pElem lit k 0 D with
  | stuck => exact absurd ho HNE.out
  | err =>
    rw [ho] at hP
    have HE2 : Hid (res = .err) := by show _ = _; rw [HRES.out, pAll, ho]
    obtain ⟨⟨v, ⟨t, a', rfl⟩, rfl⟩, hf1, r1, hJ1⟩ := hP
    unfold zeroNode
    have hBB : Below w.heap.size w w1 := HB0.out.trans (hf1.toBelow (Nat.le_refl _) (by rw [World.size_alloc]; omega))
    have HBB := Lib.hid (hBB.alloc hBB.size (.cells #[.int .u8 0, .string ⟨#[]⟩, .slice none 0 0, .slice none 0 0] 135))
    clear ho hf1 hJ1 hBB
    go_wp2
    go_ret2
    exact TPost.no HE2.out ⟨_, _, rfl⟩ HBB.out
  | ok t r =>
    rw [ho] at hP
    obtain ⟨x0, x1, x2, x3, rfl, hf1, hJ1, hnd⟩ := hP
    obtain ⟨kd, sx, a1, n1, c1, a2, n2, c2, rfl, rfl, rfl, rfl⟩ := hnd.shape
    have HR2 : Hid (res = if r.all wsB = true then .ok t [] else .err) := by show _ = _; rw [HRES.out, pAll, ho]
    have HTL : Hid (t.length ≤ 549755813888) := HT.out t r ho
    have hBB : Below w.heap.size w w1 := HB0.out.trans (hf1.toBelow (Nat.le_refl _) (by rw [World.size_alloc]; omega))
    have hD1 : 1 ≤ D.length := by
      cases D with
      | nil => exact absurd ho (by cases k with | zero => rw [pElem]; exact fun h => by cases h | succ k => rw [pElem_succ]; exact fun h => by cases h)
      | cons x D => simp
    have hs1 : w.heap.size < w1.heap.size := by have := hf1.size; rw [World.size_alloc] at this; omega
    have HW2 : Hid (Below w.heap.size w (w1.alloc (.cells #[.int .u8 kd, .string sx, .slice a1 n1 c1, .slice a2 n2 c2] 135)) ∧ JR (w1.alloc (.cells #[.int .u8 kd, .string sx, .slice a1 n1 c1, .slice a2 n2 c2] 135)) w.heap.size (some ⟨a, 0, none⟩) cp D r 0 ∧
        (w1.alloc (.cells #[.int .u8 kd, .string sx, .slice a1 n1 c1, .slice a2 n2 c2] 135)).heap[w1.heap.size]? = some (.cells #[.int .u8 kd, .string sx, .slice a1 n1 c1, .slice a2 n2 c2] 135 (0, 0)) ∧
        ND (fun k => w.heap.size + 1 ≤ k) (w1.alloc (.cells #[.int .u8 kd, .string sx, .slice a1 n1 c1, .slice a2 n2 c2] 135)) [.int .u8 kd, .string sx, .slice a1 n1 c1, .slice a2 n2 c2] t) :=
      ⟨hBB.alloc hBB.size _, hJ1.below ((Below.refl _ _).alloc (Nat.le_refl _) _), alloc_at _ _, (hnd.mono (Q := fun k => w.heap.size + 1 ≤ k) (fun k _ hp => by rw [World.size_alloc] at hp; omega)).stay ((Below.refl _ _).alloc (Nat.le_refl _) _)⟩
    clear ho hf1 hJ1 hBB hnd
    go_wp2_with (fail)
    have hJL : w.heap.size < w.heap.size + 1 := Nat.lt_succ_self _
    go_loopg [2] (r.length + 1) (fun kq v2 wr => ∃ rest, rest.length < kq ∧ Hid (r.all wsB = rest.all wsB) ∧ JR wr w.heap.size (some ⟨a, 0, none⟩) cp D rest 0 ∧ Hid (Fr w.heap.size (w1.alloc (.cells #[.int .u8 kd, .string sx, .slice a1 n1 c1, .slice a2 n2 c2] 135)) wr))
    case atStart => exact ⟨r, Nat.lt_succ_self _, rfl, HW2.out.2.1, Fr.refl _ _⟩
    case round =>
      obtain ⟨rest, hkq, HALL, hJ, HFR⟩ := hrel
      have HJ := Lib.hid hJ
      obtain ⟨i, hJw, hDi⟩ := hJ
      have c0 := hJw.c0
      have c1' := hJw.c1
      have f1 := hJw.fz 1
      have hile := hJw.ile
      cases rest with
      | nil =>
        have hge : ¬ i < D.length := by
          have := congrArg List.length hDi; simp at this; omega
        have hge2 : D.length ≤ i := by omega
        have HR3 : Hid (res = .ok t []) := by show _ = _; rw [HR2.out, HALL.out]; rfl
        clear hJw hDi
        have hfs := HFR.out.size
        rw [World.size_alloc] at hfs
        have hBW : Below w.heap.size w wr := HW2.out.1.trans (HFR.out.toBelow (Nat.le_refl _) (by rw [World.size_alloc]; omega))
        have HBW := Lib.hid hBW
        have HROOT : Hid (wr.heap[w1.heap.size]? = some (.cells #[.int .u8 kd, .string sx, .slice a1 n1 c1, .slice a2 n2 c2] 135 (0, 0))) := by
          show _ = _
          rw [HFR.out.block _ (by rw [World.size_alloc]; omega) (by omega)]; exact HW2.out.2.2.1
        have HNDR : Hid (ND (fun k => k < wr.heap.size) wr [.int .u8 kd, .string sx, .slice a1 n1 c1, .slice a2 n2 c2] t) := nd_min (HW2.out.2.2.2.fr HFR.out (fun k hk => by omega))
        have hwr : w.heap.size < wr.heap.size := by omega
        have hwr2 : w1.heap.size < wr.heap.size := by omega
        clear hBW hfs HW2 HFR HJ
        go_wp2
        go_quiet (fail)
        go_wp2_with (fail)
        refine (grow_any wr.heap.size wr.heap.size D.length _ (Nat.le_refl _) (by rw [World.size_alloc]; exact Nat.le_succ _) (alloc_at (wr.drewN _) _) hD1 hlen).mono ?_
        rintro e w5 ⟨rfl, hF5, hW5⟩
        have hB5 : Below wr.heap.size wr w5 := ((belowN (Below.refl _ _) _).alloc (Nat.le_refl _) _).trans hF5.1
        have HB5 := Lib.hid hB5
        have HW5 := Lib.hid hW5
        have HND5 : Hid (ND (fun k => k < wr.heap.size) w5 [.int .u8 kd, .string sx, .slice a1 n1 c1, .slice a2 n2 c2] t) := HNDR.out.stay hB5
        have HROOT5 : Hid (w5.heap[w1.heap.size]? = some (.cells #[.int .u8 kd, .string sx, .slice a1 n1 c1, .slice a2 n2 c2] 135 (0, 0))) := by show _ = _; rw [hB5.block _ hwr2]; exact HROOT.out
        clear hF5 hW5 hB5
        obtain ⟨s0, s1, s2, s3, sf, sl⟩ := slot_cells HROOT5.out
        clear sf
        go_wp2_with (fail)
        refine (node_written wr.heap.size wr.heap.size w5 _ HND5.out w5 [] (Below.refl _ _) HW5.out (by have := HTL.out; simp; omega)).mono ?_
        rintro e w6 ⟨rfl, hF6, hW6⟩
        rw [List.nil_append] at hW6
        have HB6 := Lib.hid (HB5.out.trans hF6.1)
        have HW6 := Lib.hid hW6
        clear hF6 hW6 s0 s1 s2 s3
        go_wp2_with (fail)
        refine (Tryz.Buffer_Bytes wr.heap.size wr.heap.size (Lib.byteCells t) w6 HW6.out.1).mono ?_
        rintro e w7 ⟨v, rfl, hown, q, rfl⟩
        have HOWN := Lib.hid hown
        obtain ⟨aa, cc, rfl, _⟩ := ownsRow.slice hown
        rw [byteCells_length] at HOWN ⊢
        clear hown
        go_wp2
        go_ret2
        exact TPost.yes HR3.out (Nat.le_of_lt hwr) HOWN.out (belowN (HBW.out.trans (HB6.out.mono (Nat.le_of_lt hwr))) _)
      | cons x ys =>
        have hlt : i < D.length := by
          have := congrArg List.length hDi; simp at this; omega
        have hx := (drop_cons hDi).1
        have hcell : wr.cell? ⟨a, i, none⟩ = some (.int .u8 x.toNat) := by
          obtain ⟨b', off', e, _, _, h3⟩ := hJw.dat i x hx
          cases e; rw [Nat.zero_add] at h3; exact h3
        have HJX := Lib.hid hJw
        have HDX := Lib.hid (drop_cons hDi).2
        have hfs := HFR.out.size
        rw [World.size_alloc] at hfs
        have hBW : Below w.heap.size w wr := HW2.out.1.trans (HFR.out.toBelow (Nat.le_refl _) (by rw [World.size_alloc]; omega))
        have HBW := Lib.hid hBW
        have hwr : w.heap.size < wr.heap.size := by omega
        have e1 : ((i + 1 : Nat) : Int) = (i : Int) + 1 := by omega
        have HNXT : Hid (∀ q, JR ((wr.drewN q).setCell ⟨w.heap.size, 1, none⟩ (.int .i64 ((i : Int) + 1))) w.heap.size (some ⟨a, 0, none⟩) cp D ys 0 ∧ Fr w.heap.size (w1.alloc (.cells #[.int .u8 kd, .string sx, .slice a1 n1 c1, .slice a2 n2 c2] 135)) ((wr.drewN q).setCell ⟨w.heap.size, 1, none⟩ (.int .i64 ((i : Int) + 1)))) := fun q => by
          have h2 := (HJX.out.drewN q).set1 (i + 1) hlt
          rw [e1] at h2
          exact ⟨⟨i + 1, h2, HDX.out⟩, (HFR.out.drewN q).setCell (Or.inl rfl) _⟩
        clear hJw hDi hx hBW e1 HFR HJ
        go_wp2
        go_quiet (fail)
        go_wp2_with (fail)
        go_quiet ((go_at_call 66; exact quiet_left' (isWs_any _ _ _)))
        go_wp2_with (fail)
        · have hw : wsB x = false := by simpa using ‹(!wsB x) = true›
          have HE2 : Hid (res = .err) := by show _ = _; rw [HR2.out, HALL.out]; simp [hw]
          refine (errorsNew_any _ _).mono ?_
          rintro e w9 ⟨rfl, rfl⟩
          go_wp2
          first | go_ret2 | (rw [Exit.noGoto_ret]; go_ret2)
          exact TPost.no HE2.out ⟨_, _, rfl⟩ ((belowN HBW.out _).alloc (Nat.le_of_lt hwr) _)
        · have hw : wsB x = true := by simpa using ‹(!wsB x) = false›
          have HALL2 : Hid (r.all wsB = ys.all wsB) := by show _ = _; rw [HALL.out]; simp [hw]
          go_roundg (ys.length + 1)
          case measure => simp at hkq; omega
          case rel => exact ⟨ys, Nat.lt_succ_self _, HALL2.out, (HNXT.out _).1, (HNXT.out _).2⟩
end Go.Proofs.YtngifhngangpeaaGreatDoor
