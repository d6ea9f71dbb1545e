/- impl.Transform. -/
import Derived.Test.YtngifhngangpeaaGreatDoorW3
import Derived.Recover
import Derived.Deep.RegionLaw
open Go Go.RowKit
namespace Go.Proofs.YtngifhngangpeaaGreatDoor
theorem transD_idle (p q : Addr) (w : World) :
    CallsD Tryz.prog 49 #[.pointer (some p), .pointer (some q)] .returning w fun e u' w' => e = .returned (.tuple #[]) ∧ u' = .returning ∧ w' = w := by
  refine callsD_of_wpS Tryz.func49 rfl fun c₀ cs hu => ?_
  apply wpS_seq
  apply wpS_region
  simp [wpOpsS, go_sem, recoverD, hu, Tryz.ntmps49, Exit.thenS]
  refine wpS_cond (t := false) (by simp [Act.eval, Array.replicate]) ?_
  simp only [Bool.false_eq_true, if_false]
  refine wpS_of_wp (wp_skip ?_)
  cases c₀
  simp_all [bodyPostS, results, Tryz.results49]
def TIPost (o : Out) (w : World) (e : Ending) (w' : World) : Prop :=
  match o with
  | .stuck => True
  | .err => e = .returned (.tuple #[.slice none 0 0, .bool false]) ∧ Below w.heap.size w w'
  | .ok t _ => ∃ v B, e = .returned (.tuple #[v, .bool true]) ∧ w.heap.size ≤ B ∧ w'.ownsRow B 5 1 v t.length (Lib.byteCells t) ∧ Below w.heap.size w w'
theorem ownsRow_keep {w w' : World} {R k n : Nat} {T : TypeId} {v : Value} {xs : List Value} (h : w.ownsRow R T k v n xs) (hk : ∀ i, R ≤ i → w'.heap[i]? = w.heap[i]?) : w'.ownsRow R T k v n xs := by
  refine ⟨h.1, ?_⟩
  rcases h.2 with hn | ⟨g, cap, cur, rfl, hb, hg, rest⟩
  · exact .inl hn
  · exact .inr ⟨g, cap, cur, rfl, hb, by rw [hk g hb]; exact hg, rest⟩
set_option maxRecDepth 100000 in
set_option maxHeartbeats 8000000 in
theorem implTransform_any (lit : Lit) (hL : LitOK lit) (k : Nat) {w : World} {a cp N : Nat} {D : List UInt8} (hdat : ∀ (i : Nat) (x : UInt8), D[i]? = some x → w.cell? ⟨a, i, none⟩ = some (.int .u8 x.toNat)) (ha : a < w.heap.size) (hlen : D.length ≤ 4294967296)
    (hN : TL N w) (hns : pAll lit k D ≠ .stuck) (hT : ∀ t r, pElem lit k 0 D = .ok t r → t.length ≤ 549755813888) :
    Calls Tryz.prog 36 #[.slice (some ⟨a, 0, none⟩) D.length cp] w (TIPost (pAll lit k D) w) := by
  obtain ⟨i0, hi, hz0, hz1, hz2⟩ := info_parts info_u8
  have hmf : ∀ (fn : Fn) (first cap : Array Value) (w : World), (Instr.makeFunc fn first cap).run Tryz.prog w = .ok (.func fn first cap) w := fun _ _ _ _ => rfl
  have HDAT := Lib.hid hdat
  have HTL := Lib.hid hN
  have HNS := Lib.hid hns
  have HT := Lib.hid hT
  have HL := Lib.hid hL
  obtain ⟨W3, hW3⟩ : ∃ W3, W3 = ((w.alloc (.cells #[.slice none 0 0] 22)).alloc (.cells #[.bool false] 4)).alloc (.cells #[] 5) := ⟨_, rfl⟩
  have hs3 : W3.heap.size = w.heap.size + 3 := by rw [hW3, World.size_alloc, World.size_alloc, World.size_alloc]
  have hB3 : Below w.heap.size w W3 := by rw [hW3]; exact (((Below.refl _ _).alloc (Nat.le_refl _) _).alloc (by rw [World.size_alloc]; omega) _).alloc (by rw [World.size_alloc, World.size_alloc]; omega) _
  have HOWN : Hid (W3.ownsRow (w.heap.size + 2) 5 1 (.slice (some ⟨w.heap.size + 2, 0, none⟩) 0 0) 0 []) := by
    refine ⟨rfl, .inr ⟨w.heap.size + 2, 0, #[], rfl, Nat.le_refl _, ?_, Nat.le_refl _, by decide, rfl, rfl⟩⟩
    have := alloc_at ((w.alloc (.cells #[.slice none 0 0] 22)).alloc (.cells #[.bool false] 4)) (.cells #[] 5)
    rw [World.size_alloc, World.size_alloc] at this
    rw [hW3]; exact this
  have HNEW : Hid (∀ (j : Nat) (u : Value), (Lib.byteCells D)[j]? = some u → W3.cell? ((⟨a, 0, none⟩ : Addr).add j) = some u) := by
    intro j u hu
    rw [addrAdd, Nat.zero_add, hB3.cell (p := ⟨a, j, none⟩) ha]
    rw [Lib.byteCells, List.getElem?_map] at hu
    cases e : D[j]? with
    | none => rw [e] at hu; cases hu
    | some y => rw [e] at hu; cases hu; exact hdat j y e
  have HR1 : Hid (W3.heap[w.heap.size]? = some (.cells #[.slice none 0 0] 22 (0, 0)) ∧ W3.heap[w.heap.size + 1]? = some (.cells #[.bool false] 4 (0, 0))) := by
    refine ⟨?_, ?_⟩
    · have := alloc_at w (.cells #[.slice none 0 0] 22)
      rw [hW3, Below.heap_alloc _ _ _ (by rw [World.size_alloc, World.size_alloc]; omega), Below.heap_alloc _ _ _ (by rw [World.size_alloc]; omega)]; exact this
    · have := alloc_at (w.alloc (.cells #[.slice none 0 0] 22)) (.cells #[.bool false] 4)
      rw [World.size_alloc] at this
      rw [hW3, Below.heap_alloc _ _ _ (by rw [World.size_alloc, World.size_alloc]; omega)]; exact this
  have HB3 := Lib.hid hB3
  have HW3 := Lib.hid hW3
  clear hdat hN hns hT hL hW3 hB3
  go_enter_defers Tryz.func36, Tryz.ntmps36
  go_wp2_with (at_builtin; rw [← HW3.out]; refine wpList_append_own_at _ rfl _ _ 22 rfl (w.heap.size + 2) 5 i0 (.int .u8 0) 1 1 Tryz.underlying22 hi hz0 hz1 hz2 rfl (by decide) _ _ _ rfl HOWN.out ⟨a, 0, none⟩ D.length cp (Lib.byteCells D) rfl (by rw [byteCells_length, Nat.mul_one]) HNEW.out (byte_one D) (by unfold maxLen; omega) (by omega) (by omega) ?_)
  intro v' w4 hown hgr hnil hat
  obtain ⟨g, cap, cur, rfl, hg1, hg2, hg3, hg4⟩ : ∃ g cap cur, v' = .slice (some ⟨g, 0, none⟩) D.length cap ∧ w.heap.size + 2 ≤ g ∧ w4.heap[g]? = some (.cells cur 5 (0, 0)) ∧ D.length ≤ cap ∧ cap ≤ maxLen := by
    rcases hown.2 with ⟨rfl, _⟩ | ⟨g, cap, cur, rfl, h1, h2, h3, h4, _⟩
    · exact absurd rfl hnil
    · exact ⟨g, cap, cur, rfl, h1, h2, h3, h4⟩
  have hB4 : Below (w.heap.size + 2) W3 w4 := ⟨hgr.os, hgr.tape, hgr.output, hgr.size, fun k hk => hgr.block k (by rw [hs3]; omega) (fun e => by simp [Value.ownBlock] at e; omega)⟩
  have hBw : Below w.heap.size w w4 := HB3.out.trans (hB4.mono (by omega))
  have HBW := Lib.hid hBw
  have hgl : g < w4.heap.size := by
    rcases Nat.lt_or_ge g w4.heap.size with h | h
    · exact h
    · rw [Array.getElem?_eq_none h] at hg2; cases hg2
  have hs4 : w.heap.size + 3 ≤ w4.heap.size := by have := hgr.size; omega
  have HD4 : Hid (∀ (i : Nat) (x : UInt8), D[i]? = some x → w4.cell? ⟨g, i, none⟩ = some (.int .u8 x.toNat)) := by
    intro i x hx
    have := hown.cells (g := g) rfl i (.int .u8 x.toNat) (by rw [Lib.byteCells, List.getElem?_map, hx]; rfl)
    rw [addrAdd, Nat.zero_add] at this; exact this
  have HR4 : Hid (w4.heap[w.heap.size]? = some (.cells #[.slice none 0 0] 22 (0, 0)) ∧ w4.heap[w.heap.size + 1]? = some (.cells #[.bool false] 4 (0, 0))) :=
    ⟨by rw [hB4.block _ (by omega)]; exact HR1.out.1, by rw [hB4.block _ (by omega)]; exact HR1.out.2⟩
  have hN4 : ∃ N, TL N w4 := ⟨N, HTL.out.mono HTL.out.le hBw⟩
  obtain ⟨N4, hN4⟩ := hN4
  have HTL4 := Lib.hid hN4
  unfold maxLen at hg4
  clear hown hgr hnil hat hg2 hB4 hBw hN4 HR1 HB3 HOWN HNEW HW3
  go_wp2_with (fail)
  refine (transform_any lit HL.out k HD4.out hgl hlen ⟨hg3, hg4⟩ HTL4.out HNS.out HT.out).mono ?_
  rintro e w5 hP
  cases ho : pAll lit k D with
  | stuck => exact absurd ho HNS.out
  | err =>
    rw [ho] at hP
    obtain ⟨⟨v, ⟨tt, aa, rfl⟩, rfl⟩, hb5⟩ := hP
    have HB5 := Lib.hid (HBW.out.trans (hb5.mono (by omega)))
    have HR5 : Hid (w5.heap[w.heap.size]? = some (.cells #[.slice none 0 0] 22 (0, 0)) ∧ w5.heap[w.heap.size + 1]? = some (.cells #[.bool false] 4 (0, 0))) := ⟨by rw [hb5.block _ (by omega)]; exact HR4.out.1, by rw [hb5.block _ (by omega)]; exact HR4.out.2⟩
    have r0 : w5.cell? ⟨w.heap.size, 0, none⟩ = some (.slice none 0 0) := by simp [World.cell?, HR5.out.1]
    have r1 : w5.cell? ⟨w.heap.size + 1, 0, none⟩ = some (.bool false) := by simp [World.cell?, HR5.out.2]
    have z0 : w5.frozen? ⟨w.heap.size, 0, none⟩ = false := by simp [World.frozen?, HR5.out.1]
    have z1 : w5.frozen? ⟨w.heap.size + 1, 0, none⟩ = false := by simp [World.frozen?, HR5.out.2]
    have HO := Lib.hid ho
    clear ho hb5
    go_wp2_with (fail)
    go_region
    go_wp2
    refine leaves_cons (f := 49) (args := #[.pointer (some ⟨w.heap.size, 0, none⟩), .pointer (some ⟨w.heap.size + 1, 0, none⟩)]) (by simp) (by simp [go_sem]) ?_
    refine (transD_idle _ _ _).mono ?_
    rintro e u' w9 ⟨rfl, rfl, rfl⟩
    simp [Leaves, settle, results, Tryz.results36, go_sem, r0, r1]
    have HP : TIPost .err w (.returned (.tuple #[.slice none 0 0, .bool false])) (((w5.setCell ⟨w.heap.size, 0, none⟩ (.slice none 0 0)).setCell ⟨w.heap.size, 0, none⟩ (.slice none 0 0)).setCell ⟨w.heap.size + 1, 0, none⟩ (.bool false)).drew :=
      ⟨rfl, (((HB5.out.setCell (Nat.le_refl _) _).setCell (Nat.le_refl _) _).setCell (Nat.le_succ _) _).drew⟩
    rw [← HO.out] at HP
    exact HP
  | ok t r =>
    rw [ho] at hP
    obtain ⟨v, B, rfl, hB, hown5, hb5⟩ := hP
    have HB5 := Lib.hid (HBW.out.trans (hb5.mono (by omega)))
    have HR5 : Hid (w5.heap[w.heap.size]? = some (.cells #[.slice none 0 0] 22 (0, 0)) ∧ w5.heap[w.heap.size + 1]? = some (.cells #[.bool false] 4 (0, 0))) := ⟨by rw [hb5.block _ (by omega)]; exact HR4.out.1, by rw [hb5.block _ (by omega)]; exact HR4.out.2⟩
    have r0 : w5.cell? ⟨w.heap.size, 0, none⟩ = some (.slice none 0 0) := by simp [World.cell?, HR5.out.1]
    have r1 : w5.cell? ⟨w.heap.size + 1, 0, none⟩ = some (.bool false) := by simp [World.cell?, HR5.out.2]
    have z0 : w5.frozen? ⟨w.heap.size, 0, none⟩ = false := by simp [World.frozen?, HR5.out.1]
    have z1 : w5.frozen? ⟨w.heap.size + 1, 0, none⟩ = false := by simp [World.frozen?, HR5.out.2]
    have HOW := Lib.hid hown5
    have HO := Lib.hid ho
    have hBw : w.heap.size + 2 ≤ B := by omega
    obtain ⟨aa, cc, rfl, _⟩ := ownsRow.slice hown5
    clear ho hb5 hown5
    go_wp2_with (fail)
    go_region
    go_wp2
    refine leaves_cons (f := 49) (args := #[.pointer (some ⟨w.heap.size, 0, none⟩), .pointer (some ⟨w.heap.size + 1, 0, none⟩)]) (by simp) (by simp [go_sem]) ?_
    refine (transD_idle _ _ _).mono ?_
    rintro e u' w9 ⟨rfl, rfl, rfl⟩
    simp [Leaves, settle, results, Tryz.results36, go_sem, r0, r1]
    have hkeep : ∀ k, B ≤ k → (((w5.setCell ⟨w.heap.size, 0, none⟩ (.slice aa t.length cc)).setCell ⟨w.heap.size, 0, none⟩ (.slice aa t.length cc)).setCell ⟨w.heap.size + 1, 0, none⟩ (.bool true)).drew.heap[k]? = w5.heap[k]? := fun k hk =>
      (Below.heap_setCell _ _ _ _ (by simp only; omega)).trans ((Below.heap_setCell _ _ _ _ (by simp only; omega)).trans (Below.heap_setCell _ _ _ _ (by simp only; omega)))
    have HP : TIPost (.ok t r) w (.returned (.tuple #[.slice aa t.length cc, .bool true])) (((w5.setCell ⟨w.heap.size, 0, none⟩ (.slice aa t.length cc)).setCell ⟨w.heap.size, 0, none⟩ (.slice aa t.length cc)).setCell ⟨w.heap.size + 1, 0, none⟩ (.bool true)).drew :=
      ⟨_, B, rfl, by omega, ownsRow_keep HOW.out hkeep, (((HB5.out.setCell (Nat.le_refl _) _).setCell (Nat.le_refl _) _).setCell (Nat.le_succ _) _).drew⟩
    rw [← HO.out] at HP
    exact HP
end Go.Proofs.YtngifhngangpeaaGreatDoor
