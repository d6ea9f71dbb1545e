/- laws.ways: the next choice. A world that a map of one's own has grown. -/
import Derived.Test.YtjganhmbjffjfaaGreatDoorD2
import Derived.BigRegion
import Derived.Test.YtjganhmbjffjfaaGreatDoorP3
import Derived.Lib.MapLaws
import Derived.Test.YtjganhmbjffjfaaGreatDoorV1
import Derived.Maps.OwnOps
import Derived.Maps.StringElems
import Derived.Maps.Views
import Derived.Laws.Runes
import Derived.Lib.OthersKept
open Go Go.RowKit
namespace Go.Proofs.YtjganhmbjffjfaaGreatDoor
/-- Choices L in block b, at the at-th. -/
def WY (b : Nat) (L : List UInt8) (k : Nat) (w : World) : Prop :=
  ∃ lv, w.heap[b]? = some (.cells #[lv, .int .i64 k] 36 (0, 0)) ∧ BSrc w lv L ∧ ∀ ad n c, lv = .slice (some ad) n c → L ≠ [] → ad.block ≠ b
theorem WY.new (w : World) {lv : Value} {L : List UInt8} (h : BSrc w lv L) : WY w.heap.size L 0 (w.alloc (.cells #[lv, .int .i64 0] 36)) := by
  refine ⟨lv, alloc_at w _, h.stay ((Below.refl _ _).alloc (Nat.le_refl _) _), ?_⟩
  rintro ad n c rfl hne e
  rcases h with ⟨h, _⟩ | ⟨ad', cp, h, _, hc⟩
  · cases h
  · cases h
    obtain ⟨x, l, rfl⟩ := List.exists_cons_of_ne_nil hne
    have := cell_lt (hc 0 x rfl)
    rw [show (ad.add 0).block = ad.block from by unfold Addr.add; split <;> rfl] at this
    omega
def nx (L : List UInt8) (k n : Nat) : Nat := (match L[k]? with | some c => c.toNat | none => 0) % n
theorem BSrc.fr {b : Nat} {w w' : World} {v : Value} {l : List UInt8} (h : BSrc w v l) (hf : Fr b w w') (hb : ∀ ad n c, v = .slice (some ad) n c → l ≠ [] → ad.block ≠ b) : BSrc w' v l := by
  rcases h with h | ⟨ad, cp, rfl, h1, h3⟩
  · exact .inl h
  · refine .inr ⟨ad, cp, rfl, h1, fun j x hj => ?_⟩
    have hbl : (ad.add j).block = ad.block := by unfold Addr.add; split <;> rfl
    rw [hf.cell (p := ad.add j) (cell_lt (h3 j x hj)) (by rw [hbl]; exact hb _ _ _ rfl (by rintro rfl; simp at hj))]
    exact h3 j x hj
theorem WL.step {b : Nat} {k : Nat} {w : World} {lv : Value} (h : w.heap[b]? = some (.cells #[lv, .int .i64 k] 36 (0, 0))) (n : Nat) :
    ((w.drewN n).setCell ⟨b, 1, none⟩ (.int .i64 ((k : Int) + 1))).heap[b]? = some (.cells #[lv, .int .i64 ((k + 1 : Nat) : Int)] 36 (0, 0)) ∧ Fr b w ((w.drewN n).setCell ⟨b, 1, none⟩ (.int .i64 ((k : Int) + 1))) := by
  have hf : Fr b w ((w.drewN n).setCell ⟨b, 1, none⟩ (.int .i64 ((k : Int) + 1))) := ((Fr.refl b w).drewN n).setCell (.inl rfl) _
  refine ⟨?_, hf⟩
  have h' : (w.drewN n).heap[b]? = some (.cells #[lv, .int .i64 k] 36 (0, 0)) := h
  simp [World.setCell, Array.getElem?_modify, h]
set_option maxRecDepth 100000 in
set_option maxHeartbeats 4000000 in
theorem next_lv (n : Nat) (h1 : 1 ≤ n) (h2 : n ≤ 100) {b : Nat} {L : List UInt8} {k : Nat} {w : World} {lv : Value} (hb : w.heap[b]? = some (.cells #[lv, .int .i64 k] 36 (0, 0))) (hs : BSrc w lv L) (hk : k ≤ 1099511627776) :
    Calls Tryz.prog 20 #[.pointer (some ⟨b, 0, none⟩), .int .i64 n] w fun e w' => e = .returned (.int .i64 (nx L k n)) ∧ w'.heap[b]? = some (.cells #[lv, .int .i64 ((k + 1 : Nat) : Int)] 36 (0, 0)) ∧ Fr b w w' := by
  have HS := Lib.hid (WL.step hb)
  have c0 : w.cell? ⟨b, 0, none⟩ = some lv := by simp [World.cell?, hb]
  have c1 : w.cell? ⟨b, 1, none⟩ = some (.int .i64 k) := by simp [World.cell?, hb]
  have z1 : w.frozen? ⟨b, 1, none⟩ = false := by simp [World.frozen?, hb]
  have hw : IntKind.i64.wrap ((k : Int) + 1) = (k : Int) + 1 := by rw [IntKind.wrap_i64]; omega
  by_cases hlt : k < L.length
  · obtain ⟨c, hc⟩ : ∃ c, L[k]? = some c := ⟨_, List.getElem?_eq_getElem hlt⟩
    obtain ⟨r, hr⟩ : ∃ r, r = nx L k n := ⟨_, rfl⟩
    have hrv : r = c.toNat % n := by rw [hr, nx, hc]
    rcases hs with ⟨_, rfl⟩ | ⟨ad, cp, rfl, hl, hcell⟩
    · simp at hlt
    · have cc := hcell k c hc
      have hi : (k : Int) < (L.length : Int) := by omega
      have hz : (0 : Int) ≤ (k : Int) := by omega
      have hR : (((c.toNat : Nat) : Int) % (n : Int)) = (r : Int) := by rw [hrv]; omega
      have hc8 : ((c.toNat : Nat) : Int) ≤ 255 := by have := c.toNat_lt; omega
      have hc0 : (0 : Int) ≤ ((c.toNat : Nat) : Int) := by omega
      have hn1 : (1 : Int) ≤ (n : Int) := by omega
      rw [← hr]
      unfold maxLen at hl
      clear hr hrv hcell hb hc
      go_enter Tryz.func20, Tryz.ntmps20
      go_wp2_with (fail)
      go_quiet (fail)
      go_wp2_with (fail)
      go_quiet (fail)
      go_wp2_with (fail)
      go_ret
      exact ⟨congrArg (fun z => Ending.returned (.int .i64 z)) hR, (HS.out _).1, (HS.out _).2⟩
  · obtain ⟨r, hr⟩ : ∃ r, r = nx L k n := ⟨_, rfl⟩
    have hr0 : r = 0 := by rw [hr, nx, List.getElem?_eq_none (by omega)]; simp
    rw [← hr]
    subst hr0
    have hn1 : (1 : Int) ≤ (n : Int) := by omega
    have h0n : (0 : Int) % (n : Int) = 0 := by simp
    obtain ⟨ao, cp, rfl⟩ : ∃ ao cp, lv = .slice ao L.length cp := by
      rcases hs with ⟨rfl, rfl⟩ | ⟨ad, cp, rfl, _⟩
      · exact ⟨none, 0, rfl⟩
      · exact ⟨some ad, cp, rfl⟩
    have hi : ¬ (k : Int) < (L.length : Int) := by omega
    clear hr hb hs
    go_enter Tryz.func20, Tryz.ntmps20
    go_wp2_with (fail)
    go_quiet (fail)
    go_wp2_with (fail)
    go_ret
    exact ⟨rfl, (HS.out _).1, (HS.out _).2⟩
theorem next_any (n : Nat) (h1 : 1 ≤ n) (h2 : n ≤ 100) {b : Nat} {L : List UInt8} {k : Nat} {w : World} (h : WY b L k w) (hk : k ≤ 1099511627776) :
    Calls Tryz.prog 20 #[.pointer (some ⟨b, 0, none⟩), .int .i64 n] w fun e w' => e = .returned (.int .i64 (nx L k n)) ∧ WY b L (k + 1) w' ∧ Fr b w w' := by
  obtain ⟨lv, hb, hs, ha⟩ := h
  refine (next_lv n h1 h2 hb hs hk).mono ?_
  rintro e w' ⟨rfl, hb', hf⟩
  exact ⟨rfl, ⟨lv, hb', hs.fr hf ha, ha⟩, hf⟩
theorem WY.below {b : Nat} {L : List UInt8} {k : Nat} {w w' : World} (h : WY b L k w) (hb : Below w.heap.size w w') : WY b L k w' := by
  obtain ⟨lv, h1, h2, h3⟩ := h
  have hl : b < w.heap.size := by
    rcases Nat.lt_or_ge b w.heap.size with h | h
    · exact h
    · rw [Array.getElem?_eq_none h] at h1; cases h1
  exact ⟨lv, by rw [hb.block b hl]; exact h1, h2.stay hb, h3⟩
theorem grown_own {w w' : World} {b : Nat} (hg : w.grownBy w' (some b)) {B : Nat} {w0 : World} (h : Below B w0 w) (hb : B ≤ b) (hB : B ≤ w0.heap.size) : Below B w0 w' :=
  have hgb : ∀ i, i < B → w'.heap[i]? = w.heap[i]? := fun i hi => hg.block i (by have := h.size; omega) (fun e => by injection e with e; omega)
  h.trans ⟨hg.os, hg.tape, hg.output, hg.size, fun i hi => hgb i hi⟩
end Go.Proofs.YtjganhmbjffjfaaGreatDoor
