/- The frame of a call that writes one old block; the package-level variables as the program lays them. -/
import Derived.Test.YtjganhmbjffjfaaGreatDoorProg
import Derived.WalkKit
import Derived.WalkLawsBesides
import Derived.WalkSpells
import Derived.Deep.QuietTactic
import Derived.BigQuiet
import Derived.Deep.DeepFit
import Derived.Outline
import Derived.Below
import Derived.Lib.Hide
import Derived.Deep.LoopGhost
import Derived.Shelf.Unicode.DecodeSlow
import Derived.Lib.ItoaNum
import Derived.Lib.LaidTab
open Go Go.RowKit
namespace Go.Proofs.YtjganhmbjffjfaaGreatDoor

/-- All old blocks but j are as they were. -/
structure Fr (j : Nat) (w w' : World) : Prop where
  os : w'.os = w.os
  tape : w'.tape = w.tape
  output : w'.output = w.output
  size : w.heap.size ≤ w'.heap.size
  block : ∀ k, k < w.heap.size → k ≠ j → w'.heap[k]? = w.heap[k]?

theorem Fr.refl (j : Nat) (w : World) : Fr j w w := ⟨rfl, rfl, rfl, Nat.le_refl _, fun _ _ _ => rfl⟩
theorem Fr.trans {j : Nat} {a b c : World} (h : Fr j a b) (k : Fr j b c) : Fr j a c :=
  ⟨k.os.trans h.os, k.tape.trans h.tape, k.output.trans h.output, Nat.le_trans h.size k.size,
   fun i hi hj => (k.block i (Nat.lt_of_lt_of_le hi h.size) hj).trans (h.block i hi hj)⟩
theorem Fr.drew {j : Nat} {a w : World} (h : Fr j a w) : Fr j a w.drew := ⟨h.os, h.tape, h.output, h.size, h.block⟩
theorem Fr.drewN {j : Nat} {a w : World} (h : Fr j a w) (n : Nat) : Fr j a (w.drewN n) := ⟨h.os, h.tape, h.output, h.size, h.block⟩
theorem Fr.alloc {j : Nat} {a w : World} (h : Fr j a w) (o : Obj) : Fr j a (w.alloc o) :=
  ⟨h.os, h.tape, h.output, Nat.le_trans h.size (by rw [World.size_alloc]; omega), fun k hk hj => (Below.heap_alloc w o k (Nat.lt_of_lt_of_le hk h.size)).trans (h.block k hk hj)⟩
theorem World.size_setCell' (w : World) (p : Addr) (u : Value) : (w.setCell p u).heap.size = w.heap.size := by simp [World.setCell]
theorem Fr.setCell {j : Nat} {a w : World} (h : Fr j a w) {p : Addr} (hp : p.block = j ∨ a.heap.size ≤ p.block) (u : Value) : Fr j a (w.setCell p u) :=
  ⟨h.os, h.tape, h.output, by rw [World.size_setCell']; exact h.size,
   fun k hk hj => (Below.heap_setCell w p u k (by rcases hp with hp | hp <;> omega)).trans (h.block k hk hj)⟩
theorem Fr.below {j : Nat} {a w w' : World} (h : Fr j a w) (hb : Below w.heap.size w w') : Fr j a w' :=
  ⟨hb.os.trans h.os, hb.tape.trans h.tape, hb.output.trans h.output, Nat.le_trans h.size hb.size, fun k hk hj => (hb.block k (Nat.lt_of_lt_of_le hk h.size)).trans (h.block k hk hj)⟩
theorem Fr.of_below {j : Nat} {a w : World} (h : Below a.heap.size a w) : Fr j a w := (Fr.refl j a).below h
theorem Fr.toBelow {j : Nat} {a w : World} (h : Fr j a w) {B : Nat} (hj : B ≤ j) (hB : B ≤ a.heap.size) : Below B a w :=
  ⟨h.os, h.tape, h.output, h.size, fun k hk => h.block k (by omega) (by omega)⟩
theorem Fr.cell {j : Nat} {a w : World} (h : Fr j a w) {p : Addr} (hp : p.block < a.heap.size) (hj : p.block ≠ j) : w.cell? p = a.cell? p :=
  World.cell?_of_block (h.block p.block hp hj)

/-- What the package-level variables hold. -/
structure TL0 (W : World) : Prop where
  errSyntax : ∃ ev, W.cell? ⟨3, 0, none⟩ = some ev ∧ (ev = .nilIface ∨ ∃ te pe, ev = .iface te pe)
  errRange : ∃ ev, W.cell? ⟨4, 0, none⟩ = some ev ∧ (ev = .nilIface ∨ ∃ te pe, ev = .iface te pe)
  u64pow10 : ∀ k, k < 20 → W.cell? ⟨5, k, none⟩ = some (.int .u64 (10 ^ k : Nat))
  f64info0 : W.cell? ⟨11, 0, none⟩ = some (.int .u64 52)
  f64info1 : W.cell? ⟨11, 1, none⟩ = some (.int .u64 11)
  f64info2 : W.cell? ⟨11, 2, none⟩ = some (.int .i64 (-1023))
  utf8 : Lib.Utf8Tabs 0 1 W
  optimize : W.cell? ⟨10, 0, none⟩ = some (.bool true)
  u64tab : Lib.TabIs Tryz.prog W "internal/strconv.uint64pow10" .u64 Lib.pow10Tab
  f64pow10 : ∃ b o c, W.cell? ⟨14, 0, none⟩ = some (.slice (some ⟨b, o, none⟩) 23 c) ∧ W.cell? ⟨b, o + 1, none⟩ = some (.float .f64 4621819117588971520)
  t16 : W.cell? ⟨15, 728, none⟩ = some (.int .u64 10240000000000000000) ∧ W.cell? ⟨15, 729, none⟩ = some (.int .u64 0)
/-- The variables are as they were when the program began; all that they hold lies below block N. -/
def TL (N : Nat) (w : World) : Prop := ∃ W0, TL0 W0 ∧ W0.heap.size = N ∧ N ≤ w.heap.size ∧ ∀ k, k < N → w.heap[k]? = W0.heap[k]?
theorem World.lt_of_cell {w : World} {a : Addr} {v : Value} (h : w.cell? a = some v) : a.block < w.heap.size := by
  rcases Nat.lt_or_ge a.block w.heap.size with h1 | h1
  · exact h1
  · rw [World.cell?, Array.getElem?_eq_none h1] at h; cases h
theorem TL.below {N : Nat} {w w' : World} (h : TL N w) (hb : Below w.heap.size w w') : TL N w' := by
  obtain ⟨W0, h0, hN, hle, hs⟩ := h
  exact ⟨W0, h0, hN, Nat.le_trans hle hb.size, fun k hk => (hb.block k (by omega)).trans (hs k hk)⟩
theorem TL.fr {N j : Nat} {w w' : World} (h : TL N w) (hj : N ≤ j) (hf : Fr j w w') : TL N w' := by
  obtain ⟨W0, h0, hN, hle, hs⟩ := h
  exact ⟨W0, h0, hN, Nat.le_trans hle hf.size, fun k hk => (hf.block k (by omega) (by omega)).trans (hs k hk)⟩
theorem TL.drewN {N : Nat} {w : World} (h : TL N w) (n : Nat) : TL N (w.drewN n) := h
theorem TL.le {N : Nat} {w : World} (h : TL N w) : N ≤ w.heap.size := by obtain ⟨_, _, _, h, _⟩ := h; exact h
theorem TL.mono {N M : Nat} {w w' : World} (h : TL N w) (hM : N ≤ M) (hb : Below M w w') : TL N w' := by
  obtain ⟨W0, h0, hN, hle, hs⟩ := h
  exact ⟨W0, h0, hN, Nat.le_trans hle hb.size, fun k hk => (hb.block k (by omega)).trans (hs k hk)⟩
theorem TL.get {N : Nat} {w : World} (h : TL N w) : ∃ W0, TL0 W0 ∧ ∀ a v, W0.cell? a = some v → w.cell? a = some v := by
  obtain ⟨W0, h0, hN, hle, hs⟩ := h
  refine ⟨W0, h0, fun a v hv => ?_⟩
  have := World.lt_of_cell hv
  rw [← hv]
  exact World.cell?_of_block (hs _ (by omega))
theorem TL.errSyntax {N : Nat} {w : World} (h : TL N w) : ∃ ev, w.cell? ⟨3, 0, none⟩ = some ev ∧ (ev = .nilIface ∨ ∃ te pe, ev = .iface te pe) := by
  obtain ⟨W0, h0, hs⟩ := h.get; obtain ⟨ev, h1, h2⟩ := h0.errSyntax; exact ⟨ev, hs _ _ h1, h2⟩
theorem TL.utf8 {N : Nat} {w : World} (h : TL N w) : Lib.Utf8Tabs 0 1 w := by
  obtain ⟨W0, h0, hs⟩ := h.get
  exact ⟨fun c hc => hs _ _ (h0.utf8.1 c hc), fun i hi => ⟨hs _ _ (h0.utf8.2 i hi).1, hs _ _ (h0.utf8.2 i hi).2⟩⟩
theorem TL.errRange {N : Nat} {w : World} (h : TL N w) : ∃ ev, w.cell? ⟨4, 0, none⟩ = some ev ∧ (ev = .nilIface ∨ ∃ te pe, ev = .iface te pe) := by
  obtain ⟨W0, h0, hs⟩ := h.get; obtain ⟨ev, h1, h2⟩ := h0.errRange; exact ⟨ev, hs _ _ h1, h2⟩
theorem TL.tab {N : Nat} {w : World} (h : TL N w) : Lib.TabIs Tryz.prog w "internal/strconv.uint64pow10" .u64 Lib.pow10Tab := by
  obtain ⟨W0, h0, hN, hle, hs⟩ := h
  have h1 := h0.u64tab
  have hg : Tryz.prog.globalNamed "internal/strconv.uint64pow10" = some 5 := by kernel_rfl
  unfold Lib.TabIs World.var? at *
  rw [hg] at h1 ⊢
  simp only [Option.bind_some] at h1 ⊢
  have hlt : 5 < W0.heap.size := by
    rcases Nat.lt_or_ge 5 W0.heap.size with h | h
    · exact h
    · rw [Array.getElem?_eq_none h] at h1; cases h1
  rw [hs _ (by omega)]; exact h1
theorem TL.f64pow10 {N : Nat} {w : World} (h : TL N w) : ∃ b o c, w.cell? ⟨14, 0, none⟩ = some (.slice (some ⟨b, o, none⟩) 23 c) ∧ w.cell? ⟨b, o + 1, none⟩ = some (.float .f64 4621819117588971520) := by
  obtain ⟨W0, h0, hs⟩ := h.get
  obtain ⟨b, o, c, h1, h2⟩ := h0.f64pow10
  exact ⟨b, o, c, hs _ _ h1, hs _ _ h2⟩
theorem TL.t16 {N : Nat} {w : World} (h : TL N w) : w.cell? ⟨15, 728, none⟩ = some (.int .u64 10240000000000000000) ∧ w.cell? ⟨15, 729, none⟩ = some (.int .u64 0) := by
  obtain ⟨W0, h0, hs⟩ := h.get
  exact ⟨hs _ _ h0.t16.1, hs _ _ h0.t16.2⟩
theorem TL.info {N : Nat} {w : World} (h : TL N w) : w.cell? ⟨11, 0, none⟩ = some (.int .u64 52) ∧ w.cell? ⟨10, 0, none⟩ = some (.bool true) := by
  obtain ⟨W0, h0, hs⟩ := h.get
  exact ⟨hs _ _ h0.f64info0, hs _ _ h0.optimize⟩
end Go.Proofs.YtjganhmbjffjfaaGreatDoor
