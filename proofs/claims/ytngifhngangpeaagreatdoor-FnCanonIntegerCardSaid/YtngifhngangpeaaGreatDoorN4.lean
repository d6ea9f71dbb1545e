/- The reader inside a list or an object: the state, the door (the deferred closure), what reading a node comes to. -/
import Derived.Test.YtngifhngangpeaaGreatDoorN3
import Derived.Defers
import Derived.Deep.LoopGhost
import Derived.Laws.ResultCell
open Go Go.RowKit
namespace Go.Proofs.YtngifhngangpeaaGreatDoor

theorem ND.shape {P : Nat → Prop} {w : World} {x0 x1 x2 x3 : Value} {t : List UInt8} (h : ND P w [x0, x1, x2, x3] t) :
    ∃ (kd : Int) (s : ByteArray) (a1 : Option Addr) (n1 c1 : Nat) (a2 : Option Addr) (n2 c2 : Nat), x0 = .int .u8 kd ∧ x1 = .string s ∧ x2 = .slice a1 n1 c1 ∧ x3 = .slice a2 n2 c2 := by
  cases h <;> exact ⟨_, _, _, _, _, _, _, _, rfl, rfl, rfl, rfl⟩
/-- What reading a node comes to. -/
def NPost (o : Out) (w : World) (j : Nat) (A : Option Addr) (c : Nat) (D : List UInt8) (d : Nat) (e : Ending) (w' : World) : Prop :=
  match o with
  | .stuck => True
  | .err => NodeErr w j A c D d e w'
  | .ok t r => ∃ x0 x1 x2 x3, e = .returned (.tuple #[.agg #[x0, x1, x2, x3], .nilIface]) ∧ Fr j w w' ∧ JR w' j A c D r d ∧ ND (fun k => w.heap.size ≤ k) w' [x0, x1, x2, x3] t
theorem NPost.err {o : Out} {w w' : World} {j : Nat} {A : Option Addr} {c : Nat} {D : List UInt8} {d : Nat} {v : Value} (ho : o = .err) (hv : IsErr v) (hf : Fr j w w') {r : List UInt8} (hJ : JR w' j A c D r d) :
    NPost o w j A c D d (.returned (.tuple #[zeroNode, v])) w' := by subst ho; exact ⟨⟨v, hv, rfl⟩, hf, r, hJ⟩
theorem NPost.ok {o : Out} {w w' : World} {j : Nat} {A : Option Addr} {c : Nat} {D t r : List UInt8} {d : Nat} {x0 x1 x2 x3 : Value} (ho : o = .ok t r) (hf : Fr j w w') (hJ : JR w' j A c D r d) (hn : ND (fun k => w.heap.size ≤ k) w' [x0, x1, x2, x3] t) :
    NPost o w j A c D d (.returned (.tuple #[.agg #[x0, x1, x2, x3], .nilIface])) w' := by subst ho; exact ⟨x0, x1, x2, x3, rfl, hf, hJ, hn⟩
def ElemOK (lit : Lit) (k : Nat) : Prop := ∀ (w : World) (j : Nat) (A : Option Addr) (c : Nat) (D s : List UInt8) (d : Nat), d ≤ 10000 → JR w j A c D s d → pElem lit k d s ≠ .stuck →
  Calls Tryz.prog 79 #[.pointer (some ⟨j, 0, none⟩)] w (NPost (pElem lit k d s) w j A c D d)
def arrOut (lit : Lit) (k d : Nat) (s : List UInt8) : Out := if 10000 < d + 1 then .err else pEls lit k (d + 1) false [] s
def objOut (lit : Lit) (k d : Nat) (s : List UInt8) : Out := if 10000 < d + 1 then .err else pMems lit k (d + 1) false [] s
def ArrOK (lit : Lit) (k : Nat) : Prop := ∀ (w : World) (j : Nat) (A : Option Addr) (c : Nat) (D s : List UInt8) (d : Nat), d ≤ 10000 → JR w j A c D s d → arrOut lit k d s ≠ .stuck →
  Calls Tryz.prog 97 #[.pointer (some ⟨j, 0, none⟩)] w (NPost (arrOut lit k d s) w j A c D d)
def ObjOK (lit : Lit) (k : Nat) : Prop := ∀ (w : World) (j : Nat) (A : Option Addr) (c : Nat) (D s : List UInt8) (d : Nat), d ≤ 10000 → JR w j A c D s d → objOut lit k d s ≠ .stuck →
  Calls Tryz.prog 95 #[.pointer (some ⟨j, 0, none⟩)] w (NPost (objOut lit k d s) w j A c D d)

/-- The reader within a list or an object. -/
structure AS (w : World) (j : Nat) (A : Option Addr) (c : Nat) (D : List UInt8) (d : Nat) (r : List UInt8) (x0 x1 x2 x3 : Value) (W : World) : Prop where
  lt : j < w.heap.size
  j0 : ∃ r0, JR w j A c D r0 d
  fr : Fr j w W
  jr : JR W j A c D r (d + 1)
  box : W.heap[w.heap.size]? = some (.cells #[.pointer (some ⟨j, 0, none⟩)] 130 (0, 0))
  slot : W.heap[w.heap.size + 1]? = some (.cells #[x0, x1, x2, x3] 135 (0, 0))
section
variable {w W W' : World} {j : Nat} {A : Option Addr} {c : Nat} {D : List UInt8} {d : Nat} {r : List UInt8} {x0 x1 x2 x3 : Value}
theorem AS.size (h : AS w j A c D d r x0 x1 x2 x3 W) : w.heap.size + 2 ≤ W.heap.size := by
  have := (slot_cells h.slot).2.2.2.2.2; omega
theorem AS.bx (h : AS w j A c D d r x0 x1 x2 x3 W) : W.cell? ⟨w.heap.size, 0, none⟩ = some (.pointer (some ⟨j, 0, none⟩)) := by simp [World.cell?, h.box]
theorem AS.keep {r' : List UInt8} (h : AS w j A c D d r x0 x1 x2 x3 W) (hf : Fr j W W') (hJ : JR W' j A c D r' (d + 1)) : AS w j A c D d r' x0 x1 x2 x3 W' := by
  have hs := h.size
  have hl := h.lt
  exact ⟨h.lt, h.j0, h.fr.trans hf, hJ, by rw [hf.block _ (by omega) (by omega)]; exact h.box, by rw [hf.block _ (by omega) (by omega)]; exact h.slot⟩
theorem AS.below {M : Nat} (h : AS w j A c D d r x0 x1 x2 x3 W) (hM : w.heap.size + 2 ≤ M) (hb : Below M W W') : AS w j A c D d r x0 x1 x2 x3 W' := by
  have hl := h.lt
  have hf : Fr j w W' := h.fr.trans' hb (by omega)
  obtain ⟨r0, h0⟩ := h.j0
  exact ⟨h.lt, h.j0, hf, by
    obtain ⟨i0, h0, _⟩ := h0
    obtain ⟨i1, h1, e1⟩ := h.jr
    exact ⟨i1, h0.fr hf (by rw [hb.block j (by omega)]; exact h1.blk) h1.ile h1.dle, e1⟩, by rw [hb.block _ (by omega)]; exact h.box, by rw [hb.block _ (by omega)]; exact h.slot⟩
theorem AS.drewN (h : AS w j A c D d r x0 x1 x2 x3 W) (n : Nat) : AS w j A c D d r x0 x1 x2 x3 (W.drewN n) := ⟨h.lt, h.j0, h.fr.drewN n, h.jr.drewN n, h.box, h.slot⟩
theorem AS.alloc (h : AS w j A c D d r x0 x1 x2 x3 W) (o : Obj) : AS w j A c D d r x0 x1 x2 x3 (W.alloc o) := h.below (Nat.le_refl _) ((Below.refl _ _).alloc h.size _)
theorem AS.set4 (h : AS w j A c D d r x0 x1 x2 x3 W) (y0 y1 y2 y3 : Value) :
    AS w j A c D d r y0 y1 y2 y3 ((((W.setCell ⟨w.heap.size + 1, 0, none⟩ y0).setCell ⟨w.heap.size + 1, 1, none⟩ y1).setCell ⟨w.heap.size + 1, 2, none⟩ y2).setCell ⟨w.heap.size + 1, 3, none⟩ y3) := by
  have hl := h.lt
  have hf := h.fr.set4 (b := w.heap.size + 1) (by omega) y0 y1 y2 y3
  obtain ⟨r0, h0⟩ := h.j0
  exact ⟨h.lt, ⟨r0, h0⟩, hf, by
    obtain ⟨i0, h0, _⟩ := h0
    obtain ⟨i1, h1, e1⟩ := h.jr
    exact ⟨i1, h0.fr hf (by rw [set4_other (by omega)]; exact h1.blk) h1.ile h1.dle, e1⟩, by rw [set4_other (by omega)]; exact h.box, Go.Proofs.YtngifhngangpeaaGreatDoor.set4 h.slot y0 y1 y2 y3⟩
theorem AS.start {s : List UInt8} (h : JR w j A c D s d) (hd : d + 1 ≤ 20000) :
    AS w j A c D d s (.int .u8 0) (.string ⟨#[]⟩) (.slice none 0 0) (.slice none 0 0) (((w.setCell ⟨j, 2, none⟩ (.int .i64 ((d : Int) + 1))).alloc (.cells #[.pointer (some ⟨j, 0, none⟩)] 130)).alloc (.cells #[.int .u8 0, .string ⟨#[]⟩, .slice none 0 0, .slice none 0 0] 135)) := by
  obtain ⟨i, hJ, hD⟩ := h
  have hJ1 := hJ.set2 (d + 1) hd
  have hl := hJ.lt
  have hs : (w.setCell ⟨j, 2, none⟩ (.int .i64 ((d + 1 : Nat) : Int))).heap.size = w.heap.size := World.size_setCell' _ _ _
  have e : (((d + 1 : Nat) : Int)) = (d : Int) + 1 := by omega
  rw [e] at hJ1 hs
  have hb : Below w.heap.size (w.setCell ⟨j, 2, none⟩ (.int .i64 ((d : Int) + 1))) (((w.setCell ⟨j, 2, none⟩ (.int .i64 ((d : Int) + 1))).alloc (.cells #[.pointer (some ⟨j, 0, none⟩)] 130)).alloc (.cells #[.int .u8 0, .string ⟨#[]⟩, .slice none 0 0, .slice none 0 0] 135)) :=
    ((Below.refl _ _).alloc (by omega) _).alloc (by rw [World.size_alloc]; omega) _
  refine ⟨hl, ⟨s, i, hJ, hD⟩, ((Fr.refl j w).setCell (Or.inl rfl) _).trans' hb (Nat.le_refl _), ⟨i, hJ1.below (by rw [hs]; exact hb), hD⟩, ?_, ?_⟩
  · have := alloc_at (w.setCell ⟨j, 2, none⟩ (.int .i64 ((d : Int) + 1))) (.cells #[.pointer (some ⟨j, 0, none⟩)] 130)
    rw [hs] at this
    rw [Below.heap_alloc _ _ _ (by rw [World.size_alloc]; omega)]; exact this
  · have := alloc_at ((w.setCell ⟨j, 2, none⟩ (.int .i64 ((d : Int) + 1))).alloc (.cells #[.pointer (some ⟨j, 0, none⟩)] 130)) (.cells #[.int .u8 0, .string ⟨#[]⟩, .slice none 0 0, .slice none 0 0] 135)
    rw [World.size_alloc, hs] at this; exact this
end
/- doors -/
set_option maxRecDepth 100000 in
set_option maxHeartbeats 2000000 in
theorem arrayD_any (bx j d : Nat) (w : World) (u : FrameMode) (hb : w.cell? ⟨bx, 0, none⟩ = some (.pointer (some ⟨j, 0, none⟩))) (c2 : w.cell? ⟨j, 2, none⟩ = some (.int .i64 ((d : Int) + 1))) (f2 : w.frozen? ⟨j, 2, none⟩ = false) (hd : d ≤ 20000) :
    CallsD Tryz.prog 138 #[.pointer (some ⟨bx, 0, none⟩)] u w fun e u' w' => u' = u ∧ (e = .returned (.tuple #[]) ∧ w' = w.setCell ⟨j, 2, none⟩ (.int .i64 (d : Int))) := by
  have e1 : (d : Int) + 1 - 1 = d := by omega
  go_enter_d Tryz.func138, Tryz.ntmps138
  go_wp2
  go_end0
  exact ⟨rfl, rfl⟩
theorem array_end {P : Ending → World → Prop} {tmps : Array Value} {w WF : World} {j : Nat} {A : Option Addr} {c : Nat} {D : List UInt8} {d : Nat} {r : List UInt8} {x0 x1 x2 x3 u : Value} (h : AS w j A c D d r x0 x1 x2 x3 WF)
    (h2 : tmps.getD 2 undef = .pointer (some ⟨w.heap.size + 1, 0, none⟩)) (h3 : tmps.getD 3 undef = u)
    (hP : ∀ W', W'.heap.size = WF.heap.size → (∀ k, k ≠ j → W'.heap[k]? = WF.heap[k]?) → Fr j w W' → JR W' j A c D r d → P (.returned (.tuple #[.agg #[x0, x1, x2, x3], u])) W') :
    bodyPostD Tryz.prog Tryz.f97 P Exit.ret { tmps := tmps, defers := [{ target := Target.fn (Fn.func 138) #[Value.pointer (some ⟨w.heap.size, 0, none⟩)], args := #[] }] } WF := by
  obtain ⟨i, hJ, hD⟩ := h.jr
  have hdle : d ≤ 20000 := by have := hJ.dle; omega
  refine leaves_cons (f := 138) (args := #[Value.pointer (some ⟨w.heap.size, 0, none⟩)]) (by simp) (by simp [go_sem]) ?_
  refine (arrayD_any w.heap.size j d WF .returning h.bx (by have := hJ.c2; simpa using this) (hJ.fz 2) hdle).mono ?_
  rintro e u' w' ⟨rfl, rfl, rfl⟩
  have hl := h.lt
  have ho : ∀ k, k ≠ j → (WF.setCell ⟨j, 2, none⟩ (.int .i64 (d : Int))).heap[k]? = WF.heap[k]? := fun k hk => Below.heap_setCell _ _ _ _ hk
  have hslot : (WF.setCell ⟨j, 2, none⟩ (.int .i64 (d : Int))).heap[w.heap.size + 1]? = some (.cells #[x0, x1, x2, x3] 135 (0, 0)) := by rw [ho _ (by omega)]; exact h.slot
  have hr : (results Tryz.f97 tmps).run Tryz.prog (WF.setCell ⟨j, 2, none⟩ (.int .i64 (d : Int))) = .ok (.tuple #[.agg #[x0, x1, x2, x3], u]) (WF.setCell ⟨j, 2, none⟩ (.int .i64 (d : Int))) := by
    rw [results_cell_tmp rfl, h2, h3]
    simp only [asAddr, Sem.run_pure, Result.andThen, load4 hslot]
  show Leaves _ _ _ _ [] .returning _
  exact ⟨_, hr, hP _ (World.size_setCell' _ _ _) ho (h.fr.setCell (Or.inl rfl) _) ⟨i, hJ.set2 d hdle, hD⟩⟩

set_option maxRecDepth 100000 in
set_option maxHeartbeats 2000000 in
theorem objectD_any (bx j d : Nat) (w : World) (u : FrameMode) (hb : w.cell? ⟨bx, 0, none⟩ = some (.pointer (some ⟨j, 0, none⟩))) (c2 : w.cell? ⟨j, 2, none⟩ = some (.int .i64 ((d : Int) + 1))) (f2 : w.frozen? ⟨j, 2, none⟩ = false) (hd : d ≤ 20000) :
    CallsD Tryz.prog 124 #[.pointer (some ⟨bx, 0, none⟩)] u w fun e u' w' => u' = u ∧ (e = .returned (.tuple #[]) ∧ w' = w.setCell ⟨j, 2, none⟩ (.int .i64 (d : Int))) := by
  have e1 : (d : Int) + 1 - 1 = d := by omega
  go_enter_d Tryz.func124, Tryz.ntmps124
  go_wp2
  go_end0
  exact ⟨rfl, rfl⟩
theorem object_end {P : Ending → World → Prop} {tmps : Array Value} {w WF : World} {j : Nat} {A : Option Addr} {c : Nat} {D : List UInt8} {d : Nat} {r : List UInt8} {x0 x1 x2 x3 u : Value} (h : AS w j A c D d r x0 x1 x2 x3 WF)
    (h2 : tmps.getD 2 undef = .pointer (some ⟨w.heap.size + 1, 0, none⟩)) (h3 : tmps.getD 3 undef = u)
    (hP : ∀ W', W'.heap.size = WF.heap.size → (∀ k, k ≠ j → W'.heap[k]? = WF.heap[k]?) → Fr j w W' → JR W' j A c D r d → P (.returned (.tuple #[.agg #[x0, x1, x2, x3], u])) W') :
    bodyPostD Tryz.prog Tryz.f95 P Exit.ret { tmps := tmps, defers := [{ target := Target.fn (Fn.func 124) #[Value.pointer (some ⟨w.heap.size, 0, none⟩)], args := #[] }] } WF := by
  obtain ⟨i, hJ, hD⟩ := h.jr
  have hdle : d ≤ 20000 := by have := hJ.dle; omega
  refine leaves_cons (f := 124) (args := #[Value.pointer (some ⟨w.heap.size, 0, none⟩)]) (by simp) (by simp [go_sem]) ?_
  refine (objectD_any w.heap.size j d WF .returning h.bx (by have := hJ.c2; simpa using this) (hJ.fz 2) hdle).mono ?_
  rintro e u' w' ⟨rfl, rfl, rfl⟩
  have hl := h.lt
  have ho : ∀ k, k ≠ j → (WF.setCell ⟨j, 2, none⟩ (.int .i64 (d : Int))).heap[k]? = WF.heap[k]? := fun k hk => Below.heap_setCell _ _ _ _ hk
  have hslot : (WF.setCell ⟨j, 2, none⟩ (.int .i64 (d : Int))).heap[w.heap.size + 1]? = some (.cells #[x0, x1, x2, x3] 135 (0, 0)) := by rw [ho _ (by omega)]; exact h.slot
  have hr : (results Tryz.f95 tmps).run Tryz.prog (WF.setCell ⟨j, 2, none⟩ (.int .i64 (d : Int))) = .ok (.tuple #[.agg #[x0, x1, x2, x3], u]) (WF.setCell ⟨j, 2, none⟩ (.int .i64 (d : Int))) := by
    rw [results_cell_tmp rfl, h2, h3]
    simp only [asAddr, Sem.run_pure, Result.andThen, load4 hslot]
  show Leaves _ _ _ _ [] .returning _
  exact ⟨_, hr, hP _ (World.size_setCell' _ _ _) ho (h.fr.setCell (Or.inl rfl) _) ⟨i, hJ.set2 d hdle, hD⟩⟩
end Go.Proofs.YtngifhngangpeaaGreatDoor
