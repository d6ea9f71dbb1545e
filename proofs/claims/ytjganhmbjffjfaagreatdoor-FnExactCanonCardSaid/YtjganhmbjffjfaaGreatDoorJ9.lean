/- The reader's parseSimpleType. -/
import Derived.Test.YtjganhmbjffjfaaGreatDoorJ3
import Derived.Test.YtjganhmbjffjfaaGreatDoorB3
import Derived.Laws.ResultCell
open Go Go.RowKit
namespace Go.Proofs.YtjganhmbjffjfaaGreatDoor

/-- What parseLiteral comes to at a token. -/
def PLPost (res : Option ByteArray) (w : World) (e : Ending) (w' : World) : Prop :=
  Below w.heap.size w w' ∧ match res with
  | some s => e = .returned (.tuple #[.string s, .nilIface])
  | none => ∃ v, IsErr v ∧ e = .returned (.tuple #[.string ⟨#[]⟩, v])
def PL (t : ByteArray) (res : Option ByteArray) : Prop := ∀ (N : Nat) (w : World), TL N w → Calls Tryz.prog 180 #[.string t] w (PLPost res w)

/-- Where a token ends. -/
def stopB (x : UInt8) : Bool := x == 44 || x == 93 || x == 125 || wsB x
def scalar (s : ByteArray) : Value := .agg #[.int .u8 0, .string s, .slice none 0 0, .slice none 0 0]
def zeroNode : Value := .agg #[.int .u8 0, .string ⟨#[]⟩, .slice none 0 0, .slice none 0 0]
/-- What a call gives that reads a node. -/
def NodeErr (w : World) (j : Nat) (A : Option Addr) (c : Nat) (D : List UInt8) (d : Nat) (e : Ending) (w' : World) : Prop :=
  (∃ v, IsErr v ∧ e = .returned (.tuple #[zeroNode, v])) ∧ Fr j w w' ∧ ∃ r, JR w' j A c D r d

def pTok (rest : List UInt8) : Option (List UInt8 × List UInt8) :=
  if (rest.takeWhile fun x => !stopB x).any (fun x => decide (127 < x.toNat)) then none
  else if (rest.takeWhile fun x => !stopB x) = [] then none
  else some (rest.takeWhile fun x => !stopB x, rest.dropWhile fun x => !stopB x)
/-- What a token's reading comes to. -/
def TokRes (rest : List UInt8) (res : Option (ByteArray × List UInt8)) : Prop :=
  match pTok rest with
  | none => res = none
  | some (t, r) => ∃ q, PL ⟨t.toArray⟩ q ∧ res = q.map fun s => (s, r)
def SPost (res : Option (ByteArray × List UInt8)) (w : World) (j : Nat) (A : Option Addr) (c : Nat) (D : List UInt8) (d : Nat) (e : Ending) (w' : World) : Prop :=
  match res with
  | some (s, r) => e = .returned (.tuple #[scalar s, .nilIface]) ∧ Fr j w w' ∧ JR w' j A c D r d
  | none => NodeErr w j A c D d e w'

/-- The loop's relation. -/
structure SRel (w : World) (j : Nat) (A : Option Addr) (c : Nat) (D : List UInt8) (d : Nat) (rest : List UInt8) (wr : World) (acc r : List UInt8) : Prop where
  fr : Fr j w wr
  jr : JR wr j A c D r d
  sb : SB (w.heap.size + 2) (w.heap.size + 1) acc wr
  eq : acc ++ r = rest
  ok : ∀ x ∈ acc, stopB x = false ∧ x.toNat ≤ 127
  slot : wr.heap[w.heap.size]? = some (.cells #[.int .u8 0, .string ⟨#[]⟩, .slice none 0 0, .slice none 0 0] 206 (0, 0))
theorem takeWhile_all {acc r : List UInt8} (h : ∀ x ∈ acc, stopB x = false) (hr : r = [] ∨ ∃ y ys, r = y :: ys ∧ stopB y = true) : (acc ++ r).takeWhile (fun x => !stopB x) = acc ∧ (acc ++ r).dropWhile (fun x => !stopB x) = r := by
  induction acc with
  | nil =>
    rcases hr with rfl | ⟨y, ys, rfl, hy⟩
    · simp
    · simp [hy]
  | cons a acc ih =>
    have ha := h a (by simp)
    obtain ⟨h1, h2⟩ := ih fun x hx => h x (by simp [hx])
    rw [List.cons_append, List.takeWhile_cons_of_pos (by simp [ha]), List.dropWhile_cons_of_pos (by simp [ha]), h1, h2]
    exact ⟨rfl, rfl⟩
theorem SRel.tok {w wr : World} {j : Nat} {A : Option Addr} {c : Nat} {D rest : List UInt8} {d : Nat} {acc r : List UInt8} (h : SRel w j A c D d rest wr acc r) (hr : r = [] ∨ ∃ y ys, r = y :: ys ∧ stopB y = true) :
    pTok rest = if acc = [] then none else some (acc, r) := by
  obtain ⟨h1, h2⟩ := takeWhile_all (fun x hx => (h.ok x hx).1) hr
  rw [h.eq] at h1 h2
  have hany : (acc.any fun x => decide (127 < x.toNat)) = false := by
    rw [List.any_eq_false]
    intro x hx
    have := (h.ok x hx).2
    simp; omega
  unfold pTok
  rw [h1, h2, hany]
  simp
theorem SRel.bad {w wr : World} {j : Nat} {A : Option Addr} {c : Nat} {D rest : List UInt8} {d : Nat} {acc ys : List UInt8} {y : UInt8} (h : SRel w j A c D d rest wr acc (y :: ys)) (hy : 127 < y.toNat) : pTok rest = none := by
  have hst : stopB y = false := by
    have k2 : ∀ z : UInt8, z.toNat ≤ 127 → ¬ y = z := fun z hz e => by subst e; omega
    simp [stopB, wsB, k2]
  have : (rest.takeWhile fun x => !stopB x).any (fun x => decide (127 < x.toNat)) = true := by
    rw [← h.eq, List.any_eq_true]
    refine ⟨y, ?_, by simpa using hy⟩
    have : (acc ++ y :: ys).takeWhile (fun x => !stopB x) = acc ++ (y :: ys).takeWhile (fun x => !stopB x) := by
      rw [List.takeWhile_append_of_pos]
      intro x hx; simp [(h.ok x hx).1]
    rw [this, List.takeWhile_cons_of_pos (by simp [hst])]
    simp
  unfold pTok
  rw [if_pos this]
theorem TokRes.none_of {rest : List UInt8} {res : Option (ByteArray × List UInt8)} (h : TokRes rest res) (hp : pTok rest = none) : res = none := by unfold TokRes at h; rw [hp] at h; exact h
theorem TokRes.some_of {rest t r : List UInt8} {res : Option (ByteArray × List UInt8)} (h : TokRes rest res) (hp : pTok rest = some (t, r)) : ∃ q, PL ⟨t.toArray⟩ q ∧ res = q.map fun s => (s, r) := by unfold TokRes at h; rw [hp] at h; exact h
theorem SPost.no {res res' : Option (ByteArray × List UInt8)} {w w' : World} {j : Nat} {A : Option Addr} {c : Nat} {D : List UInt8} {d : Nat} {v : Value} (hr : res' = res) (h : res' = none) (hv : IsErr v) (hf : Fr j w w') (hJ : ∃ r, JR w' j A c D r d) :
    SPost res w j A c D d (.returned (.tuple #[zeroNode, v])) w' := by subst hr; subst h; exact ⟨⟨v, hv, rfl⟩, hf, hJ⟩
theorem SPost.ok {res res' : Option (ByteArray × List UInt8)} {w w' : World} {j : Nat} {A : Option Addr} {c : Nat} {D r : List UInt8} {d : Nat} {s : ByteArray} (hr : res' = res) (h : res' = some (s, r)) (hf : Fr j w w') (hJ : JR w' j A c D r d) :
    SPost res w j A c D d (.returned (.tuple #[scalar s, .nilIface])) w' := by subst hr; subst h; exact ⟨rfl, hf, hJ⟩
theorem alloc_at (w : World) (o : Obj) : (w.alloc o).heap[w.heap.size]? = some o := by rw [World.alloc]; simp
/-- The result's block, whole. -/
theorem slot_cells {w : World} {b : Nat} {x0 x1 x2 x3 : Value} {T : TypeId} (h : w.heap[b]? = some (.cells #[x0, x1, x2, x3] T (0, 0))) :
    w.cell? ⟨b, 0, none⟩ = some x0 ∧ w.cell? ⟨b, 1, none⟩ = some x1 ∧ w.cell? ⟨b, 2, none⟩ = some x2 ∧ w.cell? ⟨b, 3, none⟩ = some x3 ∧ (∀ k, w.frozen? ⟨b, k, none⟩ = false) ∧ b < w.heap.size := by
  refine ⟨by simp [World.cell?, h], by simp [World.cell?, h], by simp [World.cell?, h], by simp [World.cell?, h], fun k => by simp [World.frozen?, h], ?_⟩
  rcases Nat.lt_or_ge b w.heap.size with h1 | h1
  · exact h1
  · rw [Array.getElem?_eq_none h1] at h; cases h

theorem setAt {w : World} {b : Nat} {cs : Array Value} {T : TypeId} {f : Nat × Nat} (h : w.heap[b]? = some (.cells cs T f)) (k : Nat) (y : Value) :
    (w.setCell ⟨b, k, none⟩ y).heap[b]? = some (.cells (cs.setIfInBounds k y) T f) := by
  have hlt : b < w.heap.size := by
    rcases Nat.lt_or_ge b w.heap.size with h1 | h1
    · exact h1
    · rw [Array.getElem?_eq_none h1] at h; cases h
  have hg : w.heap[b] = .cells cs T f := by
    rw [Array.getElem?_eq_getElem hlt] at h; exact Option.some.inj h
  simp [World.setCell, Array.getElem?_modify, h]
theorem set4 {w : World} {b : Nat} {x0 x1 x2 x3 : Value} {T : TypeId} (h : w.heap[b]? = some (.cells #[x0, x1, x2, x3] T (0, 0))) (y0 y1 y2 y3 : Value) :
    ((((w.setCell ⟨b, 0, none⟩ y0).setCell ⟨b, 1, none⟩ y1).setCell ⟨b, 2, none⟩ y2).setCell ⟨b, 3, none⟩ y3).heap[b]? = some (.cells #[y0, y1, y2, y3] T (0, 0)) := by
  have := setAt (setAt (setAt (setAt h 0 y0) 1 y1) 2 y2) 3 y3
  simpa using this
/-- The result set, all else below the block as it was. -/
theorem Fr.set4 {j b : Nat} {a w : World} (h : Fr j a w) (hb : a.heap.size ≤ b) (y0 y1 y2 y3 : Value) :
    Fr j a ((((w.setCell ⟨b, 0, none⟩ y0).setCell ⟨b, 1, none⟩ y1).setCell ⟨b, 2, none⟩ y2).setCell ⟨b, 3, none⟩ y3) :=
  (((h.setCell (Or.inr hb) _).setCell (Or.inr hb) _).setCell (Or.inr hb) _).setCell (Or.inr hb) _
theorem Fr.trans' {j M : Nat} {a w w' : World} (h : Fr j a w) (hb : Below M w w') (hM : a.heap.size ≤ M) : Fr j a w' :=
  ⟨hb.os.trans h.os, hb.tape.trans h.tape, hb.output.trans h.output, Nat.le_trans h.size hb.size, fun k hk hj => (hb.block k (by omega)).trans (h.block k hk hj)⟩
theorem set4_other {w : World} {b k : Nat} (hk : k ≠ b) (y0 y1 y2 y3 : Value) : ((((w.setCell ⟨b, 0, none⟩ y0).setCell ⟨b, 1, none⟩ y1).setCell ⟨b, 2, none⟩ y2).setCell ⟨b, 3, none⟩ y3).heap[k]? = w.heap[k]? := by
  rw [Below.heap_setCell _ _ _ _ hk, Below.heap_setCell _ _ _ _ hk, Below.heap_setCell _ _ _ _ hk, Below.heap_setCell _ _ _ _ hk]
/-- The reader, its block taken from one world, its bytes from another. -/
theorem JR.from {w0 w1 w2 : World} {j : Nat} {A : Option Addr} {c : Nat} {D r0 r : List UInt8} {d0 d : Nat} (h0 : JR w0 j A c D r0 d0) (f : Fr j w0 w2) (h1 : JR w1 j A c D r d) (hb : w2.heap[j]? = w1.heap[j]?) : JR w2 j A c D r d := by
  obtain ⟨i0, h0, _⟩ := h0
  obtain ⟨i1, h1, e1⟩ := h1
  exact ⟨i1, h0.fr f (by rw [hb]; exact h1.blk) h1.ile h1.dle, e1⟩
theorem load4 {w : World} {b : Nat} {x0 x1 x2 x3 : Value} {T : TypeId} (h : w.heap[b]? = some (.cells #[x0, x1, x2, x3] T (0, 0))) :
    (loadVar 206 ⟨b, 0, none⟩).run Tryz.prog w = .ok (.agg #[x0, x1, x2, x3]) w := by
  obtain ⟨s0, s1, s2, s3, _, _⟩ := slot_cells h
  simp [go_sem, s0, s1, s2, s3]
theorem ret4 {w : World} {b : Nat} {x0 x1 x2 x3 u : Value} {T : TypeId} {tmps : Array Value} (h : w.heap[b]? = some (.cells #[x0, x1, x2, x3] T (0, 0))) (hp : tmps.getD 2 undef = .pointer (some ⟨b, 0, none⟩)) (hu : tmps.getD 3 undef = u) :
    (results Tryz.f134 tmps).run Tryz.prog w = .ok (.tuple #[.agg #[x0, x1, x2, x3], u]) w := by
  rw [results_cell_tmp rfl, hp, hu]
  simp only [asAddr, Sem.run_pure, Result.andThen, load4 h]

/-- The end's state: what the result's store and the return need. -/
structure TS (w : World) (j : Nat) (A : Option Addr) (c : Nat) (D : List UInt8) (d : Nat) (r : List UInt8) (W : World) : Prop where
  lt : j < w.heap.size
  j0 : ∃ r0, JR w j A c D r0 d
  fr : Fr j w W
  jr : JR W j A c D r d
  slot : W.heap[w.heap.size]? = some (.cells #[.int .u8 0, .string ⟨#[]⟩, .slice none 0 0, .slice none 0 0] 206 (0, 0))
theorem TS.below {w W W' : World} {j : Nat} {A : Option Addr} {c : Nat} {D r : List UInt8} {d M : Nat} (h : TS w j A c D d r W) (hM : w.heap.size + 1 ≤ M) (hb : Below M W W') : TS w j A c D d r W' := by
  have hf : Fr j w W' := h.fr.trans' hb (by omega)
  obtain ⟨r0, h0⟩ := h.j0
  have hl := h.lt
  exact ⟨h.lt, h.j0, hf, h0.from hf h.jr (hb.block j (by omega)), by rw [hb.block _ (by omega)]; exact h.slot⟩
theorem TS.size {w W : World} {j : Nat} {A : Option Addr} {c : Nat} {D r : List UInt8} {d : Nat} (h : TS w j A c D d r W) : w.heap.size < W.heap.size := (slot_cells h.slot).2.2.2.2.2
theorem TS.set4 {w W : World} {j : Nat} {A : Option Addr} {c : Nat} {D r : List UInt8} {d : Nat} (h : TS w j A c D d r W) (y0 y1 y2 y3 : Value) :
    Fr j w ((((W.setCell ⟨w.heap.size, 0, none⟩ y0).setCell ⟨w.heap.size, 1, none⟩ y1).setCell ⟨w.heap.size, 2, none⟩ y2).setCell ⟨w.heap.size, 3, none⟩ y3) ∧
    JR ((((W.setCell ⟨w.heap.size, 0, none⟩ y0).setCell ⟨w.heap.size, 1, none⟩ y1).setCell ⟨w.heap.size, 2, none⟩ y2).setCell ⟨w.heap.size, 3, none⟩ y3) j A c D r d := by
  have hf := h.fr.set4 (Nat.le_refl _) y0 y1 y2 y3
  obtain ⟨r0, h0⟩ := h.j0
  have hl := h.lt
  exact ⟨hf, h0.from hf h.jr (set4_other (by omega) _ _ _ _)⟩
theorem SRel.ts {w wr : World} {j : Nat} {A : Option Addr} {c : Nat} {D rest r0 : List UInt8} {d : Nat} {acc r : List UInt8} (h : SRel w j A c D d rest wr acc r) (hl : j < w.heap.size) (h0 : JR w j A c D r0 d) : TS w j A c D d r wr := ⟨hl, ⟨r0, h0⟩, h.fr, h.jr, h.slot⟩

theorem TS.read {w W w1 : World} {j : Nat} {A : Option Addr} {c : Nat} {D r r' : List UInt8} {d : Nat} (h : TS w j A c D d r W) (hf : Fr j W w1) (hj : JR w1 j A c D r' d) : TS w j A c D d r' w1 :=
  ⟨h.lt, h.j0, h.fr.trans hf, hj, by have := h.lt; rw [hf.block _ h.size (by omega)]; exact h.slot⟩
theorem SRel.stop {w wr w1 : World} {j : Nat} {A : Option Addr} {c : Nat} {D rest : List UInt8} {d : Nat} {acc ys : List UInt8} {y : UInt8} {i1 : Nat} (h : SRel w j A c D d rest wr acc (y :: ys)) (hjl : j < w.heap.size)
    (hf : Fr j wr w1) (hJ : JW w1 j A c D (i1 + 1) d) (hD : D.drop i1 = y :: ys) : SRel w j A c D d rest (w1.setCell ⟨j, 1, none⟩ (.int .i64 (i1 : Int))) acc (y :: ys) := by
  have hf2 : Fr j wr (w1.setCell ⟨j, 1, none⟩ (.int .i64 (i1 : Int))) := hf.setCell (Or.inl rfl) _
  have hs := (slot_cells h.slot).2.2.2.2.2
  exact ⟨h.fr.trans hf2, ⟨i1, hJ.set1 i1 (by have := hJ.ile; omega), hD⟩, h.sb.fr hf2 (by omega) (by omega), h.eq, h.ok, by rw [hf2.block _ hs (by omega)]; exact h.slot⟩
theorem SRel.push {w wr w1 w2 : World} {j : Nat} {A : Option Addr} {c : Nat} {D rest r0 : List UInt8} {d : Nat} {acc ys : List UInt8} {y : UInt8} (h : SRel w j A c D d rest wr acc (y :: ys)) (hjl : j < w.heap.size) (h0 : JR w j A c D r0 d)
    (hf : Fr j wr w1) (hJ : JR w1 j A c D ys d) (hf2 : FrR (w.heap.size + 2) (w.heap.size + 1) w1 w2) (hsb : SB (w.heap.size + 2) (w.heap.size + 1) (acc ++ [y]) w2) (hst : stopB y = false) (h7 : y.toNat ≤ 127) : SRel w j A c D d rest w2 (acc ++ [y]) ys := by
  have hs := (slot_cells h.slot).2.2.2.2.2
  have hf1 := h.fr.trans hf
  have hff : Fr j w w2 := ⟨hf2.os.trans hf1.os, hf2.tape.trans hf1.tape, hf2.output.trans hf1.output, Nat.le_trans hf1.size hf2.size, fun k hk hkj => (hf2.block k (by omega) (by omega)).trans (hf1.block k hk hkj)⟩
  refine ⟨hff, h0.from hff hJ (hf2.block j (by omega) (by omega)), hsb, by rw [List.append_assoc]; exact h.eq, ?_, by rw [hf2.block _ (by omega) (by omega), hf.block _ hs (by omega)]; exact h.slot⟩
  intro x hx
  rcases List.mem_append.1 hx with hx | hx
  · exact h.ok x hx
  · rw [List.mem_singleton.1 hx]; exact ⟨hst, h7⟩
theorem stop_cases {y : UInt8} (h : stopB y = true) : ((y.toNat : Int) == 44) = true ∨ (((y.toNat : Int) == 44) = false ∧ ((y.toNat : Int) == 93) = true) ∨ (((y.toNat : Int) == 44) = false ∧ ((y.toNat : Int) == 93) = false ∧ ((y.toNat : Int) == 125) = true) ∨ (((y.toNat : Int) == 44) = false ∧ ((y.toNat : Int) == 93) = false ∧ ((y.toNat : Int) == 125) = false ∧ wsB y = true) := by
  by_cases h1 : y = 44
  · subst h1; exact Or.inl rfl
  have e1 : ((y.toNat : Int) == 44) = false := u8_ne (n := 44) (by omega) h1
  by_cases h2 : y = 93
  · subst h2; exact Or.inr (Or.inl ⟨rfl, rfl⟩)
  have e2 : ((y.toNat : Int) == 93) = false := u8_ne (n := 93) (by omega) h2
  by_cases h3 : y = 125
  · subst h3; exact Or.inr (Or.inr (Or.inl ⟨rfl, rfl, rfl⟩))
  have e3 : ((y.toNat : Int) == 125) = false := u8_ne (n := 125) (by omega) h3
  refine Or.inr (Or.inr (Or.inr ⟨e1, e2, e3, ?_⟩))
  simpa [stopB, h1, h2, h3] using h
theorem SRel.len {w wr : World} {j : Nat} {A : Option Addr} {c : Nat} {D rest : List UInt8} {d : Nat} {acc r : List UInt8} (h : SRel w j A c D d rest wr acc r) : acc.length + r.length = rest.length := by rw [← h.eq]; simp

set_option maxRecDepth 100000 in
set_option maxHeartbeats 4000000 in
theorem simple_any {w : World} {j : Nat} {A : Option Addr} {c : Nat} {D : List UInt8} {d : Nat} {x : UInt8} {r0 : List UInt8} {res : Option (ByteArray × List UInt8)} (h : JQ w j A c D x r0 d) (hres : TokRes (x :: r0) res) :
    Calls Tryz.prog 134 #[.pointer (some ⟨j, 0, none⟩)] w (SPost res w j A c D d) := by
  obtain ⟨i, hJ, hD⟩ := h
  have c1 := hJ.c1
  have f1 := hJ.fz 1
  have hlen := hJ.len
  have hile := hJ.ile
  have hjl := hJ.lt
  have HRES := Lib.hid hres
  have hr0 : r0.length + 1 ≤ D.length := by have := congrArg List.length hD; simp at this; omega
  have HJ0 : Hid (JR w j A c D r0 d) := JQ.toR ⟨i, hJ, hD⟩
  obtain ⟨NT, hNT, hTL⟩ := hJ.tl
  have HTL := Lib.hid hTL
  have HR0 : Hid (SRel w j A c D d (x :: r0) (((w.setCell ⟨j, 1, none⟩ (.int .i64 (i : Int))).alloc (.cells #[.int .u8 0, .string ⟨#[]⟩, .slice none 0 0, .slice none 0 0] 206)).alloc (.cells #[.pointer none, .slice none 0 0] 134)) [] (x :: r0)) := by
    have hJ1 := hJ.set1 i (by omega)
    have hb : Below (w.setCell ⟨j, 1, none⟩ (.int .i64 (i : Int))).heap.size (w.setCell ⟨j, 1, none⟩ (.int .i64 (i : Int))) (((w.setCell ⟨j, 1, none⟩ (.int .i64 (i : Int))).alloc (.cells #[.int .u8 0, .string ⟨#[]⟩, .slice none 0 0, .slice none 0 0] 206)).alloc (.cells #[.pointer none, .slice none 0 0] 134)) :=
      ((Below.refl _ _).alloc (Nat.le_refl _) _).alloc (by simp) _
    have hsz : (w.setCell ⟨j, 1, none⟩ (.int .i64 (i : Int))).heap.size = w.heap.size := World.size_setCell' _ _ _
    refine ⟨((Fr.refl j w).setCell (Or.inl rfl) _).below hb, ⟨i, hJ1.below hb, hD⟩, SB.new ?_ (by simp [hsz]), rfl, by simp, ?_⟩
    · have := alloc_at ((w.setCell ⟨j, 1, none⟩ (.int .i64 (i : Int))).alloc (.cells #[.int .u8 0, .string ⟨#[]⟩, .slice none 0 0, .slice none 0 0] 206)) (.cells #[.pointer none, .slice none 0 0] 134)
      rw [World.size_alloc, hsz] at this; exact this
    · have := alloc_at (w.setCell ⟨j, 1, none⟩ (.int .i64 (i : Int))) (.cells #[.int .u8 0, .string ⟨#[]⟩, .slice none 0 0, .slice none 0 0] 206)
      rw [hsz] at this
      rw [Below.heap_alloc _ _ _ (by simp [hsz])]; exact this
  clear hJ hD hres hTL
  go_enter Tryz.func134, Tryz.ntmps134
  go_wp2
  go_loopg [5, 6] (r0.length + 2) (fun kq v5 v6 wr => ∃ acc r, Hid (r.length < kq) ∧ SRel w j A c D d (x :: r0) wr acc r)
  case atStart => exact ⟨[], x :: r0, by show _ < _; simp, HR0.out⟩
  case round =>
    obtain ⟨acc, r, hkq, hS⟩ := hrel
    clear HR0 c1 f1
    have HS := Lib.hid hS
    obtain ⟨s0, s1, s2, s3, sf, sl⟩ := slot_cells hS.slot
    have hfz0 := sf 0
    have hfz1 := sf 1
    have hfz2 := sf 2
    have hfz3 := sf 3
    clear sf
    cases r with
    | nil =>
      obtain ⟨i2, hW, hD2⟩ := hS.jr
      have c0 := hW.c0
      have c1 := hW.c1
      have hge : D.length ≤ i2 := by
        have := congrArg List.length hD2; simp at this; omega
      have hge' : ¬ i2 < D.length := by omega
      have HSX : Hid (∀ m, SRel w j A c D d (x :: r0) (wr.drewN m) acc []) := fun m => ⟨hS.fr.drewN m, hS.jr.drewN m, hS.sb.drewN m, hS.eq, hS.ok, hS.slot⟩
      clear hW hD2 hS
      go_wp2
      go_quiet (fail)
      go_wp2_with (fail)
      refine (fun (k : ∀ W, SRel w j A c D d (x :: r0) W acc [] → Calls _ _ _ W _) => k _ (HSX.out _)) ?_
      intro W hS2
      have hT := hS2.tok (Or.inl rfl)
      have HS2 := Lib.hid hS2
      obtain ⟨s0, s1, s2, s3, sf, sl⟩ := slot_cells hS2.slot
      have hfz0 := sf 0
      have hfz1 := sf 1
      have hfz2 := sf 2
      have hfz3 := sf 3
      clear sf hS2
      refine (bLen_any HS2.out.sb).mono ?_
      rintro e w' ⟨rfl, rfl⟩
      by_cases hacc : acc = []
      · rw [if_pos hacc] at hT
        have HN := Lib.hid (HRES.out.none_of hT)
        have h0 : ((acc.length : Int) == 0) = true := by rw [hacc]; rfl
        clear hT hacc
        go_wp2_with (go_at_call 63; refine (errorsNew_any _ _).mono ?_; rintro e w' ⟨rfl, rfl⟩)
        clear HTL
        have hw5 := Lib.hid (set4 HS2.out.slot (.int .u8 0) (.string ⟨#[]⟩) (.slice none 0 0) (.slice none 0 0))
        refine bodyPost_ret (ret4 (T := 206) (x0 := .int .u8 0) (x1 := .string ⟨#[]⟩) (x2 := .slice none 0 0) (x3 := .slice none 0 0) ?_ rfl rfl) rfl ?_
        · rw [Below.heap_alloc _ _ _ (by simp only [World.size_setCell']; exact sl)]; exact hw5.out
        · have hfr : Fr j w _ := (HS2.out.fr.set4 (Nat.le_refl _) (.int .u8 0) (.string ⟨#[]⟩) (.slice none 0 0) (.slice none 0 0)).alloc (.cells #[.string ⟨#[77, 105, 115, 115, 105, 110, 103, 32, 97, 114, 103, 117, 109, 101, 110, 116]⟩] 223)
          refine SPost.no rfl HN.out ⟨_, _, rfl⟩ hfr ⟨_, JR.from HJ0.out hfr HS2.out.jr ?_⟩
          rw [Below.heap_alloc _ _ _ (by simp only [World.size_setCell']; omega), set4_other (by omega)]
      · rw [if_neg hacc] at hT
        obtain ⟨q, hq, hqr⟩ := HRES.out.some_of hT
        have HQ := Lib.hid hq
        have HQR := Lib.hid hqr
        have h0 : ((acc.length : Int) == 0) = false := by
          rw [beq_eq_false_iff_ne]; intro e; exact hacc (List.length_eq_zero_iff.1 (by exact_mod_cast e))
        clear hT hacc hq hqr
        go_wp2_with (fail)
        refine (bString_any HS2.out.sb).mono ?_
        rintro e w3 ⟨rfl, hb3⟩
        rw [Nat.min_eq_right (by omega)] at hb3
        have ht3 : TS w j A c D d [] w3 := (HS2.out.ts hjl HJ0.out).below (by omega) hb3
        have HT3 := Lib.hid ht3
        clear hb3 ht3 HS2 HSX HS s0 s1 s2 s3 sl hfz0 hfz1 hfz2 hfz3
        go_wp2_with (fail)
        refine (HQ.out NT w3 (HTL.out.fr hNT HT3.out.fr)).mono ?_
        rintro e w4 ⟨hb4, hq4⟩
        have ht4 : TS w j A c D d [] w4 := HT3.out.below HT3.out.size hb4
        have HT4 := Lib.hid ht4
        obtain ⟨s0, s1, s2, s3, sf, sl⟩ := slot_cells ht4.slot
        have hfz0 := sf 0
        have hfz1 := sf 1
        have hfz2 := sf 2
        have hfz3 := sf 3
        clear sf ht4 hb4 HT3 HTL HQ
        cases q with
        | none =>
          obtain ⟨v, ⟨t, a, rfl⟩, rfl⟩ := hq4
          go_wp2_with (fail)
          have hw5 := Lib.hid (set4 HT4.out.slot (.int .u8 0) (.string ⟨#[]⟩) (.slice none 0 0) (.slice none 0 0))
          refine bodyPost_ret (ret4 (T := 206) (x0 := .int .u8 0) (x1 := .string ⟨#[]⟩) (x2 := .slice none 0 0) (x3 := .slice none 0 0) hw5.out rfl rfl) rfl ?_
          obtain ⟨hf5, hj5⟩ := HT4.out.set4 (.int .u8 0) (.string ⟨#[]⟩) (.slice none 0 0) (.slice none 0 0)
          exact SPost.no HQR.out.symm rfl ⟨_, _, rfl⟩ hf5 ⟨_, hj5⟩
        | some s =>
          subst hq4
          go_wp2_with (fail)
          have hw5 := Lib.hid (set4 HT4.out.slot (.int .u8 0) (.string s) (.slice none 0 0) (.slice none 0 0))
          refine bodyPost_ret (ret4 (T := 206) (x0 := .int .u8 0) (x1 := .string s) (x2 := .slice none 0 0) (x3 := .slice none 0 0) hw5.out rfl rfl) rfl ?_
          obtain ⟨hf5, hj5⟩ := HT4.out.set4 (.int .u8 0) (.string s) (.slice none 0 0) (.slice none 0 0)
          exact SPost.ok HQR.out.symm rfl hf5 hj5
    | cons y ys =>
      by_cases hy7 : y.toNat ≤ 127
      · have HY := Lib.hid hy7
        obtain ⟨i2, hW, hD2⟩ := hS.jr
        have c0 := hW.c0
        have c1 := hW.c1
        have hlt : ¬ D.length ≤ i2 := by
          have := congrArg List.length hD2; simp at this; omega
        have HSX : Hid (∀ m, SRel w j A c D d (x :: r0) (wr.drewN m) acc (y :: ys)) := fun m => ⟨hS.fr.drewN m, hS.jr.drewN m, hS.sb.drewN m, hS.eq, hS.ok, hS.slot⟩
        clear hW hD2 hS
        go_wp2
        go_quiet (fail)
        go_wp2_with (fail)
        refine (fun (k : ∀ W, SRel w j A c D d (x :: r0) W acc (y :: ys) → Calls _ _ _ W _) => k _ (HSX.out _)) ?_
        intro W hS2
        have HS2 := Lib.hid hS2
        refine (next_cons hS2.jr hy7).mono ?_
        rintro e w1 ⟨rfl, hf1, i3, hJ1, hD3⟩
        have HF1 := Lib.hid hf1
        have HJ1 := Lib.hid hJ1
        have HD3 := Lib.hid hD3
        by_cases hst : stopB y = true
        · have HSP : Hid (SRel w j A c D d (x :: r0) (w1.setCell ⟨j, 1, none⟩ (.int .i64 (i3 : Int))) acc (y :: ys)) := hS2.stop hjl hf1 hJ1 hD3
          have HST := Lib.hid hst
          have c1' := hJ1.c1
          have f1' := hJ1.fz 1
          have hile' := hJ1.ile
          have h4 := stop_cases hst
          clear hS2 HSX HS c0 c1 hf1 hJ1 hD3 HF1 HS2 HJ1 HD3 hst s0 s1 s2 s3 sl hfz0 hfz1 hfz2 hfz3
          rcases h4 with e44 | ⟨e44, e93⟩ | ⟨e44, e93, e125⟩ | ⟨e44, e93, e125, ews⟩
          · go_wp2_with (fail)
            refine (fun (k : ∀ W, SRel w j A c D d (x :: r0) W acc (y :: ys) → Calls _ _ _ W _) => k _ HSP.out) ?_
            intro W hS2
            have hT := hS2.tok (Or.inr ⟨y, ys, rfl, HST.out⟩)
            have HS2 := Lib.hid hS2
            obtain ⟨s0, s1, s2, s3, sf, sl⟩ := slot_cells hS2.slot
            have hfz0 := sf 0
            have hfz1 := sf 1
            have hfz2 := sf 2
            have hfz3 := sf 3
            clear sf hS2
            refine (bLen_any HS2.out.sb).mono ?_
            rintro e w' ⟨rfl, rfl⟩
            by_cases hacc : acc = []
            · rw [if_pos hacc] at hT
              have HN := Lib.hid (HRES.out.none_of hT)
              have h0 : ((acc.length : Int) == 0) = true := by rw [hacc]; rfl
              clear hT hacc
              go_wp2_with (go_at_call 63; refine (errorsNew_any _ _).mono ?_; rintro e w' ⟨rfl, rfl⟩)
              clear HTL
              have hw5 := Lib.hid (set4 HS2.out.slot (.int .u8 0) (.string ⟨#[]⟩) (.slice none 0 0) (.slice none 0 0))
              refine bodyPost_ret (ret4 (T := 206) (x0 := .int .u8 0) (x1 := .string ⟨#[]⟩) (x2 := .slice none 0 0) (x3 := .slice none 0 0) ?_ rfl rfl) rfl ?_
              · rw [Below.heap_alloc _ _ _ (by simp only [World.size_setCell']; exact sl)]; exact hw5.out
              · have hfr : Fr j w _ := (HS2.out.fr.set4 (Nat.le_refl _) (.int .u8 0) (.string ⟨#[]⟩) (.slice none 0 0) (.slice none 0 0)).alloc (.cells #[.string ⟨#[77, 105, 115, 115, 105, 110, 103, 32, 97, 114, 103, 117, 109, 101, 110, 116]⟩] 223)
                refine SPost.no rfl HN.out ⟨_, _, rfl⟩ hfr ⟨_, JR.from HJ0.out hfr HS2.out.jr ?_⟩
                rw [Below.heap_alloc _ _ _ (by simp only [World.size_setCell']; omega), set4_other (by omega)]
            · rw [if_neg hacc] at hT
              obtain ⟨q, hq, hqr⟩ := HRES.out.some_of hT
              have HQ := Lib.hid hq
              have HQR := Lib.hid hqr
              have h0 : ((acc.length : Int) == 0) = false := by
                rw [beq_eq_false_iff_ne]; intro e; exact hacc (List.length_eq_zero_iff.1 (by exact_mod_cast e))
              clear hT hacc hq hqr
              go_wp2_with (fail)
              refine (bString_any HS2.out.sb).mono ?_
              rintro e w3 ⟨rfl, hb3⟩
              rw [Nat.min_eq_right (by omega)] at hb3
              have ht3 : TS w j A c D d (y :: ys) w3 := (HS2.out.ts hjl HJ0.out).below (by omega) hb3
              have HT3 := Lib.hid ht3
              clear hb3 ht3 HS2 s0 s1 s2 s3 sl hfz0 hfz1 hfz2 hfz3
              go_wp2_with (fail)
              refine (HQ.out NT w3 (HTL.out.fr hNT HT3.out.fr)).mono ?_
              rintro e w4 ⟨hb4, hq4⟩
              have ht4 : TS w j A c D d (y :: ys) w4 := HT3.out.below HT3.out.size hb4
              have HT4 := Lib.hid ht4
              obtain ⟨s0, s1, s2, s3, sf, sl⟩ := slot_cells ht4.slot
              have hfz0 := sf 0
              have hfz1 := sf 1
              have hfz2 := sf 2
              have hfz3 := sf 3
              clear sf ht4 hb4 HT3 HTL HQ
              cases q with
              | none =>
                obtain ⟨v, ⟨t, a, rfl⟩, rfl⟩ := hq4
                go_wp2_with (fail)
                have hw5 := Lib.hid (set4 HT4.out.slot (.int .u8 0) (.string ⟨#[]⟩) (.slice none 0 0) (.slice none 0 0))
                refine bodyPost_ret (ret4 (T := 206) (x0 := .int .u8 0) (x1 := .string ⟨#[]⟩) (x2 := .slice none 0 0) (x3 := .slice none 0 0) hw5.out rfl rfl) rfl ?_
                obtain ⟨hf5, hj5⟩ := HT4.out.set4 (.int .u8 0) (.string ⟨#[]⟩) (.slice none 0 0) (.slice none 0 0)
                exact SPost.no HQR.out.symm rfl ⟨_, _, rfl⟩ hf5 ⟨_, hj5⟩
              | some s =>
                subst hq4
                go_wp2_with (fail)
                have hw5 := Lib.hid (set4 HT4.out.slot (.int .u8 0) (.string s) (.slice none 0 0) (.slice none 0 0))
                refine bodyPost_ret (ret4 (T := 206) (x0 := .int .u8 0) (x1 := .string s) (x2 := .slice none 0 0) (x3 := .slice none 0 0) hw5.out rfl rfl) rfl ?_
                obtain ⟨hf5, hj5⟩ := HT4.out.set4 (.int .u8 0) (.string s) (.slice none 0 0) (.slice none 0 0)
                exact SPost.ok HQR.out.symm rfl hf5 hj5
          · go_wp2_with (fail)
            refine (fun (k : ∀ W, SRel w j A c D d (x :: r0) W acc (y :: ys) → Calls _ _ _ W _) => k _ HSP.out) ?_
            intro W hS2
            have hT := hS2.tok (Or.inr ⟨y, ys, rfl, HST.out⟩)
            have HS2 := Lib.hid hS2
            obtain ⟨s0, s1, s2, s3, sf, sl⟩ := slot_cells hS2.slot
            have hfz0 := sf 0
            have hfz1 := sf 1
            have hfz2 := sf 2
            have hfz3 := sf 3
            clear sf hS2
            refine (bLen_any HS2.out.sb).mono ?_
            rintro e w' ⟨rfl, rfl⟩
            by_cases hacc : acc = []
            · rw [if_pos hacc] at hT
              have HN := Lib.hid (HRES.out.none_of hT)
              have h0 : ((acc.length : Int) == 0) = true := by rw [hacc]; rfl
              clear hT hacc
              go_wp2_with (go_at_call 63; refine (errorsNew_any _ _).mono ?_; rintro e w' ⟨rfl, rfl⟩)
              clear HTL
              have hw5 := Lib.hid (set4 HS2.out.slot (.int .u8 0) (.string ⟨#[]⟩) (.slice none 0 0) (.slice none 0 0))
              refine bodyPost_ret (ret4 (T := 206) (x0 := .int .u8 0) (x1 := .string ⟨#[]⟩) (x2 := .slice none 0 0) (x3 := .slice none 0 0) ?_ rfl rfl) rfl ?_
              · rw [Below.heap_alloc _ _ _ (by simp only [World.size_setCell']; exact sl)]; exact hw5.out
              · have hfr : Fr j w _ := (HS2.out.fr.set4 (Nat.le_refl _) (.int .u8 0) (.string ⟨#[]⟩) (.slice none 0 0) (.slice none 0 0)).alloc (.cells #[.string ⟨#[77, 105, 115, 115, 105, 110, 103, 32, 97, 114, 103, 117, 109, 101, 110, 116]⟩] 223)
                refine SPost.no rfl HN.out ⟨_, _, rfl⟩ hfr ⟨_, JR.from HJ0.out hfr HS2.out.jr ?_⟩
                rw [Below.heap_alloc _ _ _ (by simp only [World.size_setCell']; omega), set4_other (by omega)]
            · rw [if_neg hacc] at hT
              obtain ⟨q, hq, hqr⟩ := HRES.out.some_of hT
              have HQ := Lib.hid hq
              have HQR := Lib.hid hqr
              have h0 : ((acc.length : Int) == 0) = false := by
                rw [beq_eq_false_iff_ne]; intro e; exact hacc (List.length_eq_zero_iff.1 (by exact_mod_cast e))
              clear hT hacc hq hqr
              go_wp2_with (fail)
              refine (bString_any HS2.out.sb).mono ?_
              rintro e w3 ⟨rfl, hb3⟩
              rw [Nat.min_eq_right (by omega)] at hb3
              have ht3 : TS w j A c D d (y :: ys) w3 := (HS2.out.ts hjl HJ0.out).below (by omega) hb3
              have HT3 := Lib.hid ht3
              clear hb3 ht3 HS2 s0 s1 s2 s3 sl hfz0 hfz1 hfz2 hfz3
              go_wp2_with (fail)
              refine (HQ.out NT w3 (HTL.out.fr hNT HT3.out.fr)).mono ?_
              rintro e w4 ⟨hb4, hq4⟩
              have ht4 : TS w j A c D d (y :: ys) w4 := HT3.out.below HT3.out.size hb4
              have HT4 := Lib.hid ht4
              obtain ⟨s0, s1, s2, s3, sf, sl⟩ := slot_cells ht4.slot
              have hfz0 := sf 0
              have hfz1 := sf 1
              have hfz2 := sf 2
              have hfz3 := sf 3
              clear sf ht4 hb4 HT3 HTL HQ
              cases q with
              | none =>
                obtain ⟨v, ⟨t, a, rfl⟩, rfl⟩ := hq4
                go_wp2_with (fail)
                have hw5 := Lib.hid (set4 HT4.out.slot (.int .u8 0) (.string ⟨#[]⟩) (.slice none 0 0) (.slice none 0 0))
                refine bodyPost_ret (ret4 (T := 206) (x0 := .int .u8 0) (x1 := .string ⟨#[]⟩) (x2 := .slice none 0 0) (x3 := .slice none 0 0) hw5.out rfl rfl) rfl ?_
                obtain ⟨hf5, hj5⟩ := HT4.out.set4 (.int .u8 0) (.string ⟨#[]⟩) (.slice none 0 0) (.slice none 0 0)
                exact SPost.no HQR.out.symm rfl ⟨_, _, rfl⟩ hf5 ⟨_, hj5⟩
              | some s =>
                subst hq4
                go_wp2_with (fail)
                have hw5 := Lib.hid (set4 HT4.out.slot (.int .u8 0) (.string s) (.slice none 0 0) (.slice none 0 0))
                refine bodyPost_ret (ret4 (T := 206) (x0 := .int .u8 0) (x1 := .string s) (x2 := .slice none 0 0) (x3 := .slice none 0 0) hw5.out rfl rfl) rfl ?_
                obtain ⟨hf5, hj5⟩ := HT4.out.set4 (.int .u8 0) (.string s) (.slice none 0 0) (.slice none 0 0)
                exact SPost.ok HQR.out.symm rfl hf5 hj5
          · go_wp2_with (fail)
            refine (fun (k : ∀ W, SRel w j A c D d (x :: r0) W acc (y :: ys) → Calls _ _ _ W _) => k _ HSP.out) ?_
            intro W hS2
            have hT := hS2.tok (Or.inr ⟨y, ys, rfl, HST.out⟩)
            have HS2 := Lib.hid hS2
            obtain ⟨s0, s1, s2, s3, sf, sl⟩ := slot_cells hS2.slot
            have hfz0 := sf 0
            have hfz1 := sf 1
            have hfz2 := sf 2
            have hfz3 := sf 3
            clear sf hS2
            refine (bLen_any HS2.out.sb).mono ?_
            rintro e w' ⟨rfl, rfl⟩
            by_cases hacc : acc = []
            · rw [if_pos hacc] at hT
              have HN := Lib.hid (HRES.out.none_of hT)
              have h0 : ((acc.length : Int) == 0) = true := by rw [hacc]; rfl
              clear hT hacc
              go_wp2_with (go_at_call 63; refine (errorsNew_any _ _).mono ?_; rintro e w' ⟨rfl, rfl⟩)
              clear HTL
              have hw5 := Lib.hid (set4 HS2.out.slot (.int .u8 0) (.string ⟨#[]⟩) (.slice none 0 0) (.slice none 0 0))
              refine bodyPost_ret (ret4 (T := 206) (x0 := .int .u8 0) (x1 := .string ⟨#[]⟩) (x2 := .slice none 0 0) (x3 := .slice none 0 0) ?_ rfl rfl) rfl ?_
              · rw [Below.heap_alloc _ _ _ (by simp only [World.size_setCell']; exact sl)]; exact hw5.out
              · have hfr : Fr j w _ := (HS2.out.fr.set4 (Nat.le_refl _) (.int .u8 0) (.string ⟨#[]⟩) (.slice none 0 0) (.slice none 0 0)).alloc (.cells #[.string ⟨#[77, 105, 115, 115, 105, 110, 103, 32, 97, 114, 103, 117, 109, 101, 110, 116]⟩] 223)
                refine SPost.no rfl HN.out ⟨_, _, rfl⟩ hfr ⟨_, JR.from HJ0.out hfr HS2.out.jr ?_⟩
                rw [Below.heap_alloc _ _ _ (by simp only [World.size_setCell']; omega), set4_other (by omega)]
            · rw [if_neg hacc] at hT
              obtain ⟨q, hq, hqr⟩ := HRES.out.some_of hT
              have HQ := Lib.hid hq
              have HQR := Lib.hid hqr
              have h0 : ((acc.length : Int) == 0) = false := by
                rw [beq_eq_false_iff_ne]; intro e; exact hacc (List.length_eq_zero_iff.1 (by exact_mod_cast e))
              clear hT hacc hq hqr
              go_wp2_with (fail)
              refine (bString_any HS2.out.sb).mono ?_
              rintro e w3 ⟨rfl, hb3⟩
              rw [Nat.min_eq_right (by omega)] at hb3
              have ht3 : TS w j A c D d (y :: ys) w3 := (HS2.out.ts hjl HJ0.out).below (by omega) hb3
              have HT3 := Lib.hid ht3
              clear hb3 ht3 HS2 s0 s1 s2 s3 sl hfz0 hfz1 hfz2 hfz3
              go_wp2_with (fail)
              refine (HQ.out NT w3 (HTL.out.fr hNT HT3.out.fr)).mono ?_
              rintro e w4 ⟨hb4, hq4⟩
              have ht4 : TS w j A c D d (y :: ys) w4 := HT3.out.below HT3.out.size hb4
              have HT4 := Lib.hid ht4
              obtain ⟨s0, s1, s2, s3, sf, sl⟩ := slot_cells ht4.slot
              have hfz0 := sf 0
              have hfz1 := sf 1
              have hfz2 := sf 2
              have hfz3 := sf 3
              clear sf ht4 hb4 HT3 HTL HQ
              cases q with
              | none =>
                obtain ⟨v, ⟨t, a, rfl⟩, rfl⟩ := hq4
                go_wp2_with (fail)
                have hw5 := Lib.hid (set4 HT4.out.slot (.int .u8 0) (.string ⟨#[]⟩) (.slice none 0 0) (.slice none 0 0))
                refine bodyPost_ret (ret4 (T := 206) (x0 := .int .u8 0) (x1 := .string ⟨#[]⟩) (x2 := .slice none 0 0) (x3 := .slice none 0 0) hw5.out rfl rfl) rfl ?_
                obtain ⟨hf5, hj5⟩ := HT4.out.set4 (.int .u8 0) (.string ⟨#[]⟩) (.slice none 0 0) (.slice none 0 0)
                exact SPost.no HQR.out.symm rfl ⟨_, _, rfl⟩ hf5 ⟨_, hj5⟩
              | some s =>
                subst hq4
                go_wp2_with (fail)
                have hw5 := Lib.hid (set4 HT4.out.slot (.int .u8 0) (.string s) (.slice none 0 0) (.slice none 0 0))
                refine bodyPost_ret (ret4 (T := 206) (x0 := .int .u8 0) (x1 := .string s) (x2 := .slice none 0 0) (x3 := .slice none 0 0) hw5.out rfl rfl) rfl ?_
                obtain ⟨hf5, hj5⟩ := HT4.out.set4 (.int .u8 0) (.string s) (.slice none 0 0) (.slice none 0 0)
                exact SPost.ok HQR.out.symm rfl hf5 hj5
          · go_wp2_with (go_at_call 85; refine (isWs_any _ _ _).mono ?_; rw [ews]; rintro e w' ⟨rfl, rfl⟩)
            refine (fun (k : ∀ W, SRel w j A c D d (x :: r0) W acc (y :: ys) → Calls _ _ _ W _) => k _ HSP.out) ?_
            intro W hS2
            have hT := hS2.tok (Or.inr ⟨y, ys, rfl, HST.out⟩)
            have HS2 := Lib.hid hS2
            obtain ⟨s0, s1, s2, s3, sf, sl⟩ := slot_cells hS2.slot
            have hfz0 := sf 0
            have hfz1 := sf 1
            have hfz2 := sf 2
            have hfz3 := sf 3
            clear sf hS2
            refine (bLen_any HS2.out.sb).mono ?_
            rintro e w' ⟨rfl, rfl⟩
            by_cases hacc : acc = []
            · rw [if_pos hacc] at hT
              have HN := Lib.hid (HRES.out.none_of hT)
              have h0 : ((acc.length : Int) == 0) = true := by rw [hacc]; rfl
              clear hT hacc
              go_wp2_with (go_at_call 63; refine (errorsNew_any _ _).mono ?_; rintro e w' ⟨rfl, rfl⟩)
              clear HTL
              have hw5 := Lib.hid (set4 HS2.out.slot (.int .u8 0) (.string ⟨#[]⟩) (.slice none 0 0) (.slice none 0 0))
              refine bodyPost_ret (ret4 (T := 206) (x0 := .int .u8 0) (x1 := .string ⟨#[]⟩) (x2 := .slice none 0 0) (x3 := .slice none 0 0) ?_ rfl rfl) rfl ?_
              · rw [Below.heap_alloc _ _ _ (by simp only [World.size_setCell']; exact sl)]; exact hw5.out
              · have hfr : Fr j w _ := (HS2.out.fr.set4 (Nat.le_refl _) (.int .u8 0) (.string ⟨#[]⟩) (.slice none 0 0) (.slice none 0 0)).alloc (.cells #[.string ⟨#[77, 105, 115, 115, 105, 110, 103, 32, 97, 114, 103, 117, 109, 101, 110, 116]⟩] 223)
                refine SPost.no rfl HN.out ⟨_, _, rfl⟩ hfr ⟨_, JR.from HJ0.out hfr HS2.out.jr ?_⟩
                rw [Below.heap_alloc _ _ _ (by simp only [World.size_setCell']; omega), set4_other (by omega)]
            · rw [if_neg hacc] at hT
              obtain ⟨q, hq, hqr⟩ := HRES.out.some_of hT
              have HQ := Lib.hid hq
              have HQR := Lib.hid hqr
              have h0 : ((acc.length : Int) == 0) = false := by
                rw [beq_eq_false_iff_ne]; intro e; exact hacc (List.length_eq_zero_iff.1 (by exact_mod_cast e))
              clear hT hacc hq hqr
              go_wp2_with (fail)
              refine (bString_any HS2.out.sb).mono ?_
              rintro e w3 ⟨rfl, hb3⟩
              rw [Nat.min_eq_right (by omega)] at hb3
              have ht3 : TS w j A c D d (y :: ys) w3 := (HS2.out.ts hjl HJ0.out).below (by omega) hb3
              have HT3 := Lib.hid ht3
              clear hb3 ht3 HS2 s0 s1 s2 s3 sl hfz0 hfz1 hfz2 hfz3
              go_wp2_with (fail)
              refine (HQ.out NT w3 (HTL.out.fr hNT HT3.out.fr)).mono ?_
              rintro e w4 ⟨hb4, hq4⟩
              have ht4 : TS w j A c D d (y :: ys) w4 := HT3.out.below HT3.out.size hb4
              have HT4 := Lib.hid ht4
              obtain ⟨s0, s1, s2, s3, sf, sl⟩ := slot_cells ht4.slot
              have hfz0 := sf 0
              have hfz1 := sf 1
              have hfz2 := sf 2
              have hfz3 := sf 3
              clear sf ht4 hb4 HT3 HTL HQ
              cases q with
              | none =>
                obtain ⟨v, ⟨t, a, rfl⟩, rfl⟩ := hq4
                go_wp2_with (fail)
                have hw5 := Lib.hid (set4 HT4.out.slot (.int .u8 0) (.string ⟨#[]⟩) (.slice none 0 0) (.slice none 0 0))
                refine bodyPost_ret (ret4 (T := 206) (x0 := .int .u8 0) (x1 := .string ⟨#[]⟩) (x2 := .slice none 0 0) (x3 := .slice none 0 0) hw5.out rfl rfl) rfl ?_
                obtain ⟨hf5, hj5⟩ := HT4.out.set4 (.int .u8 0) (.string ⟨#[]⟩) (.slice none 0 0) (.slice none 0 0)
                exact SPost.no HQR.out.symm rfl ⟨_, _, rfl⟩ hf5 ⟨_, hj5⟩
              | some s =>
                subst hq4
                go_wp2_with (fail)
                have hw5 := Lib.hid (set4 HT4.out.slot (.int .u8 0) (.string s) (.slice none 0 0) (.slice none 0 0))
                refine bodyPost_ret (ret4 (T := 206) (x0 := .int .u8 0) (x1 := .string s) (x2 := .slice none 0 0) (x3 := .slice none 0 0) hw5.out rfl rfl) rfl ?_
                obtain ⟨hf5, hj5⟩ := HT4.out.set4 (.int .u8 0) (.string s) (.slice none 0 0) (.slice none 0 0)
                exact SPost.ok HQR.out.symm rfl hf5 hj5
        · have hst : stopB y = false := by simpa using hst
          have HST := Lib.hid hst
          have hne : (((y.toNat : Int) == 44) = false ∧ ((y.toNat : Int) == 93) = false ∧ ((y.toNat : Int) == 125) = false) ∧ wsB y = false := by
            simp only [stopB, Bool.or_eq_false_iff, beq_eq_false_iff_ne] at hst
            exact ⟨⟨u8_ne (n := 44) (by omega) hst.1.1.1, u8_ne (n := 93) (by omega) hst.1.1.2, u8_ne (n := 125) (by omega) hst.1.2⟩, hst.2⟩
          obtain ⟨⟨e44, e93, e125⟩, ews⟩ := hne
          have hlen2 := hS2.len
          have HSB : Hid (SB (w.heap.size + 2) (w.heap.size + 1) acc w1) := hS2.sb.fr hf1 (by omega) (by omega)
          clear hS2 HSX HS c0 c1 hf1 hJ1 hD3 hst s0 s1 s2 s3 hfz0 hfz1 hfz2 hfz3
          go_wp2_with (first | (go_at_call 85; refine (isWs_any _ _ _).mono ?_; rw [ews]; rintro e w' ⟨rfl, rfl⟩) | (go_at_call 138; refine (writeByte_any y HSB.out (by simp at hlen2; omega)).mono ?_; rintro e w3 ⟨rfl, hf3, hs3⟩))
          go_roundg (ys.length + 1)
          case measure => have := hkq.out; simp at this; omega
          case rel => exact ⟨_, ys, Lib.hid (Nat.lt_succ_self _), HS2.out.push hjl HJ0.out HF1.out (JQ.toR ⟨i3, HJ1.out, HD3.out⟩) hf3 hs3 HST.out HY.out⟩
      · have HB := Lib.hid (hS.bad (by omega))
        obtain ⟨i2, hW, hD2⟩ := hS.jr
        have c0 := hW.c0
        have c1 := hW.c1
        have hlt : ¬ D.length ≤ i2 := by
          have := congrArg List.length hD2; simp at this; omega
        have HSX : Hid (∀ m, TS w j A c D d (y :: ys) (wr.drewN m)) := fun m => by have k := hS.ts hjl HJ0.out; exact ⟨k.lt, k.j0, k.fr.drewN m, k.jr.drewN m, k.slot⟩
        clear hW hD2 hS
        go_wp2
        go_quiet (fail)
        go_wp2_with (fail)
        refine (fun (k : ∀ W, TS w j A c D d (y :: ys) W → Calls _ _ _ W _) => k _ (HSX.out _)) ?_
        intro W hS2
        have HS2 := Lib.hid hS2
        refine (next_stop hS2.jr (fun x r e => by injection e with e1 e2; subst e1; omega)).mono ?_
        rintro e w1 ⟨v, ⟨t, a, rfl⟩, rfl, hf1, r1, hJ1⟩
        have ht4 := hS2.read hf1 hJ1
        have HT4 := Lib.hid ht4
        obtain ⟨s0, s1, s2, s3, sf, sl⟩ := slot_cells ht4.slot
        have hfz0 := sf 0
        have hfz1 := sf 1
        have hfz2 := sf 2
        have hfz3 := sf 3
        clear sf ht4 hf1 hJ1 hS2 HS2 HSX HS HTL c0 c1
        go_wp2_with (fail)
        have hw5 := Lib.hid (set4 HT4.out.slot (.int .u8 0) (.string ⟨#[]⟩) (.slice none 0 0) (.slice none 0 0))
        refine bodyPost_ret (ret4 (T := 206) (x0 := .int .u8 0) (x1 := .string ⟨#[]⟩) (x2 := .slice none 0 0) (x3 := .slice none 0 0) hw5.out rfl rfl) rfl ?_
        obtain ⟨hf5, hj5⟩ := HT4.out.set4 (.int .u8 0) (.string ⟨#[]⟩) (.slice none 0 0) (.slice none 0 0)
        exact SPost.no rfl (HRES.out.none_of HB.out) ⟨_, _, rfl⟩ hf5 ⟨_, hj5⟩
end Go.Proofs.YtjganhmbjffjfaaGreatDoor
