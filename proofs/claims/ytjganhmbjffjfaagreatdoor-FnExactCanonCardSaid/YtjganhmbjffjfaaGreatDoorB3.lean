/- strings.Builder: what its writing methods do. strings.Builder, not read yet: WriteByte, with the row that it keeps apart from. strings.Builder, not read yet: WriteString, with the row that it keeps apart from. -/
import Derived.Test.YtjganhmbjffjfaaGreatDoorT0
import Derived.Test.YtjganhmbjffjfaaGreatDoorShelf
import Derived.Lib.FrozenHead2
import Derived.Laws.MakeOwn
import Derived.Maps.AppendAt
open Go Go.RowKit
namespace Go.Proofs.YtjganhmbjffjfaaGreatDoor

/-- Below block R all blocks but b are as they were. -/
structure FrR (R b : Nat) (w w' : World) : Prop where
  os : w'.os = w.os
  tape : w'.tape = w.tape
  output : w'.output = w.output
  size : w.heap.size ≤ w'.heap.size
  block : ∀ k, k < R → k ≠ b → w'.heap[k]? = w.heap[k]?
theorem FrR.refl (R b : Nat) (w : World) : FrR R b w w := ⟨rfl, rfl, rfl, Nat.le_refl _, fun _ _ _ => rfl⟩
theorem FrR.trans {R b : Nat} {a w w' : World} (h : FrR R b a w) (k : FrR R b w w') : FrR R b a w' :=
  ⟨k.os.trans h.os, k.tape.trans h.tape, k.output.trans h.output, Nat.le_trans h.size k.size, fun i hi hj => (k.block i hi hj).trans (h.block i hi hj)⟩
theorem FrR.drewN {R b : Nat} {a w : World} (h : FrR R b a w) (n : Nat) : FrR R b a (w.drewN n) := ⟨h.os, h.tape, h.output, h.size, h.block⟩
theorem FrR.drew {R b : Nat} {a w : World} (h : FrR R b a w) : FrR R b a w.drew := ⟨h.os, h.tape, h.output, h.size, h.block⟩
theorem FrR.alloc {R b : Nat} {a w : World} (h : FrR R b a w) (hR : R ≤ w.heap.size) (o : Obj) : FrR R b a (w.alloc o) :=
  ⟨h.os, h.tape, h.output, Nat.le_trans h.size (by rw [World.size_alloc]; omega), fun k hk hj => (Below.heap_alloc w o k (by omega)).trans (h.block k hk hj)⟩
theorem FrR.setCell {R b : Nat} {a w : World} (h : FrR R b a w) {p : Addr} (hp : p.block = b ∨ R ≤ p.block) (u : Value) : FrR R b a (w.setCell p u) :=
  ⟨h.os, h.tape, h.output, by rw [World.size_setCell']; exact h.size, fun k hk hj => (Below.heap_setCell w p u k (by rcases hp with hp | hp <;> omega)).trans (h.block k hk hj)⟩
theorem FrR.below {R b : Nat} {a w w' : World} (h : FrR R b a w) (hR : R ≤ w.heap.size) (hb : Below w.heap.size w w') : FrR R b a w' :=
  ⟨hb.os.trans h.os, hb.tape.trans h.tape, hb.output.trans h.output, Nat.le_trans h.size hb.size, fun k hk hj => (hb.block k (by omega)).trans (h.block k hk hj)⟩
theorem FrR.toBelow {R b : Nat} {a w : World} (h : FrR R b a w) {B : Nat} (hB : B ≤ R) (hb : B ≤ b) : Below B a w :=
  ⟨h.os, h.tape, h.output, h.size, fun k hk => h.block k (by omega) (by omega)⟩
theorem FrR.cell {R b : Nat} {a w : World} (h : FrR R b a w) {p : Addr} (hp : p.block < R) (hb : p.block ≠ b) : w.cell? p = a.cell? p := World.cell?_of_block (h.block p.block hp hb)
theorem FrR.toFr {j b : Nat} {a w : World} (h : FrR a.heap.size b a w) (hj : a.heap.size ≤ b ∨ b = j) : Fr j a w :=
  ⟨h.os, h.tape, h.output, h.size, fun k hk hkj => h.block k hk (by omega)⟩

/-- A Builder in block b that holds the bytes l; its buffer lies from block R on. -/
def SB (R b : Nat) (l : List UInt8) (w : World) : Prop :=
  ∃ p v, w.heap[b]? = some (.cells #[p, v] 134 (0, 0)) ∧ (p = .pointer none ∨ p = .pointer (some ⟨b, 0, none⟩)) ∧
    w.ownsRowF R 5 1 v l.length (Lib.byteCells l) ∧ v.ownBlock ≠ some b ∧ R ≤ w.heap.size
theorem SB.lt {R b : Nat} {l : List UInt8} {w : World} (h : SB R b l w) : b < w.heap.size := by
  obtain ⟨p, v, hb, _⟩ := h
  rcases Nat.lt_or_ge b w.heap.size with h | h
  · exact h
  · rw [Array.getElem?_eq_none h] at hb; cases hb
theorem ownsRowF_same {w w' : World} {R : Nat} {e : TypeId} {v : Value} {n : Nat} {xs : List Value} (h : w.ownsRowF R e 1 v n xs) (hs : ∀ k, v.ownBlock = some k → w'.heap[k]? = w.heap[k]?) : w'.ownsRowF R e 1 v n xs := by
  refine ⟨h.1, ?_⟩
  rcases h.2 with hn | ⟨g, cap, cur, fz, rfl, hb, hg, rest⟩
  · exact .inl hn
  · exact .inr ⟨g, cap, cur, fz, rfl, hb, by rw [hs g rfl]; exact hg, rest⟩
/-- What leaves the Builder's blocks alone leaves the Builder. -/
theorem SB.kept {R b : Nat} {l : List UInt8} {w w' : World} (h : SB R b l w) (hs : w.heap.size ≤ w'.heap.size) (hk : ∀ k, k < w.heap.size → (k = b ∨ R ≤ k) → w'.heap[k]? = w.heap[k]?) : SB R b l w' := by
  have hlt := h.lt
  obtain ⟨p, v, hb, hp, hown, hne, hR⟩ := h
  refine ⟨p, v, by rw [hk b hlt (Or.inl rfl)]; exact hb, hp, ownsRowF_same hown (fun k e => ?_), hne, by omega⟩
  obtain ⟨h1, h2⟩ := hown.lt k e
  exact hk k h2 (Or.inr h1)
theorem SB.fr {R b j : Nat} {l : List UInt8} {w w' : World} (h : SB R b l w) (hf : Fr j w w') (hj : j < R) (hjb : j ≠ b) : SB R b l w' :=
  h.kept hf.size (fun k hk e => hf.block k hk (by omega))
theorem SB.below {R b : Nat} {l : List UInt8} {w w' : World} (h : SB R b l w) (hb : Below w.heap.size w w') : SB R b l w' :=
  h.kept hb.size (fun k hk _ => hb.block k hk)
theorem SB.drewN {R b : Nat} {l : List UInt8} {w : World} (h : SB R b l w) (n : Nat) : SB R b l (w.drewN n) := h
theorem SB.new {R b : Nat} {w : World} (hb : w.heap[b]? = some (.cells #[.pointer none, .slice none 0 0] 134 (0, 0))) (hR : R ≤ w.heap.size) : SB R b [] w :=
  ⟨_, _, hb, Or.inl rfl, World.ownsRowF_nil _ _ _ _, by simp [Value.ownBlock], hR⟩
theorem byteCells_append (l m : List UInt8) : Lib.byteCells (l ++ m) = Lib.byteCells l ++ Lib.byteCells m := by simp [Lib.byteCells]
theorem byteCells_length (l : List UInt8) : (Lib.byteCells l).length = l.length := by simp [Lib.byteCells]

set_option maxRecDepth 100000 in
set_option maxHeartbeats 1000000 in
theorem copyCheck_new (b : Nat) (v : Value) (w : World) (hb : w.heap[b]? = some (.cells #[.pointer none, v] 134 (0, 0))) :
    Calls Tryz.prog 115 #[.pointer (some ⟨b, 0, none⟩)] w fun e w' => e = .returned (.tuple #[]) ∧ w.setCell ⟨b, 0, none⟩ (.pointer (some ⟨b, 0, none⟩)) = w' := by
  obtain ⟨j, hj, hjs⟩ := Option.map_eq_some_iff.1 (show (Tryz.prog.info? 134).map (·.size) = some 2 by kernel_rfl)
  have h0 : w.cell? ⟨b, 0, none⟩ = some (.pointer none) := by simp [World.cell?, hb]
  have hfz : w.frozen? ⟨b, 0, none⟩ = false := by simp [World.frozen?, hb]
  have hsh : w.shape? b = some (134, 2) := by simp [World.shape?, hb]
  clear hb
  go_enter Tryz.func115, Tryz.ntmps115
  go_wp2
  rw [Lib.run_to_unsafe w ⟨b, 0, none⟩ Tryz.underlying132 Tryz.underlying281 hj (by rw [hjs]; decide) hsh (Nat.zero_lt_succ 1)]
  simp only [Result.andThen]
  rw [Oper.upon_value]
  go_wp2
  rw [run_callFunc_extern Tryz.func139 (by kernel_rfl) (by kernel_rfl) (by kernel_rfl) (e := Extern.AbiNoEscape.same) (by kernel_rfl)]
  rw [Lib.run_noEscape]
  simp only [Result.andThen]
  rw [Oper.upon_value]
  go_wp2
  rw [Lib.run_from_unsafe w ⟨b, 0, none⟩ Tryz.underlying281 Tryz.underlying132 hj hsh (by kernel_rfl)]
  simp only [Result.andThen]
  rw [Oper.upon_value]
  go_wp2
  go_end0
  exact ⟨rfl, rfl⟩

set_option maxRecDepth 100000 in
set_option maxHeartbeats 400000 in
theorem copyCheck_used (b : Nat) (v : Value) (w : World) (hb : w.heap[b]? = some (.cells #[.pointer (some ⟨b, 0, none⟩), v] 134 (0, 0))) :
    Calls Tryz.prog 115 #[.pointer (some ⟨b, 0, none⟩)] w fun e w' => e = .returned (.tuple #[]) ∧ w = w' := by
  obtain ⟨j, hj, _⟩ := Option.map_eq_some_iff.1 (show (Tryz.prog.info? 134).map (·.size) = some 2 by kernel_rfl)
  have h0 : w.cell? ⟨b, 0, none⟩ = some (.pointer (some ⟨b, 0, none⟩)) := by simp [World.cell?, hb]
  clear hb
  go_enter Tryz.func115, Tryz.ntmps115
  go_wp2
  rw [Lib.run_neq_ptr_same w _ Tryz.underlying132 hj]
  go_wp2
  go_end0
  exact ⟨rfl, rfl⟩

/-- A Builder that is used. -/
def SBU (R b : Nat) (v : Value) (l : List UInt8) (w : World) : Prop :=
  w.heap[b]? = some (.cells #[.pointer (some ⟨b, 0, none⟩), v] 134 (0, 0)) ∧ w.ownsRowF R 5 1 v l.length (Lib.byteCells l) ∧ v.ownBlock ≠ some b ∧ R ≤ w.heap.size
theorem SBU.to {R b : Nat} {v : Value} {l : List UInt8} {w : World} (h : SBU R b v l w) : SB R b l w := ⟨_, v, h.1, Or.inr rfl, h.2.1, h.2.2.1, h.2.2.2⟩

theorem copyCheck_any {R b : Nat} {l : List UInt8} {w : World} (h : SB R b l w) :
    Calls Tryz.prog 115 #[.pointer (some ⟨b, 0, none⟩)] w fun e w' => e = .returned (.tuple #[]) ∧ FrR R b w w' ∧ ∃ v, SBU R b v l w' := by
  obtain ⟨p, v, hb, hp, hown, hne, hR⟩ := h
  rcases hp with rfl | rfl
  · refine (copyCheck_new b v w hb).mono ?_
    rintro e w' ⟨rfl, rfl⟩
    refine ⟨rfl, (FrR.refl R b w).setCell (p := ⟨b, 0, none⟩) (Or.inl rfl) _, v, ?_, ownsRowF_same hown (fun k e => ?_), hne, by rw [World.size_setCell']; exact hR⟩
    · simp [World.setCell, Array.getElem?_modify, hb]
    · exact Below.heap_setCell _ _ _ _ (by intro e2; exact hne (by rw [e, e2]))
  · refine (copyCheck_used b v w hb).mono ?_
    rintro e w' ⟨rfl, rfl⟩
    exact ⟨rfl, FrR.refl _ _ _, v, hb, hown, hne, hR⟩

theorem info_u8 : (Tryz.prog.info? 5).map (fun i => (i.zero, i.size, i.bytes)) = some (some (.int .u8 0), 1, 1) := by kernel_rfl

/-- What stands behind an append to a Builder's buffer and the store of what it gave. -/
theorem SBU.put {R b : Nat} {v v' : Value} {l l' : List UInt8} {w w2 : World} (h : SBU R b v l w) (hb2 : w2.heap[b]? = some (.cells #[.pointer (some ⟨b, 0, none⟩), v] 134 (0, 0))) (hs : w.heap.size ≤ w2.heap.size)
    (hown : w2.ownsRowF R 5 1 v' l'.length (Lib.byteCells l')) (hne : v'.ownBlock ≠ some b) : SB R b l' (w2.setCell ⟨b, 1, none⟩ v') := by
  refine ⟨_, v', ?_, Or.inr rfl, ownsRowF_same hown (fun k e => ?_), hne, by rw [World.size_setCell']; exact Nat.le_trans h.2.2.2 hs⟩
  · simp [World.setCell, Array.getElem?_modify, hb2]
  · exact Below.heap_setCell _ _ _ _ (by intro e2; exact hne (by rw [e, e2]))

/-- What an append to a Builder's buffer leaves. -/
structure App (R b : Nat) (v v' : Value) (l l' : List UInt8) (w w2 : World) : Prop where
  heap : w2.heap[b]? = some (.cells #[.pointer (some ⟨b, 0, none⟩), v] 134 (0, 0))
  fr : FrR R b w w2
  out : FrR R b w (w2.setCell ⟨b, 1, none⟩ v') ∧ SB R b l' (w2.setCell ⟨b, 1, none⟩ v')
  sl : ∃ a n c, v' = .slice a n c
theorem SBU.app {R b : Nat} {v v' : Value} {l l' : List UInt8} {w1 w2 : World} (h : SBU R b v l w1) (hg : w1.grownBy w2 v.ownBlock ∨ ∃ o, (w1.alloc o).grownBy w2 v.ownBlock)
    (hown' : w2.ownsRowF R 5 1 v' l'.length (Lib.byteCells l')) : App R b v v' l l' w1 w2 := by
  have hlt : b < w1.heap.size := h.to.lt
  obtain ⟨hbk, hown, hne, hR⟩ := h
  have key : FrR R b w1 w2 ∧ w2.heap[b]? = w1.heap[b]? := by
    rcases hg with hg | ⟨o, hg⟩
    · exact ⟨⟨hg.os, hg.tape, hg.output, hg.size, fun k hk hkb => hg.block k (by omega) (fun e => by have := (hown.lt k e.symm).1; omega)⟩, hg.block b hlt (fun e => hne e.symm)⟩
    · exact ⟨⟨hg.os, hg.tape, hg.output, by have := hg.size; simp at this; omega, fun k hk hkb => by
        rw [hg.block k (by simp; omega) (fun e => by have := (hown.lt k e.symm).1; omega), Below.heap_alloc w1 _ k (by omega)]⟩,
        by rw [hg.block b (by simp; omega) (fun e => hne e.symm), Below.heap_alloc w1 _ b hlt]⟩
  have hb2 := key.2.trans hbk
  have hne' : v'.ownBlock ≠ some b := by
    intro e
    rcases hown'.2 with ⟨e2, _⟩ | ⟨g, cap, cur, fz, e2, _, hg, _⟩
    · rw [e2] at e; cases e
    · rw [e2] at e; cases e; rw [hb2] at hg; cases hg
  refine ⟨hb2, key.1, ⟨key.1.setCell (p := ⟨b, 1, none⟩) (Or.inl rfl) v', SBU.put ⟨hbk, hown, hne, hR⟩ hb2 key.1.size hown' hne'⟩, ?_⟩
  rcases hown'.2 with ⟨e2, _⟩ | ⟨g, cap, cur, fz, e2, _⟩
  · exact ⟨_, _, _, e2⟩
  · exact ⟨_, _, _, e2⟩

set_option maxRecDepth 100000 in
set_option maxHeartbeats 1000000 in
theorem writeByte_any {R b : Nat} {l : List UInt8} {w : World} (c : UInt8) (h : SB R b l w) (hlen : l.length + 1 ≤ 140737488355328) :
    Calls Tryz.prog 138 #[.pointer (some ⟨b, 0, none⟩), .int .u8 c.toNat] w fun e w' => e = .returned .nilIface ∧ FrR R b w w' ∧ SB R b (l ++ [c]) w' := by
  obtain ⟨i0, hi, hz0, hz1, hz2⟩ := info_parts info_u8
  go_enter Tryz.func138, Tryz.ntmps138
  go_wp2_with (go_at_call 115; refine (copyCheck_any h).mono ?_)
  rintro e w1 ⟨rfl, hf1, v, hS⟩
  have hSS := Lib.hid hS
  obtain ⟨hbk, hown, hne, hR⟩ := hS
  have c1 : w1.cell? ⟨b, 1, none⟩ = some v := by simp [World.cell?, hbk]
  clear hbk hne
  go_wp2_with (at_builtin; refine wpList_append_ownF _ rfl _ _ 31 rfl R 5 i0 (.int .u8 0) 1 1 Tryz.underlying31 hi hz0 hz1 hz2 rfl (by decide) _ _ _ rfl (hown.alloc _) ⟨w1.heap.size, 0, none⟩ 1 1 [.int .u8 c.toNat] rfl rfl ?c1 ?c2 ?c3 ?c4 ?c5 ?_)
  case c1 =>
    intro j u hj
    match j, hj with
    | 0, hj => simp at hj; subst hj; simp [Addr.add]
  case c2 => intro u hu; simp at hu; subst hu; rfl
  case c3 => unfold maxLen; omega
  case c4 => omega
  case c5 => simp; omega
  intro v' w2 hown' hgrow _
  have hA := hSS.out.app (l' := l ++ [c]) (Or.inr ⟨_, hgrow⟩) (by rw [byteCells_append, List.length_append]; exact hown')
  have f1 : w2.frozen? ⟨b, 1, none⟩ = false := by simp [World.frozen?, hA.heap]
  have d1 : w2.cell? ⟨b, 1, none⟩ = some v := by simp [World.cell?, hA.heap]
  obtain ⟨_, _, hout, a, n, cp, rfl⟩ := hA
  clear hown' hgrow hown hSS
  go_wp2
  go_ret
  exact ⟨rfl, hf1.trans hout.1, hout.2⟩

set_option maxRecDepth 100000 in
set_option maxHeartbeats 1000000 in
theorem writeString_any {R b : Nat} {l : List UInt8} {w : World} (s : ByteArray) (h : SB R b l w) (hlen : l.length + s.size ≤ 140737488355328) :
    Calls Tryz.prog 92 #[.pointer (some ⟨b, 0, none⟩), .string s] w fun e w' => e = .returned (.tuple #[.int .i64 s.size, .nilIface]) ∧ FrR R b w w' ∧ SB R b (l ++ s.data.toList) w' := by
  obtain ⟨i0, hi, hz0, hz1, hz2⟩ := info_parts info_u8
  go_enter Tryz.func92, Tryz.ntmps92
  go_wp2_with (go_at_call 115; refine (copyCheck_any h).mono ?_)
  rintro e w1 ⟨rfl, hf1, v, hS⟩
  have hSS := Lib.hid hS
  obtain ⟨hbk, hown, hne, hR⟩ := hS
  have c1 : w1.cell? ⟨b, 1, none⟩ = some v := by simp [World.cell?, hbk]
  clear hbk hne
  go_wp2_with (at_builtin; refine Lib.wpList_append_own_stringF _ rfl _ _ 31 9 rfl R 5 i0 Tryz.underlying31 Tryz.underlying9 hi hz0 hz1 hz2 _ _ _ rfl hown s rfl ?c3 ?c4 ?c5 ?_)
  case c3 => unfold maxLen; omega
  case c4 => omega
  case c5 => omega
  intro v' w2 hown' hgrow _
  have hA := hSS.out.app (l' := l ++ s.data.toList) (Or.inl hgrow) (by
    rw [byteCells_append, List.length_append, ← Lib.size_eq s]; exact hown')
  have f1 : w2.frozen? ⟨b, 1, none⟩ = false := by simp [World.frozen?, hA.heap]
  have d1 : w2.cell? ⟨b, 1, none⟩ = some v := by simp [World.cell?, hA.heap]
  obtain ⟨_, _, hout, a, n, cp, rfl⟩ := hA
  clear hown' hgrow hown hSS
  go_wp2
  go_ret2
  exact ⟨rfl, hf1.trans hout.1, hout.2⟩

theorem encZ_byte (r : Int) : ∀ x ∈ Lib.encodeRuneZ r, 0 ≤ x ∧ x ≤ 255 := by
  intro x hx
  unfold Lib.encodeRuneZ at hx
  split at hx
  · simp at hx; omega
  split at hx
  · simp at hx; omega
  split at hx
  · simp at hx; omega
  split at hx
  · simp at hx; omega
  · simp at hx; omega
theorem runeCells_bytes (r : Int) : Lib.runeCells r = Lib.byteCells (Lib.encodeRune r) := by
  unfold Lib.runeCells Lib.encodeRune Lib.byteCells
  rw [List.map_map]
  refine List.map_congr_left fun x hx => ?_
  have := encZ_byte r x hx
  simp
  omega
theorem runeCells_len (r : Int) : (Lib.runeCells r).length = (Lib.encodeRune r).length := by rw [runeCells_bytes, byteCells_length]

set_option maxRecDepth 100000 in
set_option maxHeartbeats 1000000 in
theorem writeRune_any {R b : Nat} {l : List UInt8} {w : World} (r : Int) (hr0 : -2147483648 ≤ r) (hr1 : r ≤ 2147483647) (h : SB R b l w) (hlen : l.length + 4 ≤ 140737488355328) :
    Calls Tryz.prog 173 #[.pointer (some ⟨b, 0, none⟩), .int .i32 r] w fun e w' => (∃ n, e = .returned (.tuple #[.int .i64 n, .nilIface])) ∧ FrR R b w w' ∧ SB R b (l ++ Lib.encodeRune r) w' := by
  go_enter Tryz.func173, Tryz.ntmps173
  go_wp2_with (go_at_call 115; refine (copyCheck_any h).mono ?_)
  rintro e w1 ⟨rfl, hf1, v, hS⟩
  have hSS := Lib.hid hS
  obtain ⟨hbk, hown, hne, hR⟩ := hS
  have c1 : w1.cell? ⟨b, 1, none⟩ = some v := by simp [World.cell?, hbk]
  obtain ⟨a0, n0, cp0, rfl⟩ : ∃ a n c, v = .slice a n c := by
    rcases hown.2 with ⟨e2, _⟩ | ⟨g, cap, cur, fz, e2, _⟩
    · exact ⟨_, _, _, e2⟩
    · exact ⟨_, _, _, e2⟩
  clear hbk hne
  go_wp2_with (go_at_call 200; refine (Tryz.utf8_AppendRune_row R _ _ _ r hr0 hr1 _ hown (by omega) hR).mono ?_)
  rintro e w2 ⟨v', rfl, hown', o, hgrow⟩
  have hA := hSS.out.app (l' := l ++ Lib.encodeRune r) (Or.inr ⟨o, hgrow⟩) (by
    rw [byteCells_append, List.length_append, ← runeCells_len, ← runeCells_bytes]; exact hown')
  have f1 : w2.frozen? ⟨b, 1, none⟩ = false := by simp [World.frozen?, hA.heap]
  have d1 : w2.cell? ⟨b, 1, none⟩ = some (.slice a0 n0 cp0) := by simp [World.cell?, hA.heap]
  obtain ⟨_, _, hout, a, n, cp, rfl⟩ := hA
  clear hown' hgrow hown hSS
  go_wp2
  go_ret2
  exact ⟨⟨_, rfl⟩, hf1.trans hout.1, hout.2⟩

set_option maxRecDepth 100000 in
set_option maxHeartbeats 1000000 in
theorem write_any {R b : Nat} {l m : List UInt8} {w : World} (ad : Addr) (cp0 : Nat) (h : SB R b l w) (hlen : l.length + m.length ≤ 140737488355328) (hb : ad.block ≠ b)
    (hm : ∀ k u, (Lib.byteCells m)[k]? = some u → w.cell? (ad.add k) = some u) (hadR : ad.block < R) :
    Calls Tryz.prog 176 #[.pointer (some ⟨b, 0, none⟩), .slice (some ad) m.length cp0] w fun e w' => e = .returned (.tuple #[.int .i64 m.length, .nilIface]) ∧ FrR R b w w' ∧ SB R b (l ++ m) w' := by
  obtain ⟨i0, hi, hz0, hz1, hz2⟩ := info_parts info_u8
  have HM := Lib.hid hm
  clear hm
  go_enter Tryz.func176, Tryz.ntmps176
  go_wp2_with (go_at_call 115; refine (copyCheck_any h).mono ?_)
  rintro e w1 ⟨rfl, hf1, v, hS⟩
  have hSS := Lib.hid hS
  obtain ⟨hbk, hown, hne, hR⟩ := hS
  have c1 : w1.cell? ⟨b, 1, none⟩ = some v := by simp [World.cell?, hbk]
  clear hbk hne
  go_wp2_with (at_builtin; refine wpList_append_ownF _ rfl _ _ 31 rfl R 5 i0 (.int .u8 0) 1 1 Tryz.underlying31 hi hz0 hz1 hz2 rfl (by decide) _ _ _ rfl hown ad m.length cp0 (Lib.byteCells m) rfl (by rw [byteCells_length]; omega) ?c1 ?c2 ?c3 ?c4 ?c5 ?_)
  case c1 =>
    intro k u hk
    have hblk : (ad.add k).block = ad.block := by unfold Addr.add; split <;> rfl
    rw [hf1.cell (p := ad.add k) (by rw [hblk]; exact hadR) (by rw [hblk]; exact hb)]
    exact HM.out k u hk
  case c2 => intro u hu; simp [Lib.byteCells] at hu; obtain ⟨x, _, rfl⟩ := hu; rfl
  case c3 => unfold maxLen; omega
  case c4 => omega
  case c5 => omega
  intro v' w2 hown' hgrow _
  have hA := hSS.out.app (l' := l ++ m) (Or.inl hgrow) (by rw [byteCells_append, List.length_append]; exact hown')
  have f1 : w2.frozen? ⟨b, 1, none⟩ = false := by simp [World.frozen?, hA.heap]
  have d1 : w2.cell? ⟨b, 1, none⟩ = some v := by simp [World.cell?, hA.heap]
  obtain ⟨_, _, hout, a, n, cp, rfl⟩ := hA
  clear hown' hgrow hown hSS
  go_wp2
  go_ret2
  exact ⟨rfl, hf1.trans hout.1, hout.2⟩

theorem SB.toF {R b : Nat} {l : List UInt8} {w : World} (h : SB R b l w) : Lib.IsBuilderF 134 5 (min R b) b (Lib.byteCells l) w := by
  obtain ⟨p, v, hb, hp, hown, hne, hR⟩ := h
  have hown2 : w.ownsRowF (min R b) 5 1 v (Lib.byteCells l).length (Lib.byteCells l) := by
    rw [byteCells_length]
    refine ⟨hown.1, ?_⟩
    rcases hown.2 with e | ⟨g, cap, cur, fz, e, hg, rest⟩
    · exact .inl e
    · exact .inr ⟨g, cap, cur, fz, e, by omega, rest⟩
  rcases hp with rfl | rfl
  · exact .inl ⟨by omega, v, hb, hown2, hne⟩
  · exact .inr ⟨by omega, v, hb, hown2, hne⟩
theorem bString_any {R b : Nat} {l : List UInt8} {w : World} (h : SB R b l w) :
    Calls Tryz.prog 65 #[.pointer (some ⟨b, 0, none⟩)] w fun e w' => e = .returned (.string ⟨l.toArray⟩) ∧ Below (min R b) w w' := by
  refine (Tryz.Builder_String_any_k (min R b) b l w h.toF (by have := h.lt; obtain ⟨_, _, _, _, _, _, hR⟩ := h; omega)).mono ?_
  rintro e w' ⟨rfl, _, hb, _⟩
  exact ⟨rfl, hb⟩
theorem bLen_any {R b : Nat} {l : List UInt8} {w : World} (h : SB R b l w) :
    Calls Tryz.prog 179 #[.pointer (some ⟨b, 0, none⟩)] w fun e w' => e = .returned (.int .i64 l.length) ∧ w = w' := by
  refine (Tryz.Builder_Len_f (min R b) b _ w h.toF).mono ?_
  rintro e w' ⟨rfl, rfl⟩
  exact ⟨by rw [byteCells_length], rfl⟩

/-- The block of a Builder's buffer. -/
def bRow (w : World) (b : Nat) : Option Nat := match w.heap[b]? with
  | some (.cells c _ _) => (c.getD 1 undef).ownBlock
  | _ => none
/-- A Builder that was not read. -/
def PB (R b : Nat) (l : List UInt8) (w : World) : Prop :=
  ∃ p v, w.heap[b]? = some (.cells #[p, v] 134 (0, 0)) ∧ (p = .pointer none ∨ p = .pointer (some ⟨b, 0, none⟩)) ∧
    w.ownsRow R 5 1 v l.length (Lib.byteCells l) ∧ v.ownBlock ≠ some b ∧ R ≤ w.heap.size
theorem PB.to {R b : Nat} {l : List UInt8} {w : World} (h : PB R b l w) : SB R b l w := by
  obtain ⟨p, v, h1, h2, h3, h4, h5⟩ := h
  exact ⟨p, v, h1, h2, World.ownsRowF_of h3, h4, h5⟩
theorem PB.new {R b : Nat} {w : World} (hb : w.heap[b]? = some (.cells #[.pointer none, .slice none 0 0] 134 (0, 0))) (hR : R ≤ w.heap.size) : PB R b [] w :=
  ⟨_, _, hb, Or.inl rfl, ⟨by simp [Lib.byteCells], .inl ⟨rfl, rfl⟩⟩, by simp [Value.ownBlock], hR⟩
/-- The blocks that a Builder's writing keeps. -/
def Kp (b : Nat) (w w' : World) : Prop := w.heap.size ≤ w'.heap.size ∧ ∀ X, X < w.heap.size → X ≠ b → bRow w b ≠ some X → w'.heap[X]? = w.heap[X]? ∧ bRow w' b ≠ some X
theorem Kp.trans {b : Nat} {w w1 w2 : World} (h : Kp b w w1) (k : Kp b w1 w2) : Kp b w w2 :=
  ⟨Nat.le_trans h.1 k.1, fun X hX hb hr => by
    obtain ⟨h1, h2⟩ := h.2 X hX hb hr
    obtain ⟨k1, k2⟩ := k.2 X (Nat.lt_of_lt_of_le hX h.1) hb h2
    exact ⟨k1.trans h1, k2⟩⟩
theorem Kp.refl (b : Nat) (w : World) : Kp b w w := ⟨Nat.le_refl _, fun _ _ _ h => ⟨rfl, h⟩⟩
/-- A Builder that is used and was not read. -/
def PBU (R b : Nat) (v : Value) (l : List UInt8) (w : World) : Prop :=
  w.heap[b]? = some (.cells #[.pointer (some ⟨b, 0, none⟩), v] 134 (0, 0)) ∧ w.ownsRow R 5 1 v l.length (Lib.byteCells l) ∧ v.ownBlock ≠ some b ∧ R ≤ w.heap.size
theorem ownsRow_same {w w' : World} {R : Nat} {e : TypeId} {v : Value} {n : Nat} {xs : List Value} (h : w.ownsRow R e 1 v n xs) (hs : ∀ k, v.ownBlock = some k → w'.heap[k]? = w.heap[k]?) : w'.ownsRow R e 1 v n xs := by
  refine ⟨h.1, ?_⟩
  rcases h.2 with hn | ⟨g, cap, cur, rfl, hb, hg, rest⟩
  · exact .inl hn
  · exact .inr ⟨g, cap, cur, rfl, hb, by rw [hs g rfl]; exact hg, rest⟩
theorem PBU.sbu {R b : Nat} {v : Value} {l : List UInt8} {w : World} (h : PBU R b v l w) : SBU R b v l w := ⟨h.1, World.ownsRowF_of h.2.1, h.2.2.1, h.2.2.2⟩
theorem bRow_of {w : World} {b : Nat} {p v : Value} {T : TypeId} {f : Nat × Nat} (h : w.heap[b]? = some (.cells #[p, v] T f)) : bRow w b = v.ownBlock := by simp [bRow, h]
theorem copyCheck_pb {R b : Nat} {l : List UInt8} {w : World} (h : PB R b l w) :
    Calls Tryz.prog 115 #[.pointer (some ⟨b, 0, none⟩)] w fun e w' => e = .returned (.tuple #[]) ∧ FrR R b w w' ∧ Kp b w w' ∧ ∃ v, PBU R b v l w' := by
  obtain ⟨p, v, hb, hp, hown, hne, hR⟩ := h
  rcases hp with rfl | rfl
  · refine (copyCheck_new b v w hb).mono ?_
    rintro e w' ⟨rfl, rfl⟩
    have hb' : (w.setCell ⟨b, 0, none⟩ (.pointer (some ⟨b, 0, none⟩))).heap[b]? = some (.cells #[.pointer (some ⟨b, 0, none⟩), v] 134 (0, 0)) := by
      simp [World.setCell, Array.getElem?_modify, hb]
    refine ⟨rfl, (FrR.refl R b w).setCell (p := ⟨b, 0, none⟩) (Or.inl rfl) _, ⟨by rw [World.size_setCell']; exact Nat.le_refl _, fun X hX hXb hr => ⟨Below.heap_setCell _ _ _ _ hXb, ?_⟩⟩, v, hb', ownsRow_same hown (fun k e => ?_), hne, by rw [World.size_setCell']; exact hR⟩
    · rw [bRow_of hb']; rw [bRow_of hb] at hr; exact hr
    · exact Below.heap_setCell _ _ _ _ (by intro e2; exact hne (by rw [e, e2]))
  · refine (copyCheck_used b v w hb).mono ?_
    rintro e w' ⟨rfl, rfl⟩
    exact ⟨rfl, FrR.refl _ _ _, Kp.refl _ _, v, hb, hown, hne, hR⟩

theorem PB.lt {R b : Nat} {l : List UInt8} {w : World} (h : PB R b l w) : b < w.heap.size := h.to.lt
theorem PB.below {R b : Nat} {l : List UInt8} {w w' : World} (h : PB R b l w) (hb : Below w.heap.size w w') : PB R b l w' := by
  have hlt := h.lt
  obtain ⟨p, v, h1, h2, h3, h4, h5⟩ := h
  refine ⟨p, v, by rw [hb.block b hlt]; exact h1, h2, ownsRow_same h3 (fun k e => hb.block k ?_), h4, Nat.le_trans h5 hb.size⟩
  exact ((World.ownsRowF_of h3).lt k e).2
theorem Kp.below {b : Nat} {w w' : World} (hl : b < w.heap.size) (hb : Below w.heap.size w w') : Kp b w w' :=
  ⟨hb.size, fun X hX _ hr => ⟨hb.block X hX, by unfold bRow at *; rw [hb.block b hl]; exact hr⟩⟩
theorem PB.rowlt {R b : Nat} {l : List UInt8} {w : World} (h : PB R b l w) (X : Nat) (hX : w.heap.size ≤ X) : bRow w b ≠ some X := by
  obtain ⟨p, v, h1, h2, h3, h4, h5⟩ := h
  rw [bRow_of h1]
  intro e
  have := ((World.ownsRowF_of h3).lt X e).2
  omega

set_option maxRecDepth 100000 in
set_option maxHeartbeats 1000000 in
theorem writeByte_pb {R b : Nat} {l : List UInt8} {w : World} (c : UInt8) (h : PB R b l w) (hlen : l.length + 1 ≤ 140737488355328) :
    Calls Tryz.prog 138 #[.pointer (some ⟨b, 0, none⟩), .int .u8 c.toNat] w fun e w' => e = .returned .nilIface ∧ FrR R b w w' ∧ Kp b w w' ∧ PB R b (l ++ [c]) w' := by
  obtain ⟨i0, hi, hz0, hz1, hz2⟩ := info_parts info_u8
  go_enter Tryz.func138, Tryz.ntmps138
  go_wp2_with (go_at_call 115; refine (copyCheck_pb h).mono ?_)
  rintro e w1 ⟨rfl, hf1, hk1, v, hS⟩
  have hSS := Lib.hid hS
  obtain ⟨hbk, hown, hne, hR⟩ := hS
  have c1 : w1.cell? ⟨b, 1, none⟩ = some v := by simp [World.cell?, hbk]
  clear hbk hne
  go_wp2_with (at_builtin; refine wpList_append_own_at _ rfl _ _ 31 rfl R 5 i0 (.int .u8 0) 1 1 Tryz.underlying31 hi hz0 hz1 hz2 rfl (by decide) _ _ _ rfl (hown.alloc _) ⟨w1.heap.size, 0, none⟩ 1 1 [.int .u8 c.toNat] rfl rfl ?c1 ?c2 ?c3 ?c4 ?c5 ?_)
  case c1 =>
    intro j u hj
    match j, hj with
    | 0, hj => simp at hj; subst hj; simp [Addr.add]
  case c2 => intro u hu; simp at hu; subst hu; rfl
  case c3 => unfold maxLen; omega
  case c4 => omega
  case c5 => simp; omega
  intro v' w2 hown' hgrow _ hat
  have hA := hSS.out.sbu.app (l' := l ++ [c]) (Or.inr ⟨_, hgrow⟩) (by rw [byteCells_append, List.length_append]; exact World.ownsRowF_of hown')
  have f1 : w2.frozen? ⟨b, 1, none⟩ = false := by simp [World.frozen?, hA.heap]
  have d1 : w2.cell? ⟨b, 1, none⟩ = some v := by simp [World.cell?, hA.heap]
  have hb3 : (w2.setCell ⟨b, 1, none⟩ v').heap[b]? = some (.cells #[.pointer (some ⟨b, 0, none⟩), v'] 134 (0, 0)) := by
    simp [World.setCell, Array.getElem?_modify, hA.heap]
  have hne' : v'.ownBlock ≠ some b := by
    intro e
    rcases hown'.2 with ⟨e2, _⟩ | ⟨g, cap, cur, e2, _, hg, _⟩
    · rw [e2] at e; cases e
    · rw [e2] at e; cases e; rw [hA.heap] at hg; cases hg
  have hP : PB R b (l ++ [c]) (w2.setCell ⟨b, 1, none⟩ v') := by
    refine ⟨_, v', hb3, Or.inr rfl, ownsRow_same (by rw [byteCells_append, List.length_append]; exact hown') (fun k e => ?_), hne', ?_⟩
    · exact Below.heap_setCell _ _ _ _ (by intro e2; exact hne' (by rw [e, e2]))
    · rw [World.size_setCell']; exact Nat.le_trans hR hA.fr.size
  have hK : Kp b w1 (w2.setCell ⟨b, 1, none⟩ v') := by
    refine ⟨by rw [World.size_setCell']; exact hA.fr.size, fun X hX hXb hr => ⟨?_, ?_⟩⟩
    · rw [Below.heap_setCell _ _ _ _ (by exact hXb)]
      rw [bRow_of hSS.out.1] at hr
      rw [hgrow.block X (by simp; omega) (fun e => hr e.symm), Below.heap_alloc w1 _ X hX]
    · rw [bRow_of hb3]
      rw [bRow_of hSS.out.1] at hr
      rcases hat with e | e
      · rw [e]; exact hr
      · rw [e]; simp; omega
  obtain ⟨_, _, hout, a, n, cp, rfl⟩ := hA
  clear hown' hgrow hown hSS hat hb3 hne'
  have HK := Lib.hid (hk1.trans hK)
  have HP := Lib.hid hP
  clear hk1 hK hP
  go_wp2
  go_ret
  exact ⟨rfl, hf1.trans hout.1, HK.out, HP.out⟩

section
variable {P : Program} (w : World)
/-- Where the row of an append of a string lies. -/
theorem appStr_row (base : Nat) (t u ty e : TypeId) (i : TypeInfo) (ht : P.underlying t = some (.slice e)) (hu : P.underlying u = some .string) (hi : P.info? e = some i) (hz : i.zero = some (.int .u8 0))
    (hsize : i.size = 1) (hby : i.bytes = 1) (v : Value) (n : Nat) (xs : List Value) (hown : w.ownsRow base e 1 v n xs) (s : ByteArray) (hb : n + s.size ≤ 140737488355328)
    {v' : Value} {w' : World} (hr : (Builtin.append_ #[t, u] ty #[v, .string s]).run P w = .ok v' w') : v'.ownBlock = v.ownBlock ∨ v'.ownBlock = some w.heap.size := by
  have hxl : xs.length = n := by simpa using hown.1
  rcases hown.2 with ⟨rfl, rfl⟩ | ⟨g, cap, cur, rfl, _, hg, hnc, _, hcs, _⟩
  · by_cases hm : s.size = 0
    · have hf := Lib.run_firstCells_string (P := P) w 1 s
      rw [hm] at hf
      have h2 : (Builtin.append_ #[t, u] ty #[.slice none 0 0, .string s]).run P w = .ok (.slice none 0 0) w := by
        simp [Builtin.append_, run_underlying ht, run_underlying hu, sizeOf, typeInfo, hi, hsize, Builtin.lenOf, hm, hf]
      rw [hr] at h2; injection h2 with h2 _; exact Or.inl (by rw [h2])
    · have h2 := run_append_nil_string (P := P) w t u ty e i (.int .u8 0) ht hu hi hz s (by omega) (by omega) (by rw [hby]; omega)
      rw [hr] at h2; injection h2 with h2 _; exact Or.inr (by rw [h2]; rfl)
  · by_cases hroom : n + s.size ≤ cap
    · have hcs' : cur.size = cap := by simpa using hcs
      have h2 := Lib.run_append_room_string (P := P) w t u ty e i ht hu hi hsize g n cap cur hg s hroom (by omega)
      rw [hr] at h2; injection h2 with h2 _; exact Or.inl (by rw [h2]; rfl)
    · have holds : ∀ j u, xs[j]? = some u → w.cell? ((⟨g, 0, none⟩ : Addr).add j) = some u := hown.cells (g := g) rfl
      have h2 := Lib.run_append_grow_string (P := P) w t u ty e i (.int .u8 0) ht hu hi hz ⟨g, 0, none⟩ n cap xs (by rw [hsize]; simpa using hxl) holds s (by omega) (by omega) (by rw [hby]; exact growslice_fits (by omega) (by omega))
      rw [hr] at h2; injection h2 with h2 _; exact Or.inr (by rw [h2]; rfl)

theorem wpList_appStr {ops : Array Oper} {rest : List Oper} {o : Oper} {a : Act} {Q : Exit → Act → World → Prop} (hgd : o.guard = none) (sl x : Operand) (t u : TypeId)
    (ho : o.op = .call { callee := .builtin .append, args := #[sl, x], argTypes := #[t, u] })
    (base : Nat) (e : TypeId) (i : TypeInfo) (ht : P.underlying t = some (.slice e)) (hu : P.underlying u = some .string) (hi : P.info? e = some i) (hz : i.zero = some (.int .u8 0))
    (hsize : i.size = 1) (hby : i.bytes = 1) (v : Value) (n : Nat) (xs : List Value) (hs : a.eval sl = v) (hown : w.ownsRow base e 1 v n xs) (s : ByteArray) (hx : a.eval x = .string s)
    (hb : n + s.size ≤ 140737488355328) (hbase : base ≤ w.heap.size)
    (h : ∀ v' w', w'.ownsRow base e 1 v' (n + s.size) (xs ++ Lib.strCells s) → w.grownBy w' v.ownBlock → (v'.ownBlock = v.ownBlock ∨ v'.ownBlock = some w.heap.size) → wpList P ops Q rest (a.put o.dst v') w') :
    wpList P ops Q (o :: rest) a w := by
  refine wpList_plain hgd fun K hK => ?_
  obtain ⟨v', w', hr, h2, h3, _⟩ := Lib.run_append_own_string (P := P) w base t u o.type e i ht hu hi hz hsize hby v n xs hown s (by unfold maxLen; omega) hb hbase
  have hat := appStr_row w base t u o.type e i ht hu hi hz hsize hby v n xs hown s hb hr
  unfold Oper.wp execOp
  simp only [ho, resolve, invoke, builtin, Sem.run_bind, Sem.run_pure, Result.andThen_ok, List.map_toArray, List.map_cons, List.map_nil, hs, hx, hr]
  exact hK _ _ (h v' w' h2 h3 hat)
end

set_option maxRecDepth 100000 in
set_option maxHeartbeats 1000000 in
theorem writeString_pb {R b : Nat} {l : List UInt8} {w : World} (s : ByteArray) (h : PB R b l w) (hlen : l.length + s.size ≤ 140737488355328) :
    Calls Tryz.prog 92 #[.pointer (some ⟨b, 0, none⟩), .string s] w fun e w' => e = .returned (.tuple #[.int .i64 s.size, .nilIface]) ∧ FrR R b w w' ∧ Kp b w w' ∧ PB R b (l ++ s.data.toList) w' := by
  obtain ⟨i0, hi, hz0, hz1, hz2⟩ := info_parts info_u8
  go_enter Tryz.func92, Tryz.ntmps92
  go_wp2_with (go_at_call 115; refine (copyCheck_pb h).mono ?_)
  rintro e w1 ⟨rfl, hf1, hk1, v, hS⟩
  have hSS := Lib.hid hS
  obtain ⟨hbk, hown, hne, hR⟩ := hS
  have c1 : w1.cell? ⟨b, 1, none⟩ = some v := by simp [World.cell?, hbk]
  clear hbk hne
  go_wp2_with (at_builtin; refine wpList_appStr _ rfl _ _ 31 9 rfl R 5 i0 Tryz.underlying31 Tryz.underlying9 hi hz0 hz1 hz2 _ _ _ rfl hown s rfl ?c4 ?c5 ?_)
  case c4 => omega
  case c5 => omega
  intro v' w2 hown' hgrow hat
  have hA := hSS.out.sbu.app (l' := l ++ s.data.toList) (Or.inl hgrow) (by rw [byteCells_append, List.length_append, ← Lib.size_eq s]; exact World.ownsRowF_of hown')
  have f1 : w2.frozen? ⟨b, 1, none⟩ = false := by simp [World.frozen?, hA.heap]
  have d1 : w2.cell? ⟨b, 1, none⟩ = some v := by simp [World.cell?, hA.heap]
  have hb3 : (w2.setCell ⟨b, 1, none⟩ v').heap[b]? = some (.cells #[.pointer (some ⟨b, 0, none⟩), v'] 134 (0, 0)) := by
    simp [World.setCell, Array.getElem?_modify, hA.heap]
  have hne' : v'.ownBlock ≠ some b := by
    intro e
    rcases hown'.2 with ⟨e2, _⟩ | ⟨g, cap, cur, e2, _, hg, _⟩
    · rw [e2] at e; cases e
    · rw [e2] at e; cases e; rw [hA.heap] at hg; cases hg
  have hP : PB R b (l ++ s.data.toList) (w2.setCell ⟨b, 1, none⟩ v') := by
    refine ⟨_, v', hb3, Or.inr rfl, ownsRow_same (by rw [byteCells_append, List.length_append, ← Lib.size_eq s]; exact hown') (fun k e => ?_), hne', ?_⟩
    · exact Below.heap_setCell _ _ _ _ (by intro e2; exact hne' (by rw [e, e2]))
    · rw [World.size_setCell']; exact Nat.le_trans hR hA.fr.size
  have hK : Kp b w1 (w2.setCell ⟨b, 1, none⟩ v') := by
    refine ⟨by rw [World.size_setCell']; exact hA.fr.size, fun X hX hXb hr => ⟨?_, ?_⟩⟩
    · rw [Below.heap_setCell _ _ _ _ (by exact hXb)]
      rw [bRow_of hSS.out.1] at hr
      rw [hgrow.block X hX (fun e => hr e.symm)]
    · rw [bRow_of hb3]
      rw [bRow_of hSS.out.1] at hr
      rcases hat with e | e
      · rw [e]; exact hr
      · rw [e]; simp; omega
  obtain ⟨_, _, hout, a, n, cp, rfl⟩ := hA
  clear hown' hgrow hown hSS hat hb3 hne'
  have HK := Lib.hid (hk1.trans hK)
  have HP := Lib.hid hP
  clear hk1 hK hP
  go_wp2
  go_ret2
  exact ⟨rfl, hf1.trans hout.1, HK.out, HP.out⟩
end Go.Proofs.YtjganhmbjffjfaaGreatDoor
