/- Loads and stores of whole structs, each as one step. -/
import Derived.Test.YtjganhmbjffjfaaGreatDoorU3
import Derived.Laws.Rows
import Derived.Laws.Tables
open Go Go.RowKit
namespace Go.Proofs.YtjganhmbjffjfaaGreatDoor
theorem info_meta : (Tryz.prog.info? 55).map (·.size) = some 17 := by kernel_rfl
theorem below_setRow {B g : Nat} {w w' : World} (h : Below B w w') (hg : B ≤ g) (cs : Array Value) : Below B w (w'.setRow g cs) :=
  ⟨h.os, h.tape, h.output, by show _ ≤ (w'.setRow g cs).heap.size; simp [World.setRow]; exact h.size, fun k hk => (setRow_other w' g k cs (by omega)).trans (h.block k hk)⟩
theorem ownsRow_setRow {w : World} {R size n g : Nat} {e : TypeId} {v : Value} {xs : List Value} (h : w.ownsRow R e size v n xs) (hg : g < R) (cs : Array Value) : (w.setRow g cs).ownsRow R e size v n xs :=
  ⟨h.1, h.2.imp id fun ⟨b, cap, cur, h1, h2, h3, h4⟩ => ⟨b, cap, cur, h1, h2, (setRow_other w g b cs (by omega)).trans h3, h4⟩⟩
/-- A store of a whole struct; the world behind it by a name. -/
theorem wpList_store_rowE {P : Program} {ops : Array Oper} {rest : List Oper} {o : Oper} {a : Act} {w : World} {Q : Exit → Act → World → Prop} (hgd : o.guard = none) (ty : TypeId) (x y : Operand) (ho : o.op = .store ty x y)
    (g : Nat) (cells : Array Value) (hx : a.eval x = .pointer (some ⟨g, 0, none⟩)) (hy : a.eval y = .agg cells) (W' : World) (hW : W' = w.setRow g cells)
    (t : TypeId) (old : Array Value) (hg : w.heap[g]? = some (.cells old t (0, 0))) (hi : (P.info? ty).map (·.size) = some cells.size)
    (hold : old.size = cells.size) (h1 : cells.all (·.oneCell') = true)
    (h : wpList P ops Q rest (a.put o.dst undef) W') : wpList P ops Q (o :: rest) a w := by
  subst hW
  exact wpList_store_row hgd ty x y ho g cells hx hy t old hg hi hold h1 h
/-- The making of a struct; its cells by a name. -/
theorem wpList_buildTo {P : Program} {ops : Array Oper} {rest : List Oper} {o : Oper} {a : Act} {w : World} {Q : Exit → Act → World → Prop} (hg : o.guard = none) (t : TypeId) (parts : Array (Nat × Operand)) (ho : o.op = .build t parts)
    (cells : Array Value) (hf : P.built t (parts.map fun (i, x) => (i, a.eval x)).toList = some cells)
    (h : wpList P ops Q rest (a.put o.dst (.agg cells)) w) : wpList P ops Q (o :: rest) a w :=
  wpList_build hg t parts ho (by rw [hf]; rfl) (by rw [hf]; exact h)
theorem wpList_build1 {P : Program} {ops : Array Oper} {rest : List Oper} {o : Oper} {a : Act} {w : World} {Q : Exit → Act → World → Prop} (hg : o.guard = none) (t : TypeId) (i0 : Nat) (x0 : Operand) (ho : o.op = .build t #[(i0, x0)])
    (v0 : Value) (h0 : a.eval x0 = v0) (cells : Array Value) (hf : P.built t [(i0, v0)] = some cells)
    (h : wpList P ops Q rest (a.put o.dst (.agg cells)) w) : wpList P ops Q (o :: rest) a w :=
  wpList_buildTo hg t _ ho cells (by simp [h0, hf]) h
theorem wpList_build3 {P : Program} {ops : Array Oper} {rest : List Oper} {o : Oper} {a : Act} {w : World} {Q : Exit → Act → World → Prop} (hg : o.guard = none) (t : TypeId) (i0 i1 i2 : Nat) (x0 x1 x2 : Operand) (ho : o.op = .build t #[(i0, x0), (i1, x1), (i2, x2)])
    (v0 v1 v2 : Value) (h0 : a.eval x0 = v0) (h1 : a.eval x1 = v1) (h2 : a.eval x2 = v2) (cells : Array Value) (hf : P.built t [(i0, v0), (i1, v1), (i2, v2)] = some cells)
    (h : wpList P ops Q rest (a.put o.dst (.agg cells)) w) : wpList P ops Q (o :: rest) a w :=
  wpList_buildTo hg t _ ho cells (by simp [h0, h1, h2, hf]) h
theorem built_del : Tryz.prog.built 52 [(0, .bool true)] = some #[.bool true, .slice none 0 0, .bool false, .slice none 0 0, .bool false, .slice none 0 0, .int .i64 0, .int .i64 0, .string ⟨#[]⟩] := by kernel_rfl
theorem built_meta (s0 : ByteArray) (ao : Option Addr) (n c : Nat) : Tryz.prog.built 55 [(0, .string s0), (7, .slice ao n c), (6, .agg #[.bool true, .slice none 0 0, .bool false, .slice none 0 0, .bool false, .slice none 0 0, .int .i64 0, .int .i64 0, .string ⟨#[]⟩])] = some #[.string s0, .int .i64 0, .int .i64 0, .slice none 0 0, .slice none 0 0, .slice none 0 0, .bool true, .slice none 0 0, .bool false, .slice none 0 0, .bool false, .slice none 0 0, .int .i64 0, .int .i64 0, .string ⟨#[]⟩, .slice ao n c, .slice none 0 0] := by kernel_rfl
end Go.Proofs.YtjganhmbjffjfaaGreatDoor
