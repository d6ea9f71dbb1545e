/- append of one text to a row of one's own. -/
import Derived.Test.YtjganhmbjffjfaaGreatDoorFH
import Derived.Test.YtjganhmbjffjfaaGreatDoorV0
import Derived.Test.YtjganhmbjffjfaaGreatDoorM0
open Go Go.RowKit
namespace Go.Proofs.YtjganhmbjffjfaaGreatDoor
theorem info_strS : (Tryz.prog.info? 9).map (fun i => (i.zero, i.size, i.bytes)) = some (some (.string ⟨#[]⟩), 1, 16) := by kernel_rfl
/-- A row of texts of the call's own. -/
def OwnS (w : World) (B : Nat) (v : Value) (l : List (List UInt8)) : Prop := w.ownsRow B 9 1 v l.length (l.map fun a => .string (bs a))
theorem OwnS.nil (w : World) (B : Nat) : OwnS w B (.slice none 0 0) [] := ⟨rfl, .inl ⟨rfl, rfl⟩⟩
theorem OwnS.stay {w w' : World} {B : Nat} {v : Value} {l : List (List UInt8)} (h : OwnS w B v l) (hb : Below w.heap.size w w') : OwnS w' B v l := own_below h hb
theorem OwnS.slice {w : World} {B : Nat} {v : Value} {l : List (List UInt8)} (h : OwnS w B v l) : ∃ ao cp, v = .slice ao l.length cp ∧ ∀ (j : Nat) (a : List UInt8), l[j]? = some a → ∃ ad, ao = some ad ∧ w.cell? (ad.add j) = some (.string (bs a)) := by
  rcases h.2 with ⟨rfl, h0⟩ | ⟨g, cap, cur, rfl, hb, hg, h1, h2, h3, h4⟩
  · refine ⟨none, 0, by rw [h0], fun j a hj => ?_⟩
    rw [List.length_eq_zero_iff.1 h0] at hj; cases hj
  · refine ⟨_, _, rfl, fun j a hj => ⟨_, rfl, ?_⟩⟩
    exact h.cells (g := g) rfl j _ (by rw [List.getElem?_map, hj]; rfl)
set_option maxRecDepth 100000 in
/-- append(out, s). -/
theorem wpList_appS1 {ops : Array Oper} {rest : List Oper} {o : Oper} {a : Act} {Q : Exit → Act → World → Prop} (hgd : o.guard = none) (x y : Operand)
    (ho : o.op = .call { callee := .builtin .append, args := #[x, y], argTypes := #[22, 22] }) (B : Nat) (w : World) (l : List (List UInt8)) (s : ByteArray) (t : List UInt8) (hs : s = bs t) {v : Value} (hO : OwnS w B v l) (hB : B ≤ w.heap.size) (hl : l.length + 1 ≤ 4294967300)
    (hx : a.eval x = v) (hy : a.eval y = .slice (some ⟨w.heap.size, 0, none⟩) 1 1)
    (h : ∀ v' w', OwnS w' B v' (l ++ [t]) → Below B w w' → wpList Tryz.prog ops Q rest (a.put o.dst v') w') :
    wpList Tryz.prog ops Q (o :: rest) a (w.alloc (.cells #[.string s] 9)) := by
  obtain ⟨i0, hi, hz0, hz1, hz2⟩ := info_parts info_strS
  refine wpList_append_own_at _ hgd x y 22 ho B 9 i0 (.string ⟨#[]⟩) 1 16 Tryz.underlying22 hi hz0 hz1 hz2 rfl (by decide) v l.length (l.map fun a => .string (bs a)) hx (ownsRow_alloc hO _) ⟨w.heap.size, 0, none⟩ 1 1 [.string s] hy rfl (cell_one_new w (.string s) 9) (by intro u hu; rw [List.mem_singleton.1 hu]; rfl) (by unfold maxLen; omega) (by omega) (by rw [World.size_alloc]; omega) ?_
  intro v' w4 hown hgr _ _
  refine h v' w4 ?_ (grown_below ((Below.refl _ _).alloc hB _) (ownsRow_alloc hO _) (by rw [World.size_alloc]; omega) hgr)
  unfold OwnS
  rw [List.map_append, List.length_append, List.map_singleton, ← hs]
  exact hown
end Go.Proofs.YtjganhmbjffjfaaGreatDoor
