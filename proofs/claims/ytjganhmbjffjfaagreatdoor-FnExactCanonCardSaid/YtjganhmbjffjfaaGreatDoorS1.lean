/- append([]byte(s), x...): onto the row of a conversion, whose mark lies behind its cells. -/
import Derived.Test.YtjganhmbjffjfaaGreatDoorD2
import Derived.Lib.FrozenHead2
import Derived.Lib.ConvBytes
open Go Go.RowKit
namespace Go.Proofs.YtjganhmbjffjfaaGreatDoor
/-- A row whose frozen range lies behind its cells: a store into it. -/
theorem storeCells_B (P : Program) (g o : Nat) (t : TypeId) (fz : Nat × Nat) : ∀ (vs : List Value) (i : Nat) (cur : Array Value) (w : World), w.heap[g]? = some (.cells cur t fz) → cur.size ≤ fz.1 → o + i + vs.length ≤ cur.size → (∀ v ∈ vs, v.oneCell' = true) →
    (storeCells ⟨g, o, none⟩ vs i).run P w = .ok () (w.setRow g (cur.toList.take (o + i) ++ vs ++ cur.toList.drop (o + i + vs.length)).toArray)
  | [], i, cur, w, hg, _, _, _ => by
    simp only [storeCells, List.append_nil, List.length_nil, Nat.add_zero, List.take_append_drop, Array.toArray_toList]
    rw [setRow_self w g cur t fz hg]
    rfl
  | v :: rest, i, cur, w, hg, hfz, hl, h1 => by
    have hi : o + i < cur.size := by simp at hl; omega
    have hadd : (⟨g, o, none⟩ : Addr).add i = ⟨g, o + i, none⟩ := by unfold Addr.add; split <;> simp_all
    have hcell : w.cell? ⟨g, o + i, none⟩ = some cur[o + i] := by simp [World.cell?, hg, hi]
    have hfro : w.frozen? ⟨g, o + i, none⟩ = false := by
      obtain ⟨lo, hi'⟩ := fz
      simp only [World.frozen?, hg, Bool.and_eq_false_iff, decide_eq_false_iff_not]
      left
      simp only at hfz
      omega
    have hst : (store ((⟨g, o, none⟩ : Addr).add i) v).run P w = .ok () (w.setRow g (cur.setIfInBounds (o + i) v)) := by
      rw [hadd, run_store P w _ v _ (h1 v (by simp)), hcell]
      simp [hfro, setCell_eq_setRow w g (o + i) cur t fz v hg]
    have ih := storeCells_B P g o t fz rest (i + 1) (cur.setIfInBounds (o + i) v) (w.setRow g (cur.setIfInBounds (o + i) v)) (setRow_heap w g cur _ t _ hg) (by simpa using hfz) (by simp at hl ⊢; omega) (fun x hx => h1 x (by simp [hx]))
    simp only [storeCells, Sem.run_bind, hst, Result.andThen_ok, ih, setRow_setRow]
    congr 3
    have e := list_seg_step cur.toList (o + i) v rest (by simp at hl ⊢; omega)
    simpa [Array.toList_setIfInBounds, Nat.add_assoc] using e
theorem conv_sz (w : World) (s : ByteArray) : s.size ≤ grownCap w s.size 0 5 := grownCap_ge w s.size 0 5
/-- append([]byte(s), v...). -/
theorem run_append_conv (w0 : World) (s : ByteArray) {v : Value} {l : List UInt8} (hv : BSrc w0 v l) (hs : s.size + l.length ≤ 4294967296) :
    ∃ v' w', (Builtin.append_ #[31, 31] 31 #[.slice (some ⟨w0.heap.size, 0, none⟩) s.size (grownCap w0 s.size 0 5), v]).run Tryz.prog (Lib.bytesWorld w0 5 s) = .ok v' w' ∧
      BSrc w' v' (s.data.toList ++ l) ∧ Below w0.heap.size w0 w' := by
  obtain ⟨i, hi, hz0, hz1, hz2⟩ := info_parts info_u8
  have ht : Tryz.prog.underlying 31 = some (.slice 5) := Tryz.underlying31
  have hsl : s.data.toList.length = s.size := (Lib.size_eq s).symm
  have hcs := conv_sz w0 s
  have hbel := Lib.bytesWorld_below w0 5 s
  have hnew := Lib.bytesWorld_at_new w0 5 s
  have hbsz := Lib.bytesWorld_size w0 5 s
  have hcell : ∀ j x, s.data.toList[j]? = some x → (Lib.bytesWorld w0 5 s).cell? ⟨w0.heap.size, j, none⟩ = some (.int .u8 x.toNat) := by
    intro j x hj
    have hjs : j < s.size := by rw [← hsl]; exact (List.getElem?_eq_some_iff.1 hj).1
    have := Lib.bytesWorld_cell w0 5 s j hjs
    rw [List.getD_eq_getElem?_getD, hj] at this
    exact this
  obtain ⟨cap, hcap⟩ : ∃ cap, cap = grownCap w0 s.size 0 5 := ⟨_, rfl⟩
  obtain ⟨W, hW⟩ : ∃ W, W = Lib.bytesWorld w0 5 s := ⟨_, rfl⟩
  obtain ⟨cur, hcur⟩ : ∃ cur, cur = Lib.bytesCells w0 5 s := ⟨_, rfl⟩
  have hcz : cur.size = cap := by rw [hcur, hcap]; simp [Lib.bytesCells]; omega
  have htk : cur.toList.take s.size = Lib.byteCells s.data.toList := by
    rw [hcur]
    simp only [Lib.bytesCells, Array.toList_append, Array.toList_map, Array.toList_replicate]
    rw [List.take_append_of_le_length (by simp), List.take_of_length_le (by simp)]
    rfl
  rw [← hcap] at hcs ⊢
  rw [← hW] at hbel hnew hbsz hcell ⊢
  rw [← hcur] at hnew
  clear hcap hW hcur
  rcases hv with ⟨rfl, rfl⟩ | ⟨ad, cp, rfl, hll, hsrc⟩
  · refine ⟨.slice (some ⟨w0.heap.size, 0, none⟩) s.size cap, W, ?_, ?_, hbel⟩
    · simp [Builtin.append_, run_underlying ht, sizeOf, typeInfo, hi, Builtin.lenOf, Builtin.firstCells, hcs, storeCells]
    · refine .inr ⟨⟨w0.heap.size, 0, none⟩, cap, by rw [List.append_nil, hsl], by rw [List.append_nil, hsl]; unfold maxLen; omega, fun j x hj => ?_⟩
      rw [List.append_nil] at hj
      rw [addrAdd, Nat.zero_add]
      exact hcell j x hj
  · have hnews : ∀ (j : Nat) (u : Value), (Lib.byteCells l)[j]? = some u → W.cell? (ad.add j) = some u := by
      intro j u hu
      rw [Lib.byteCells, List.getElem?_map] at hu
      cases e : l[j]? with
      | none => rw [e] at hu; cases hu
      | some y =>
        rw [e] at hu
        cases hu
        exact (hbel.cell (p := ad.add j) (cell_lt (hsrc j y e))).trans (hsrc j y e)
    have hln : (Lib.byteCells l).length = l.length * i.size := by rw [byteCells_length, hz1, Nat.mul_one]
    have hall : ∀ (j : Nat) (x : UInt8), (s.data.toList ++ l)[j]? = some x → (Lib.byteCells s.data.toList ++ Lib.byteCells l)[j]? = some (.int .u8 x.toNat) := by
      intro j x hj
      rw [← byteCells_append, Lib.byteCells, List.getElem?_map, hj]
      rfl
    have hlen : (s.data.toList ++ l).length = s.size + l.length := by rw [List.length_append, hsl]
    by_cases hroom : s.size + l.length ≤ cap
    · have hf := run_firstCells_some (P := Tryz.prog) W i.size l.length ad l.length cp (Lib.byteCells l) hln hnews
      have hst := storeCells_B Tryz.prog w0.heap.size (s.size * i.size) 5 (cur.size, cur.size + 1) (Lib.byteCells l) 0 cur W hnew (Nat.le_refl _) (by rw [byteCells_length, hz1]; omega) (byte_one l)
      simp only [Nat.add_zero] at hst
      obtain ⟨R, hR⟩ : ∃ R : Array Value, R = (cur.toList.take (s.size * i.size) ++ Lib.byteCells l ++ cur.toList.drop (s.size * i.size + (Lib.byteCells l).length)).toArray := ⟨_, rfl⟩
      rw [← hR] at hst
      rw [hz1, Nat.mul_one] at hR
      have hh := setRow_heap W w0.heap.size cur R 5 _ hnew
      refine ⟨.slice (some ⟨w0.heap.size, 0, none⟩) (s.size + l.length) cap, W.setRow w0.heap.size R, ?_, ?_, ?_⟩
      · simp [Builtin.append_, run_underlying ht, sizeOf, typeInfo, hi, Builtin.lenOf, hroom, hf, Addr.add_lit, hst]
      · refine .inr ⟨⟨w0.heap.size, 0, none⟩, cap, by rw [hlen], by rw [hlen]; unfold maxLen; omega, fun j x hj => ?_⟩
        have hjl : j < (Lib.byteCells s.data.toList ++ Lib.byteCells l).length := (List.getElem?_eq_some_iff.1 (hall j x hj)).1
        rw [addrAdd, Nat.zero_add, cell_of_row _ _ _ _ _ _ hh, hR, ← Array.getElem?_toList]
        show (cur.toList.take s.size ++ Lib.byteCells l ++ _)[j]? = _
        rw [htk, List.getElem?_append_left hjl]
        exact hall j x hj
      · exact ⟨hbel.os, hbel.tape, hbel.output, by rw [show (W.setRow w0.heap.size R).heap.size = W.heap.size by simp [World.setRow]]; exact hbel.size, fun k hk => (setRow_other _ _ _ _ (by omega)).trans (hbel.block k hk)⟩
    · have holds : ∀ (j : Nat) (u : Value), (Lib.byteCells s.data.toList)[j]? = some u → W.cell? ((⟨w0.heap.size, 0, none⟩ : Addr).add j) = some u := by
        intro j u hu
        rw [Lib.byteCells, List.getElem?_map] at hu
        cases e : s.data.toList[j]? with
        | none => rw [e] at hu; cases hu
        | some y => rw [e] at hu; cases hu; rw [addrAdd, Nat.zero_add]; exact hcell j y e
      have hr := run_append_grow (P := Tryz.prog) W 31 31 5 i _ ht hi hz0 ⟨w0.heap.size, 0, none⟩ s.size cap (Lib.byteCells s.data.toList) (by rw [byteCells_length, hsl, hz1, Nat.mul_one]) holds ad l.length cp (Lib.byteCells l) hln hnews (by omega) (by omega) (growslice_fits (by omega) (by rw [hz2]; omega))
      refine ⟨_, _, hr, ?_, ?_⟩
      · refine .inr ⟨⟨W.heap.size, 0, none⟩, _, by rw [hlen], by rw [hlen]; unfold maxLen; omega, fun j x hj => ?_⟩
        have hjl : j < (Lib.byteCells s.data.toList ++ Lib.byteCells l).length := (List.getElem?_eq_some_iff.1 (hall j x hj)).1
        have hh : (W.drew.alloc _).heap[W.heap.size]? = some _ := heap_alloc_new W.drew (.cells ((Lib.byteCells s.data.toList).toArray ++ (Lib.byteCells l).toArray ++ Builtin.zeroCells (Value.int .u8 0).cells (grownCap W (s.size + l.length) cap 5 - (s.size + l.length))) 5)
        rw [addrAdd, Nat.zero_add, cell_of_row _ _ _ _ _ _ hh, ← Array.getElem?_toList]
        simp only [Array.toList_append]
        rw [List.getElem?_append_left hjl]
        exact hall j x hj
      · exact ⟨hbel.os, hbel.tape, hbel.output, by rw [World.size_alloc]; exact Nat.le_succ_of_le hbel.size, fun k hk => (Below.heap_alloc W.drew _ k (Nat.lt_of_lt_of_le hk hbel.size)).trans (hbel.block k hk)⟩
/-- The same as a step of the walk. -/
theorem wpList_append_conv {ops : Array Oper} {rest : List Oper} {o : Oper} {a : Act} {Q : Exit → Act → World → Prop} (hgd : o.guard = none) (x y : Operand)
    (ho : o.op = .call { callee := .builtin .append, args := #[x, y], argTypes := #[31, 31] }) (hty : o.type = 31) (w0 : World) (s : ByteArray) {v : Value} {l : List UInt8} (hv : BSrc w0 v l) (hs : s.size + l.length ≤ 4294967296)
    (hx : a.eval x = .slice (some ⟨w0.heap.size, 0, none⟩) s.size (grownCap w0 s.size 0 5)) (hy : a.eval y = v)
    (h : ∀ v' w', BSrc w' v' (s.data.toList ++ l) → Below w0.heap.size w0 w' → wpList Tryz.prog ops Q rest (a.put o.dst v') w') :
    wpList Tryz.prog ops Q (o :: rest) a (Lib.bytesWorld w0 5 s) := by
  refine wpList_plain hgd fun K hK => ?_
  obtain ⟨v', w', hr, h2, h3⟩ := run_append_conv w0 s hv hs
  unfold Oper.wp execOp
  simp only [ho, hty, resolve, invoke, builtin, Sem.run_bind, Sem.run_pure, Result.andThen_ok, List.map_toArray, List.map_cons, List.map_nil, hx, hy, hr]
  exact hK _ _ (h v' w' h2 h3)
end Go.Proofs.YtjganhmbjffjfaaGreatDoor
