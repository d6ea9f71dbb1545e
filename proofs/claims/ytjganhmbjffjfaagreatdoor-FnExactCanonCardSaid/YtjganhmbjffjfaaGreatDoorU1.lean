/- impl's plain structs that came in, opened. Printed by gen_U1.py. -/
import Derived.Test.YtjganhmbjffjfaaGreatDoorT1
import Derived.Test.YtjganhmbjffjfaaGreatDoorG4
open Go Go.RowKit
namespace Go.Proofs.YtjganhmbjffjfaaGreatDoor
open Go.ChangeShapes Go.WideShapes Go.ChangeAt Go.Deep Go.Joins
/-- A slice of things of sz cells each, that read by P. -/
def SL (P : World → List Value → Prop) (sz : Nat) (w : World) (v : Value) : Prop :=
  v = .slice none 0 0 ∨ ∃ a n c, v = .slice (some a) n c ∧ n ≤ c ∧ c ≤ maxLen ∧ ∀ j, j < n → ∃ cs, P w cs ∧ ∀ i u, cs[i]? = some u → w.cell? (a.add (j * sz + i)) = some u
theorem SL.stay {P : World → List Value → Prop} {sz : Nat} {w w' : World} (hP : ∀ cs, P w cs → P w' cs) (hb : Below w.heap.size w w') {v : Value} (h : SL P sz w v) : SL P sz w' v := by
  rcases h with h | ⟨a, n, c, rfl, h1, h2, h3⟩
  · exact .inl h
  · refine .inr ⟨a, n, c, rfl, h1, h2, fun j hj => ?_⟩
    obtain ⟨cs, h4, h5⟩ := h3 j hj
    exact ⟨cs, hP cs h4, fun i u hu => (hb.cell (cell_lt (h5 i u hu))).trans (h5 i u hu)⟩
theorem SL.slice {P : World → List Value → Prop} {sz : Nat} {w : World} {v : Value} (h : SL P sz w v) : ∃ ao n c, v = .slice ao n c ∧ n ≤ maxLen := by
  rcases h with rfl | ⟨a, n, c, rfl, h1, h2, _⟩
  · exact ⟨none, 0, 0, rfl, Nat.zero_le _⟩
  · exact ⟨some a, n, c, rfl, by omega⟩
theorem StrR.sl {w : World} {v : Value} {l : List ByteArray} (h : StrR w v l) : ∃ ao n c, v = .slice ao n c ∧ n ≤ maxLen := by
  rcases h with ⟨rfl, rfl⟩ | ⟨a, cap, rfl, h1, h2, _⟩
  · exact ⟨none, 0, 0, rfl, Nat.zero_le _⟩
  · exact ⟨some a, _, cap, rfl, by omega⟩
theorem BSrc.sl {w : World} {v : Value} {l : List UInt8} (h : BSrc w v l) : ∃ ao n c, v = .slice ao n c ∧ n ≤ maxLen := by
  have hl := h.len
  rcases h with ⟨rfl, rfl⟩ | ⟨ad, cp, rfl, _⟩
  · exact ⟨none, 0, 0, rfl, Nat.zero_le _⟩
  · exact ⟨some ad, _, cp, rfl, hl⟩
theorem fieldU (ad : Addr) (m j : Nat) (hj : 0 < j) : ad.add (m + j) = ⟨(ad.add m).block, (ad.add m).off + j, none⟩ := by
  unfold Addr.add
  by_cases hm : m = 0
  · subst hm
    simp [Nat.ne_of_gt hj]
  · simp [hm, Nat.add_assoc]
theorem glue {cs L : List Value} {o k : Nat} (h : (cs.drop o).take k = L) : cs.drop o = L ++ cs.drop (o + k) := by
  rw [← h, ← List.drop_drop, List.take_append_drop]
theorem int_wf {n : Int} (h : (Go.Lit.int .i64 n).wf = true) : -9223372036854775808 ≤ n ∧ n ≤ 9223372036854775807 := by
  simpa [Go.Lit.wf, IntKind.min, IntKind.max, IntKind.signed, IntKind.bits] using h
theorem list_one {α : Type} {l : List α} (h : l.length = 1) : ∃ u, l = [u] := by
  match l, h with
  | [u], _ => exact ⟨u, rfl⟩
section
variable {H : Type} {enc : TypeId × Value → H} {w : World} {base : Nat}
set_option maxRecDepth 100000 in
theorem bsrc_trod {fuel : Nat} {v : Value} {x : DataW H × List MemPlace} (hf : DataW.trod enc Tryz.prog w base (fun _ => true) true fuel 31 [v] = some x) : ∃ body, BSrc w v body := by
  rcases open_ints Tryz.underlying31 Tryz.underlying5 (by kernel_rfl) hf with ⟨hcs, _⟩ | ⟨a, len', cap', zs, hcs, _, hl, hm, hz, _, hcell, hwz⟩
  · simp at hcs; subst hcs
    exact ⟨[], .inl ⟨rfl, rfl⟩⟩
  · simp at hcs; subst hcs
    simp only [if_true] at hz
    refine ⟨(zs.take len').map fun z => UInt8.ofNat z.toNat, .inr ⟨a, cap', ?_, ?_, ?_⟩⟩
    · simp; omega
    · simp; omega
    · intro j x hx
      rw [List.getElem?_map] at hx
      cases e : (zs.take len')[j]? with
      | none => rw [e] at hx; cases hx
      | some z =>
        rw [e] at hx
        cases hx
        have hj : j < len' := by
          have := (List.getElem?_eq_some_iff.1 e).1
          simp at this
          omega
        have e2 : zs[j]? = some z := by rw [List.getElem?_take_of_lt hj] at e; exact e
        have hzj : zs.getD j 0 = z := by rw [List.getD_eq_getElem?_getD, e2]; rfl
        have hw := hwz z (List.mem_of_getElem? e2)
        have hw2 : 0 ≤ z ∧ z ≤ 255 := by simpa [Go.Lit.wf, IntKind.min, IntKind.max, IntKind.signed, IntKind.bits] using hw
        rw [hcell j (by omega), hzj]
        congr 2
        rw [UInt8.toNat_ofNat_of_lt' (by show _ < 256; omega)]
        omega
theorem sl_of {P : World → List Value → Prop} {t e : TypeId} (ht : Tryz.prog.underlying t = some (.slice e)) (hP : ∀ {fuel : Nat} {cs : List Value} {x : DataW H × List MemPlace}, WOK e x.1 → DataW.trod enc Tryz.prog w base (fun _ => true) true fuel e cs = some x → P w cs)
    {fuel : Nat} {v : Value} {x : DataW H × List MemPlace} (hw : WOK t x.1) (h : DataW.trod enc Tryz.prog w base (fun _ => true) true fuel t [v] = some x) : SL P (Tryz.prog.cellsOf e) w v := by
  rcases open_slice ht h with ⟨hc, _⟩ | ⟨a, len, cap, m, n, D, Pl, hc, _, hl, hm, hmm, rfl, hx⟩
  · simp at hc; exact .inl hc
  · simp at hc; subst hc
    simp at hmm
    refine .inr ⟨a, len, cap, rfl, hl, hm, fun j hj => ?_⟩
    obtain ⟨cs', h1, h2⟩ := hx j (by omega)
    refine ⟨cs', hP (hw.elem ht _ (List.mem_map.2 ⟨j, List.mem_range.2 hj, rfl⟩)) h2, fun i u hu => ?_⟩
    obtain ⟨_, hlen, hat⟩ := World.cells?_some h1
    have hi : i < Tryz.prog.cellsOf e := by rw [← hlen]; exact (List.getElem?_eq_some_iff.1 hu).1
    rw [← Go.Deep.add_add, hat i hi, hu]
end
/-- impl.Key's cells. -/
def PKey (_w : World) (cs : List Value) : Prop := ∃ (s0 : ByteArray) (s1 : ByteArray) (n2 : Int), cs = [.string s0, .string s1, .int .i64 n2] ∧ s0.size ≤ 140737488351232 ∧ s1.size ≤ 140737488351232 ∧ (-9223372036854775808 ≤ n2 ∧ n2 ≤ 9223372036854775807)
theorem PKey.stay {w w' : World} (_hb : Below w.heap.size w w') {cs : List Value} (h : PKey w cs) : PKey w' cs := by
  obtain ⟨s0, s1, n2, rfl, h0, h1, h2⟩ := h
  exact ⟨s0, s1, n2, rfl, h0, h1, h2⟩
set_option maxRecDepth 100000 in
theorem openKey {H : Type} {enc : TypeId × Value → H} {w : World} {base fuel : Nat} {cs : List Value} {x : DataW H × List MemPlace} (hw : WOK 64 x.1) (h : DataW.trod enc Tryz.prog w base (fun _ => true) true fuel 64 cs = some x) : PKey w cs := by
  obtain ⟨xs, n, _, rfl, hlen, hxl, hf⟩ := DataW.trod_struct Tryz.underlying64 h
  obtain ⟨y0, e0⟩ : ∃ y, xs[0]? = some y := ⟨_, List.getElem?_eq_getElem (by rw [hxl]; decide)⟩
  have t0 : DataW.trod enc Tryz.prog w base (fun _ => true) true n 9 ((cs.drop 0).take (Tryz.prog.cellsOf 9)) = some y0 := (hf 0 _ rfl).trans e0
  rw [show Tryz.prog.cellsOf 9 = 1 by kernel_rfl] at t0
  have m0 := hw.part Tryz.underlying64 (j := 0) rfl (by rw [List.getElem?_map, e0]; rfl)
  obtain ⟨s0, q0, d0, _⟩ := DataW.trod_string Tryz.underlying9 t0
  rw [d0] at m0
  have h0 := m0.str
  obtain ⟨y1, e1⟩ : ∃ y, xs[1]? = some y := ⟨_, List.getElem?_eq_getElem (by rw [hxl]; decide)⟩
  have t1 : DataW.trod enc Tryz.prog w base (fun _ => true) true n 9 ((cs.drop 1).take (Tryz.prog.cellsOf 9)) = some y1 := (hf 1 _ rfl).trans e1
  rw [show Tryz.prog.cellsOf 9 = 1 by kernel_rfl] at t1
  have m1 := hw.part Tryz.underlying64 (j := 1) rfl (by rw [List.getElem?_map, e1]; rfl)
  obtain ⟨s1, q1, d1, _⟩ := DataW.trod_string Tryz.underlying9 t1
  rw [d1] at m1
  have h1 := m1.str
  obtain ⟨y2, e2⟩ : ∃ y, xs[2]? = some y := ⟨_, List.getElem?_eq_getElem (by rw [hxl]; decide)⟩
  have t2 : DataW.trod enc Tryz.prog w base (fun _ => true) true n 3 ((cs.drop 2).take (Tryz.prog.cellsOf 3)) = some y2 := (hf 2 _ rfl).trans e2
  rw [show Tryz.prog.cellsOf 3 = 1 by kernel_rfl] at t2
  have m2 := hw.part Tryz.underlying64 (j := 2) rfl (by rw [List.getElem?_map, e2]; rfl)
  obtain ⟨n2, q2, _, w2⟩ := DataW.trod_int Tryz.underlying3 t2
  have h2 := int_wf w2
  have z0 : cs = [.string s0, .string s1, .int .i64 n2] := by
    have hend : cs.drop 3 = [] := List.drop_eq_nil_of_le (by rw [hlen]; decide)
    have b0 : cs = cs.drop 0 := rfl
    rw [b0, glue q0, glue q1, glue q2, hend]
    rfl
  exact ⟨s0, s1, n2, z0, h0, h1, h2⟩
/-- impl.Role's cells. -/
def PRole (w : World) (cs : List Value) : Prop := ∃ (s0 : ByteArray) (a1 : Option Addr) (l1 c1 : Nat) (n2 : Int), cs = [.string s0, .slice a1 l1 c1, .int .i64 n2] ∧ s0.size ≤ 140737488351232 ∧ (∃ l, StrR w (.slice a1 l1 c1) l) ∧ (-9223372036854775808 ≤ n2 ∧ n2 ≤ 9223372036854775807)
theorem PRole.stay {w w' : World} (hb : Below w.heap.size w w') {cs : List Value} (h : PRole w cs) : PRole w' cs := by
  obtain ⟨s0, a1, l1, c1, n2, rfl, h0, h1, h2⟩ := h
  exact ⟨s0, a1, l1, c1, n2, rfl, h0, (h1.imp fun _ h => h.stay hb), h2⟩
set_option maxRecDepth 100000 in
theorem openRole {H : Type} {enc : TypeId × Value → H} {w : World} {base fuel : Nat} {cs : List Value} {x : DataW H × List MemPlace} (hw : WOK 71 x.1) (h : DataW.trod enc Tryz.prog w base (fun _ => true) true fuel 71 cs = some x) : PRole w cs := by
  obtain ⟨xs, n, _, rfl, hlen, hxl, hf⟩ := DataW.trod_struct Tryz.underlying71 h
  obtain ⟨y0, e0⟩ : ∃ y, xs[0]? = some y := ⟨_, List.getElem?_eq_getElem (by rw [hxl]; decide)⟩
  have t0 : DataW.trod enc Tryz.prog w base (fun _ => true) true n 9 ((cs.drop 0).take (Tryz.prog.cellsOf 9)) = some y0 := (hf 0 _ rfl).trans e0
  rw [show Tryz.prog.cellsOf 9 = 1 by kernel_rfl] at t0
  have m0 := hw.part Tryz.underlying71 (j := 0) rfl (by rw [List.getElem?_map, e0]; rfl)
  obtain ⟨s0, q0, d0, _⟩ := DataW.trod_string Tryz.underlying9 t0
  rw [d0] at m0
  have h0 := m0.str
  obtain ⟨y1, e1⟩ : ∃ y, xs[1]? = some y := ⟨_, List.getElem?_eq_getElem (by rw [hxl]; decide)⟩
  have t1 : DataW.trod enc Tryz.prog w base (fun _ => true) true n 22 ((cs.drop 1).take (Tryz.prog.cellsOf 22)) = some y1 := (hf 1 _ rfl).trans e1
  rw [show Tryz.prog.cellsOf 22 = 1 by kernel_rfl] at t1
  have m1 := hw.part Tryz.underlying71 (j := 1) rfl (by rw [List.getElem?_map, e1]; rfl)
  obtain ⟨u1, q1⟩ : ∃ u, (cs.drop 1).take 1 = [u] := list_one (by rw [List.length_take, List.length_drop, hlen]; decide)
  replace t1 : DataW.trod enc Tryz.prog w base (fun _ => true) true n 22 [u1] = some y1 := by rw [← q1]; exact t1
  have g1 : ∃ l, StrR w u1 l := strR_of m1 t1
  obtain ⟨a1, l1, c1, rfl, _⟩ : ∃ ao n c, u1 = .slice ao n c ∧ n ≤ maxLen := by obtain ⟨_, g⟩ := g1; exact g.sl
  have h1 := g1
  obtain ⟨y2, e2⟩ : ∃ y, xs[2]? = some y := ⟨_, List.getElem?_eq_getElem (by rw [hxl]; decide)⟩
  have t2 : DataW.trod enc Tryz.prog w base (fun _ => true) true n 3 ((cs.drop 2).take (Tryz.prog.cellsOf 3)) = some y2 := (hf 2 _ rfl).trans e2
  rw [show Tryz.prog.cellsOf 3 = 1 by kernel_rfl] at t2
  have m2 := hw.part Tryz.underlying71 (j := 2) rfl (by rw [List.getElem?_map, e2]; rfl)
  obtain ⟨n2, q2, _, w2⟩ := DataW.trod_int Tryz.underlying3 t2
  have h2 := int_wf w2
  have z0 : cs = [.string s0, .slice a1 l1 c1, .int .i64 n2] := by
    have hend : cs.drop 3 = [] := List.drop_eq_nil_of_le (by rw [hlen]; decide)
    have b0 : cs = cs.drop 0 := rfl
    rw [b0, glue q0, glue q1, glue q2, hend]
    rfl
  exact ⟨s0, a1, l1, c1, n2, z0, h0, h1, h2⟩
/-- impl.Hash's cells. -/
def PHash (w : World) (cs : List Value) : Prop := ∃ (s0 : ByteArray) (a1 : Option Addr) (l1 c1 : Nat), cs = [.string s0, .slice a1 l1 c1] ∧ s0.size ≤ 140737488351232 ∧ (∃ l, BSrc w (.slice a1 l1 c1) l)
theorem PHash.stay {w w' : World} (hb : Below w.heap.size w w') {cs : List Value} (h : PHash w cs) : PHash w' cs := by
  obtain ⟨s0, a1, l1, c1, rfl, h0, h1⟩ := h
  exact ⟨s0, a1, l1, c1, rfl, h0, (h1.imp fun _ h => h.stay hb)⟩
set_option maxRecDepth 100000 in
theorem openHash {H : Type} {enc : TypeId × Value → H} {w : World} {base fuel : Nat} {cs : List Value} {x : DataW H × List MemPlace} (hw : WOK 273 x.1) (h : DataW.trod enc Tryz.prog w base (fun _ => true) true fuel 273 cs = some x) : PHash w cs := by
  obtain ⟨xs, n, _, rfl, hlen, hxl, hf⟩ := DataW.trod_struct Tryz.underlying273 h
  obtain ⟨y0, e0⟩ : ∃ y, xs[0]? = some y := ⟨_, List.getElem?_eq_getElem (by rw [hxl]; decide)⟩
  have t0 : DataW.trod enc Tryz.prog w base (fun _ => true) true n 9 ((cs.drop 0).take (Tryz.prog.cellsOf 9)) = some y0 := (hf 0 _ rfl).trans e0
  rw [show Tryz.prog.cellsOf 9 = 1 by kernel_rfl] at t0
  have m0 := hw.part Tryz.underlying273 (j := 0) rfl (by rw [List.getElem?_map, e0]; rfl)
  obtain ⟨s0, q0, d0, _⟩ := DataW.trod_string Tryz.underlying9 t0
  rw [d0] at m0
  have h0 := m0.str
  obtain ⟨y1, e1⟩ : ∃ y, xs[1]? = some y := ⟨_, List.getElem?_eq_getElem (by rw [hxl]; decide)⟩
  have t1 : DataW.trod enc Tryz.prog w base (fun _ => true) true n 31 ((cs.drop 1).take (Tryz.prog.cellsOf 31)) = some y1 := (hf 1 _ rfl).trans e1
  rw [show Tryz.prog.cellsOf 31 = 1 by kernel_rfl] at t1
  have m1 := hw.part Tryz.underlying273 (j := 1) rfl (by rw [List.getElem?_map, e1]; rfl)
  obtain ⟨u1, q1⟩ : ∃ u, (cs.drop 1).take 1 = [u] := list_one (by rw [List.length_take, List.length_drop, hlen]; decide)
  replace t1 : DataW.trod enc Tryz.prog w base (fun _ => true) true n 31 [u1] = some y1 := by rw [← q1]; exact t1
  have g1 : ∃ l, BSrc w u1 l := bsrc_trod t1
  obtain ⟨a1, l1, c1, rfl, _⟩ : ∃ ao n c, u1 = .slice ao n c ∧ n ≤ maxLen := by obtain ⟨_, g⟩ := g1; exact g.sl
  have h1 := g1
  have z0 : cs = [.string s0, .slice a1 l1 c1] := by
    have hend : cs.drop 2 = [] := List.drop_eq_nil_of_le (by rw [hlen]; decide)
    have b0 : cs = cs.drop 0 := rfl
    rw [b0, glue q0, glue q1, hend]
    rfl
  exact ⟨s0, a1, l1, c1, z0, h0, h1⟩
/-- impl.File's cells. -/
def PFile (w : World) (cs : List Value) : Prop := ∃ (s0 : ByteArray) (n1 : Int) (a2 : Option Addr) (l2 c2 : Nat) (n3 : Int), cs = [.string s0, .int .i64 n1, .slice a2 l2 c2, .int .i64 n3] ∧ s0.size ≤ 140737488351232 ∧ (-9223372036854775808 ≤ n1 ∧ n1 ≤ 9223372036854775807) ∧ SL PHash 2 w (.slice a2 l2 c2) ∧ (-9223372036854775808 ≤ n3 ∧ n3 ≤ 9223372036854775807)
theorem PFile.stay {w w' : World} (hb : Below w.heap.size w w') {cs : List Value} (h : PFile w cs) : PFile w' cs := by
  obtain ⟨s0, n1, a2, l2, c2, n3, rfl, h0, h1, h2, h3⟩ := h
  exact ⟨s0, n1, a2, l2, c2, n3, rfl, h0, h1, (h2.stay (fun _ => PHash.stay hb) hb), h3⟩
set_option maxRecDepth 100000 in
theorem openFile {H : Type} {enc : TypeId × Value → H} {w : World} {base fuel : Nat} {cs : List Value} {x : DataW H × List MemPlace} (hw : WOK 233 x.1) (h : DataW.trod enc Tryz.prog w base (fun _ => true) true fuel 233 cs = some x) : PFile w cs := by
  obtain ⟨xs, n, _, rfl, hlen, hxl, hf⟩ := DataW.trod_struct Tryz.underlying233 h
  obtain ⟨y0, e0⟩ : ∃ y, xs[0]? = some y := ⟨_, List.getElem?_eq_getElem (by rw [hxl]; decide)⟩
  have t0 : DataW.trod enc Tryz.prog w base (fun _ => true) true n 9 ((cs.drop 0).take (Tryz.prog.cellsOf 9)) = some y0 := (hf 0 _ rfl).trans e0
  rw [show Tryz.prog.cellsOf 9 = 1 by kernel_rfl] at t0
  have m0 := hw.part Tryz.underlying233 (j := 0) rfl (by rw [List.getElem?_map, e0]; rfl)
  obtain ⟨s0, q0, d0, _⟩ := DataW.trod_string Tryz.underlying9 t0
  rw [d0] at m0
  have h0 := m0.str
  obtain ⟨y1, e1⟩ : ∃ y, xs[1]? = some y := ⟨_, List.getElem?_eq_getElem (by rw [hxl]; decide)⟩
  have t1 : DataW.trod enc Tryz.prog w base (fun _ => true) true n 2 ((cs.drop 1).take (Tryz.prog.cellsOf 2)) = some y1 := (hf 1 _ rfl).trans e1
  rw [show Tryz.prog.cellsOf 2 = 1 by kernel_rfl] at t1
  have m1 := hw.part Tryz.underlying233 (j := 1) rfl (by rw [List.getElem?_map, e1]; rfl)
  obtain ⟨n1, q1, _, w1⟩ := DataW.trod_int Tryz.underlying2 t1
  have h1 := int_wf w1
  obtain ⟨y2, e2⟩ : ∃ y, xs[2]? = some y := ⟨_, List.getElem?_eq_getElem (by rw [hxl]; decide)⟩
  have t2 : DataW.trod enc Tryz.prog w base (fun _ => true) true n 231 ((cs.drop 2).take (Tryz.prog.cellsOf 231)) = some y2 := (hf 2 _ rfl).trans e2
  rw [show Tryz.prog.cellsOf 231 = 1 by kernel_rfl] at t2
  have m2 := hw.part Tryz.underlying233 (j := 2) rfl (by rw [List.getElem?_map, e2]; rfl)
  obtain ⟨u2, q2⟩ : ∃ u, (cs.drop 2).take 1 = [u] := list_one (by rw [List.length_take, List.length_drop, hlen]; decide)
  replace t2 : DataW.trod enc Tryz.prog w base (fun _ => true) true n 231 [u2] = some y2 := by rw [← q2]; exact t2
  have g2 : SL PHash 2 w u2 := sl_of Tryz.underlying231 (fun hw h => openHash hw h) m2 t2
  obtain ⟨a2, l2, c2, rfl, _⟩ := g2.slice
  have h2 := g2
  obtain ⟨y3, e3⟩ : ∃ y, xs[3]? = some y := ⟨_, List.getElem?_eq_getElem (by rw [hxl]; decide)⟩
  have t3 : DataW.trod enc Tryz.prog w base (fun _ => true) true n 2 ((cs.drop 3).take (Tryz.prog.cellsOf 2)) = some y3 := (hf 3 _ rfl).trans e3
  rw [show Tryz.prog.cellsOf 2 = 1 by kernel_rfl] at t3
  have m3 := hw.part Tryz.underlying233 (j := 3) rfl (by rw [List.getElem?_map, e3]; rfl)
  obtain ⟨n3, q3, _, w3⟩ := DataW.trod_int Tryz.underlying2 t3
  have h3 := int_wf w3
  have z0 : cs = [.string s0, .int .i64 n1, .slice a2 l2 c2, .int .i64 n3] := by
    have hend : cs.drop 4 = [] := List.drop_eq_nil_of_le (by rw [hlen]; decide)
    have b0 : cs = cs.drop 0 := rfl
    rw [b0, glue q0, glue q1, glue q2, glue q3, hend]
    rfl
  exact ⟨s0, n1, a2, l2, c2, n3, z0, h0, h1, h2, h3⟩
/-- impl.DelRole's cells. -/
def PDelRole (w : World) (cs : List Value) : Prop := ∃ (s0 : ByteArray) (a1 : Option Addr) (l1 c1 : Nat) (n2 : Int) (y3 : Bool) (a4 : Option Addr) (l4 c4 : Nat) (a5 : Option Addr) (l5 c5 : Nat), cs = [.string s0, .slice a1 l1 c1, .int .i64 n2, .bool y3, .slice a4 l4 c4, .slice a5 l5 c5] ∧ s0.size ≤ 140737488351232 ∧ (∃ l, StrR w (.slice a1 l1 c1) l) ∧ (-9223372036854775808 ≤ n2 ∧ n2 ≤ 9223372036854775807) ∧ (∃ l, StrR w (.slice a4 l4 c4) l) ∧ (∃ l, StrR w (.slice a5 l5 c5) l)
theorem PDelRole.stay {w w' : World} (hb : Below w.heap.size w w') {cs : List Value} (h : PDelRole w cs) : PDelRole w' cs := by
  obtain ⟨s0, a1, l1, c1, n2, y3, a4, l4, c4, a5, l5, c5, rfl, h0, h1, h2, h4, h5⟩ := h
  exact ⟨s0, a1, l1, c1, n2, y3, a4, l4, c4, a5, l5, c5, rfl, h0, (h1.imp fun _ h => h.stay hb), h2, (h4.imp fun _ h => h.stay hb), (h5.imp fun _ h => h.stay hb)⟩
set_option maxRecDepth 100000 in
theorem openDelRole {H : Type} {enc : TypeId × Value → H} {w : World} {base fuel : Nat} {cs : List Value} {x : DataW H × List MemPlace} (hw : WOK 94 x.1) (h : DataW.trod enc Tryz.prog w base (fun _ => true) true fuel 94 cs = some x) : PDelRole w cs := by
  obtain ⟨xs, n, _, rfl, hlen, hxl, hf⟩ := DataW.trod_struct Tryz.underlying94 h
  obtain ⟨y0, e0⟩ : ∃ y, xs[0]? = some y := ⟨_, List.getElem?_eq_getElem (by rw [hxl]; decide)⟩
  have t0 : DataW.trod enc Tryz.prog w base (fun _ => true) true n 9 ((cs.drop 0).take (Tryz.prog.cellsOf 9)) = some y0 := (hf 0 _ rfl).trans e0
  rw [show Tryz.prog.cellsOf 9 = 1 by kernel_rfl] at t0
  have m0 := hw.part Tryz.underlying94 (j := 0) rfl (by rw [List.getElem?_map, e0]; rfl)
  obtain ⟨s0, q0, d0, _⟩ := DataW.trod_string Tryz.underlying9 t0
  rw [d0] at m0
  have h0 := m0.str
  obtain ⟨y1, e1⟩ : ∃ y, xs[1]? = some y := ⟨_, List.getElem?_eq_getElem (by rw [hxl]; decide)⟩
  have t1 : DataW.trod enc Tryz.prog w base (fun _ => true) true n 22 ((cs.drop 1).take (Tryz.prog.cellsOf 22)) = some y1 := (hf 1 _ rfl).trans e1
  rw [show Tryz.prog.cellsOf 22 = 1 by kernel_rfl] at t1
  have m1 := hw.part Tryz.underlying94 (j := 1) rfl (by rw [List.getElem?_map, e1]; rfl)
  obtain ⟨u1, q1⟩ : ∃ u, (cs.drop 1).take 1 = [u] := list_one (by rw [List.length_take, List.length_drop, hlen]; decide)
  replace t1 : DataW.trod enc Tryz.prog w base (fun _ => true) true n 22 [u1] = some y1 := by rw [← q1]; exact t1
  have g1 : ∃ l, StrR w u1 l := strR_of m1 t1
  obtain ⟨a1, l1, c1, rfl, _⟩ : ∃ ao n c, u1 = .slice ao n c ∧ n ≤ maxLen := by obtain ⟨_, g⟩ := g1; exact g.sl
  have h1 := g1
  obtain ⟨y2, e2⟩ : ∃ y, xs[2]? = some y := ⟨_, List.getElem?_eq_getElem (by rw [hxl]; decide)⟩
  have t2 : DataW.trod enc Tryz.prog w base (fun _ => true) true n 3 ((cs.drop 2).take (Tryz.prog.cellsOf 3)) = some y2 := (hf 2 _ rfl).trans e2
  rw [show Tryz.prog.cellsOf 3 = 1 by kernel_rfl] at t2
  have m2 := hw.part Tryz.underlying94 (j := 2) rfl (by rw [List.getElem?_map, e2]; rfl)
  obtain ⟨n2, q2, _, w2⟩ := DataW.trod_int Tryz.underlying3 t2
  have h2 := int_wf w2
  obtain ⟨y3, e3⟩ : ∃ y, xs[3]? = some y := ⟨_, List.getElem?_eq_getElem (by rw [hxl]; decide)⟩
  have t3 : DataW.trod enc Tryz.prog w base (fun _ => true) true n 4 ((cs.drop 3).take (Tryz.prog.cellsOf 4)) = some y3 := (hf 3 _ rfl).trans e3
  rw [show Tryz.prog.cellsOf 4 = 1 by kernel_rfl] at t3
  have m3 := hw.part Tryz.underlying94 (j := 3) rfl (by rw [List.getElem?_map, e3]; rfl)
  obtain ⟨zy3, q3, _⟩ := DataW.trod_bool Tryz.underlying4 t3
  obtain ⟨y4, e4⟩ : ∃ y, xs[4]? = some y := ⟨_, List.getElem?_eq_getElem (by rw [hxl]; decide)⟩
  have t4 : DataW.trod enc Tryz.prog w base (fun _ => true) true n 22 ((cs.drop 4).take (Tryz.prog.cellsOf 22)) = some y4 := (hf 4 _ rfl).trans e4
  rw [show Tryz.prog.cellsOf 22 = 1 by kernel_rfl] at t4
  have m4 := hw.part Tryz.underlying94 (j := 4) rfl (by rw [List.getElem?_map, e4]; rfl)
  obtain ⟨u4, q4⟩ : ∃ u, (cs.drop 4).take 1 = [u] := list_one (by rw [List.length_take, List.length_drop, hlen]; decide)
  replace t4 : DataW.trod enc Tryz.prog w base (fun _ => true) true n 22 [u4] = some y4 := by rw [← q4]; exact t4
  have g4 : ∃ l, StrR w u4 l := strR_of m4 t4
  obtain ⟨a4, l4, c4, rfl, _⟩ : ∃ ao n c, u4 = .slice ao n c ∧ n ≤ maxLen := by obtain ⟨_, g⟩ := g4; exact g.sl
  have h4 := g4
  obtain ⟨y5, e5⟩ : ∃ y, xs[5]? = some y := ⟨_, List.getElem?_eq_getElem (by rw [hxl]; decide)⟩
  have t5 : DataW.trod enc Tryz.prog w base (fun _ => true) true n 22 ((cs.drop 5).take (Tryz.prog.cellsOf 22)) = some y5 := (hf 5 _ rfl).trans e5
  rw [show Tryz.prog.cellsOf 22 = 1 by kernel_rfl] at t5
  have m5 := hw.part Tryz.underlying94 (j := 5) rfl (by rw [List.getElem?_map, e5]; rfl)
  obtain ⟨u5, q5⟩ : ∃ u, (cs.drop 5).take 1 = [u] := list_one (by rw [List.length_take, List.length_drop, hlen]; decide)
  replace t5 : DataW.trod enc Tryz.prog w base (fun _ => true) true n 22 [u5] = some y5 := by rw [← q5]; exact t5
  have g5 : ∃ l, StrR w u5 l := strR_of m5 t5
  obtain ⟨a5, l5, c5, rfl, _⟩ : ∃ ao n c, u5 = .slice ao n c ∧ n ≤ maxLen := by obtain ⟨_, g⟩ := g5; exact g.sl
  have h5 := g5
  have z0 : cs = [.string s0, .slice a1 l1 c1, .int .i64 n2, .bool zy3, .slice a4 l4 c4, .slice a5 l5 c5] := by
    have hend : cs.drop 6 = [] := List.drop_eq_nil_of_le (by rw [hlen]; decide)
    have b0 : cs = cs.drop 0 := rfl
    rw [b0, glue q0, glue q1, glue q2, glue q3, glue q4, glue q5, hend]
    rfl
  exact ⟨s0, a1, l1, c1, n2, zy3, a4, l4, c4, a5, l5, c5, z0, h0, h1, h2, h4, h5⟩
/-- impl.Sig's cells. -/
def PSig (_w : World) (cs : List Value) : Prop := ∃ (s0 : ByteArray) (n1 : Int), cs = [.string s0, .int .i64 n1] ∧ s0.size ≤ 140737488351232 ∧ (-9223372036854775808 ≤ n1 ∧ n1 ≤ 9223372036854775807)
theorem PSig.stay {w w' : World} (_hb : Below w.heap.size w w') {cs : List Value} (h : PSig w cs) : PSig w' cs := by
  obtain ⟨s0, n1, rfl, h0, h1⟩ := h
  exact ⟨s0, n1, rfl, h0, h1⟩
set_option maxRecDepth 100000 in
theorem openSig {H : Type} {enc : TypeId × Value → H} {w : World} {base fuel : Nat} {cs : List Value} {x : DataW H × List MemPlace} (hw : WOK 59 x.1) (h : DataW.trod enc Tryz.prog w base (fun _ => true) true fuel 59 cs = some x) : PSig w cs := by
  obtain ⟨xs, n, _, rfl, hlen, hxl, hf⟩ := DataW.trod_struct Tryz.underlying59 h
  obtain ⟨y0, e0⟩ : ∃ y, xs[0]? = some y := ⟨_, List.getElem?_eq_getElem (by rw [hxl]; decide)⟩
  have t0 : DataW.trod enc Tryz.prog w base (fun _ => true) true n 9 ((cs.drop 0).take (Tryz.prog.cellsOf 9)) = some y0 := (hf 0 _ rfl).trans e0
  rw [show Tryz.prog.cellsOf 9 = 1 by kernel_rfl] at t0
  have m0 := hw.part Tryz.underlying59 (j := 0) rfl (by rw [List.getElem?_map, e0]; rfl)
  obtain ⟨s0, q0, d0, _⟩ := DataW.trod_string Tryz.underlying9 t0
  rw [d0] at m0
  have h0 := m0.str
  obtain ⟨y1, e1⟩ : ∃ y, xs[1]? = some y := ⟨_, List.getElem?_eq_getElem (by rw [hxl]; decide)⟩
  have t1 : DataW.trod enc Tryz.prog w base (fun _ => true) true n 3 ((cs.drop 1).take (Tryz.prog.cellsOf 3)) = some y1 := (hf 1 _ rfl).trans e1
  rw [show Tryz.prog.cellsOf 3 = 1 by kernel_rfl] at t1
  have m1 := hw.part Tryz.underlying59 (j := 1) rfl (by rw [List.getElem?_map, e1]; rfl)
  obtain ⟨n1, q1, _, w1⟩ := DataW.trod_int Tryz.underlying3 t1
  have h1 := int_wf w1
  have z0 : cs = [.string s0, .int .i64 n1] := by
    have hend : cs.drop 2 = [] := List.drop_eq_nil_of_le (by rw [hlen]; decide)
    have b0 : cs = cs.drop 0 := rfl
    rw [b0, glue q0, glue q1, hend]
    rfl
  exact ⟨s0, n1, z0, h0, h1⟩
/-- impl.Succinct's cells. -/
def PSuccinct (w : World) (cs : List Value) : Prop := ∃ (a0 : Option Addr) (l0 c0 : Nat) (n1 : Int) (n2 : Int) (s3 : ByteArray), cs = [.slice a0 l0 c0, .int .i64 n1, .int .i64 n2, .string s3] ∧ (∃ l, StrR w (.slice a0 l0 c0) l) ∧ (-9223372036854775808 ≤ n1 ∧ n1 ≤ 9223372036854775807) ∧ (-9223372036854775808 ≤ n2 ∧ n2 ≤ 9223372036854775807) ∧ s3.size ≤ 140737488351232
theorem PSuccinct.stay {w w' : World} (hb : Below w.heap.size w w') {cs : List Value} (h : PSuccinct w cs) : PSuccinct w' cs := by
  obtain ⟨a0, l0, c0, n1, n2, s3, rfl, h0, h1, h2, h3⟩ := h
  exact ⟨a0, l0, c0, n1, n2, s3, rfl, (h0.imp fun _ h => h.stay hb), h1, h2, h3⟩
set_option maxRecDepth 100000 in
theorem openSuccinct {H : Type} {enc : TypeId × Value → H} {w : World} {base fuel : Nat} {cs : List Value} {x : DataW H × List MemPlace} (hw : WOK 50 x.1) (h : DataW.trod enc Tryz.prog w base (fun _ => true) true fuel 50 cs = some x) : PSuccinct w cs := by
  obtain ⟨xs, n, _, rfl, hlen, hxl, hf⟩ := DataW.trod_struct Tryz.underlying50 h
  obtain ⟨y0, e0⟩ : ∃ y, xs[0]? = some y := ⟨_, List.getElem?_eq_getElem (by rw [hxl]; decide)⟩
  have t0 : DataW.trod enc Tryz.prog w base (fun _ => true) true n 22 ((cs.drop 0).take (Tryz.prog.cellsOf 22)) = some y0 := (hf 0 _ rfl).trans e0
  rw [show Tryz.prog.cellsOf 22 = 1 by kernel_rfl] at t0
  have m0 := hw.part Tryz.underlying50 (j := 0) rfl (by rw [List.getElem?_map, e0]; rfl)
  obtain ⟨u0, q0⟩ : ∃ u, (cs.drop 0).take 1 = [u] := list_one (by rw [List.length_take, List.length_drop, hlen]; decide)
  replace t0 : DataW.trod enc Tryz.prog w base (fun _ => true) true n 22 [u0] = some y0 := by rw [← q0]; exact t0
  have g0 : ∃ l, StrR w u0 l := strR_of m0 t0
  obtain ⟨a0, l0, c0, rfl, _⟩ : ∃ ao n c, u0 = .slice ao n c ∧ n ≤ maxLen := by obtain ⟨_, g⟩ := g0; exact g.sl
  have h0 := g0
  obtain ⟨y1, e1⟩ : ∃ y, xs[1]? = some y := ⟨_, List.getElem?_eq_getElem (by rw [hxl]; decide)⟩
  have t1 : DataW.trod enc Tryz.prog w base (fun _ => true) true n 3 ((cs.drop 1).take (Tryz.prog.cellsOf 3)) = some y1 := (hf 1 _ rfl).trans e1
  rw [show Tryz.prog.cellsOf 3 = 1 by kernel_rfl] at t1
  have m1 := hw.part Tryz.underlying50 (j := 1) rfl (by rw [List.getElem?_map, e1]; rfl)
  obtain ⟨n1, q1, _, w1⟩ := DataW.trod_int Tryz.underlying3 t1
  have h1 := int_wf w1
  obtain ⟨y2, e2⟩ : ∃ y, xs[2]? = some y := ⟨_, List.getElem?_eq_getElem (by rw [hxl]; decide)⟩
  have t2 : DataW.trod enc Tryz.prog w base (fun _ => true) true n 3 ((cs.drop 2).take (Tryz.prog.cellsOf 3)) = some y2 := (hf 2 _ rfl).trans e2
  rw [show Tryz.prog.cellsOf 3 = 1 by kernel_rfl] at t2
  have m2 := hw.part Tryz.underlying50 (j := 2) rfl (by rw [List.getElem?_map, e2]; rfl)
  obtain ⟨n2, q2, _, w2⟩ := DataW.trod_int Tryz.underlying3 t2
  have h2 := int_wf w2
  obtain ⟨y3, e3⟩ : ∃ y, xs[3]? = some y := ⟨_, List.getElem?_eq_getElem (by rw [hxl]; decide)⟩
  have t3 : DataW.trod enc Tryz.prog w base (fun _ => true) true n 9 ((cs.drop 3).take (Tryz.prog.cellsOf 9)) = some y3 := (hf 3 _ rfl).trans e3
  rw [show Tryz.prog.cellsOf 9 = 1 by kernel_rfl] at t3
  have m3 := hw.part Tryz.underlying50 (j := 3) rfl (by rw [List.getElem?_map, e3]; rfl)
  obtain ⟨s3, q3, d3, _⟩ := DataW.trod_string Tryz.underlying9 t3
  rw [d3] at m3
  have h3 := m3.str
  have z0 : cs = [.slice a0 l0 c0, .int .i64 n1, .int .i64 n2, .string s3] := by
    have hend : cs.drop 4 = [] := List.drop_eq_nil_of_le (by rw [hlen]; decide)
    have b0 : cs = cs.drop 0 := rfl
    rw [b0, glue q0, glue q1, glue q2, glue q3, hend]
    rfl
  exact ⟨a0, l0, c0, n1, n2, s3, z0, h0, h1, h2, h3⟩
/-- impl.Delegations's cells. -/
def PDelegations (w : World) (cs : List Value) : Prop := ∃ (y0 : Bool) (a1 : Option Addr) (l1 c1 : Nat) (y2 : Bool) (a3 : Option Addr) (l3 c3 : Nat) (y4 : Bool) (a5 : Option Addr) (l5 c5 : Nat) (n6 : Int) (n7 : Int) (s8 : ByteArray), cs = [.bool y0, .slice a1 l1 c1, .bool y2, .slice a3 l3 c3, .bool y4, .slice a5 l5 c5, .int .i64 n6, .int .i64 n7, .string s8] ∧ SL PKey 3 w (.slice a1 l1 c1) ∧ SL PDelRole 6 w (.slice a3 l3 c3) ∧ (∃ l, StrR w (.slice a5 l5 c5) l) ∧ (-9223372036854775808 ≤ n6 ∧ n6 ≤ 9223372036854775807) ∧ (-9223372036854775808 ≤ n7 ∧ n7 ≤ 9223372036854775807) ∧ s8.size ≤ 140737488351232
theorem PDelegations.stay {w w' : World} (hb : Below w.heap.size w w') {cs : List Value} (h : PDelegations w cs) : PDelegations w' cs := by
  obtain ⟨y0, a1, l1, c1, y2, a3, l3, c3, y4, a5, l5, c5, n6, n7, s8, rfl, h1, h3, h5, h6, h7, h8⟩ := h
  exact ⟨y0, a1, l1, c1, y2, a3, l3, c3, y4, a5, l5, c5, n6, n7, s8, rfl, (h1.stay (fun _ => PKey.stay hb) hb), (h3.stay (fun _ => PDelRole.stay hb) hb), (h5.imp fun _ h => h.stay hb), h6, h7, h8⟩
set_option maxRecDepth 100000 in
theorem openDelegations {H : Type} {enc : TypeId × Value → H} {w : World} {base fuel : Nat} {cs : List Value} {x : DataW H × List MemPlace} (hw : WOK 52 x.1) (h : DataW.trod enc Tryz.prog w base (fun _ => true) true fuel 52 cs = some x) : PDelegations w cs := by
  obtain ⟨xs, n, _, rfl, hlen, hxl, hf⟩ := DataW.trod_struct Tryz.underlying52 h
  obtain ⟨y0, e0⟩ : ∃ y, xs[0]? = some y := ⟨_, List.getElem?_eq_getElem (by rw [hxl]; decide)⟩
  have t0 : DataW.trod enc Tryz.prog w base (fun _ => true) true n 4 ((cs.drop 0).take (Tryz.prog.cellsOf 4)) = some y0 := (hf 0 _ rfl).trans e0
  rw [show Tryz.prog.cellsOf 4 = 1 by kernel_rfl] at t0
  have m0 := hw.part Tryz.underlying52 (j := 0) rfl (by rw [List.getElem?_map, e0]; rfl)
  obtain ⟨zy0, q0, _⟩ := DataW.trod_bool Tryz.underlying4 t0
  obtain ⟨y1, e1⟩ : ∃ y, xs[1]? = some y := ⟨_, List.getElem?_eq_getElem (by rw [hxl]; decide)⟩
  have t1 : DataW.trod enc Tryz.prog w base (fun _ => true) true n 43 ((cs.drop 1).take (Tryz.prog.cellsOf 43)) = some y1 := (hf 1 _ rfl).trans e1
  rw [show Tryz.prog.cellsOf 43 = 1 by kernel_rfl] at t1
  have m1 := hw.part Tryz.underlying52 (j := 1) rfl (by rw [List.getElem?_map, e1]; rfl)
  obtain ⟨u1, q1⟩ : ∃ u, (cs.drop 1).take 1 = [u] := list_one (by rw [List.length_take, List.length_drop, hlen]; decide)
  replace t1 : DataW.trod enc Tryz.prog w base (fun _ => true) true n 43 [u1] = some y1 := by rw [← q1]; exact t1
  have g1 : SL PKey 3 w u1 := sl_of Tryz.underlying43 (fun hw h => openKey hw h) m1 t1
  obtain ⟨a1, l1, c1, rfl, _⟩ := g1.slice
  have h1 := g1
  obtain ⟨y2, e2⟩ : ∃ y, xs[2]? = some y := ⟨_, List.getElem?_eq_getElem (by rw [hxl]; decide)⟩
  have t2 : DataW.trod enc Tryz.prog w base (fun _ => true) true n 4 ((cs.drop 2).take (Tryz.prog.cellsOf 4)) = some y2 := (hf 2 _ rfl).trans e2
  rw [show Tryz.prog.cellsOf 4 = 1 by kernel_rfl] at t2
  have m2 := hw.part Tryz.underlying52 (j := 2) rfl (by rw [List.getElem?_map, e2]; rfl)
  obtain ⟨zy2, q2, _⟩ := DataW.trod_bool Tryz.underlying4 t2
  obtain ⟨y3, e3⟩ : ∃ y, xs[3]? = some y := ⟨_, List.getElem?_eq_getElem (by rw [hxl]; decide)⟩
  have t3 : DataW.trod enc Tryz.prog w base (fun _ => true) true n 48 ((cs.drop 3).take (Tryz.prog.cellsOf 48)) = some y3 := (hf 3 _ rfl).trans e3
  rw [show Tryz.prog.cellsOf 48 = 1 by kernel_rfl] at t3
  have m3 := hw.part Tryz.underlying52 (j := 3) rfl (by rw [List.getElem?_map, e3]; rfl)
  obtain ⟨u3, q3⟩ : ∃ u, (cs.drop 3).take 1 = [u] := list_one (by rw [List.length_take, List.length_drop, hlen]; decide)
  replace t3 : DataW.trod enc Tryz.prog w base (fun _ => true) true n 48 [u3] = some y3 := by rw [← q3]; exact t3
  have g3 : SL PDelRole 6 w u3 := sl_of Tryz.underlying48 (fun hw h => openDelRole hw h) m3 t3
  obtain ⟨a3, l3, c3, rfl, _⟩ := g3.slice
  have h3 := g3
  obtain ⟨y4, e4⟩ : ∃ y, xs[4]? = some y := ⟨_, List.getElem?_eq_getElem (by rw [hxl]; decide)⟩
  have t4 : DataW.trod enc Tryz.prog w base (fun _ => true) true n 4 ((cs.drop 4).take (Tryz.prog.cellsOf 4)) = some y4 := (hf 4 _ rfl).trans e4
  rw [show Tryz.prog.cellsOf 4 = 1 by kernel_rfl] at t4
  have m4 := hw.part Tryz.underlying52 (j := 4) rfl (by rw [List.getElem?_map, e4]; rfl)
  obtain ⟨zy4, q4, _⟩ := DataW.trod_bool Tryz.underlying4 t4
  obtain ⟨y5, e5⟩ : ∃ y, xs[5]? = some y := ⟨_, List.getElem?_eq_getElem (by rw [hxl]; decide)⟩
  have t5 : DataW.trod enc Tryz.prog w base (fun _ => true) true n 50 ((cs.drop 5).take (Tryz.prog.cellsOf 50)) = some y5 := (hf 5 _ rfl).trans e5
  rw [show Tryz.prog.cellsOf 50 = 4 by kernel_rfl] at t5
  have m5 := hw.part Tryz.underlying52 (j := 5) rfl (by rw [List.getElem?_map, e5]; rfl)
  obtain ⟨a5, l5, c5, n6, n7, s8, q5, h5, h6, h7, h8⟩ := openSuccinct m5 t5
  have z0 : cs = [.bool zy0, .slice a1 l1 c1, .bool zy2, .slice a3 l3 c3, .bool zy4, .slice a5 l5 c5, .int .i64 n6, .int .i64 n7, .string s8] := by
    have hend : cs.drop 9 = [] := List.drop_eq_nil_of_le (by rw [hlen]; decide)
    have b0 : cs = cs.drop 0 := rfl
    rw [b0, glue q0, glue q1, glue q2, glue q3, glue q4, glue q5, hend]
    rfl
  exact ⟨zy0, a1, l1, c1, zy2, a3, l3, c3, zy4, a5, l5, c5, n6, n7, s8, z0, h1, h3, h5, h6, h7, h8⟩
/-- impl.Meta's cells. -/
def PMeta (w : World) (cs : List Value) : Prop := ∃ (s0 : ByteArray) (n1 : Int) (n2 : Int) (a3 : Option Addr) (l3 c3 : Nat) (a4 : Option Addr) (l4 c4 : Nat) (a5 : Option Addr) (l5 c5 : Nat) (y6 : Bool) (a7 : Option Addr) (l7 c7 : Nat) (y8 : Bool) (a9 : Option Addr) (l9 c9 : Nat) (y10 : Bool) (a11 : Option Addr) (l11 c11 : Nat) (n12 : Int) (n13 : Int) (s14 : ByteArray) (a15 : Option Addr) (l15 c15 : Nat) (a16 : Option Addr) (l16 c16 : Nat), cs = [.string s0, .int .i64 n1, .int .i64 n2, .slice a3 l3 c3, .slice a4 l4 c4, .slice a5 l5 c5, .bool y6, .slice a7 l7 c7, .bool y8, .slice a9 l9 c9, .bool y10, .slice a11 l11 c11, .int .i64 n12, .int .i64 n13, .string s14, .slice a15 l15 c15, .slice a16 l16 c16] ∧ s0.size ≤ 140737488351232 ∧ (-9223372036854775808 ≤ n1 ∧ n1 ≤ 9223372036854775807) ∧ (-9223372036854775808 ≤ n2 ∧ n2 ≤ 9223372036854775807) ∧ SL PKey 3 w (.slice a3 l3 c3) ∧ SL PRole 3 w (.slice a4 l4 c4) ∧ SL PFile 4 w (.slice a5 l5 c5) ∧ SL PKey 3 w (.slice a7 l7 c7) ∧ SL PDelRole 6 w (.slice a9 l9 c9) ∧ (∃ l, StrR w (.slice a11 l11 c11) l) ∧ (-9223372036854775808 ≤ n12 ∧ n12 ≤ 9223372036854775807) ∧ (-9223372036854775808 ≤ n13 ∧ n13 ≤ 9223372036854775807) ∧ s14.size ≤ 140737488351232 ∧ SL PSig 2 w (.slice a15 l15 c15) ∧ (∃ l, BSrc w (.slice a16 l16 c16) l)
theorem PMeta.stay {w w' : World} (hb : Below w.heap.size w w') {cs : List Value} (h : PMeta w cs) : PMeta w' cs := by
  obtain ⟨s0, n1, n2, a3, l3, c3, a4, l4, c4, a5, l5, c5, y6, a7, l7, c7, y8, a9, l9, c9, y10, a11, l11, c11, n12, n13, s14, a15, l15, c15, a16, l16, c16, rfl, h0, h1, h2, h3, h4, h5, h7, h9, h11, h12, h13, h14, h15, h16⟩ := h
  exact ⟨s0, n1, n2, a3, l3, c3, a4, l4, c4, a5, l5, c5, y6, a7, l7, c7, y8, a9, l9, c9, y10, a11, l11, c11, n12, n13, s14, a15, l15, c15, a16, l16, c16, rfl, h0, h1, h2, (h3.stay (fun _ => PKey.stay hb) hb), (h4.stay (fun _ => PRole.stay hb) hb), (h5.stay (fun _ => PFile.stay hb) hb), (h7.stay (fun _ => PKey.stay hb) hb), (h9.stay (fun _ => PDelRole.stay hb) hb), (h11.imp fun _ h => h.stay hb), h12, h13, h14, (h15.stay (fun _ => PSig.stay hb) hb), (h16.imp fun _ h => h.stay hb)⟩
set_option maxRecDepth 100000 in
theorem openMeta {H : Type} {enc : TypeId × Value → H} {w : World} {base fuel : Nat} {cs : List Value} {x : DataW H × List MemPlace} (hw : WOK 55 x.1) (h : DataW.trod enc Tryz.prog w base (fun _ => true) true fuel 55 cs = some x) : PMeta w cs := by
  obtain ⟨xs, n, _, rfl, hlen, hxl, hf⟩ := DataW.trod_struct Tryz.underlying55 h
  obtain ⟨y0, e0⟩ : ∃ y, xs[0]? = some y := ⟨_, List.getElem?_eq_getElem (by rw [hxl]; decide)⟩
  have t0 : DataW.trod enc Tryz.prog w base (fun _ => true) true n 9 ((cs.drop 0).take (Tryz.prog.cellsOf 9)) = some y0 := (hf 0 _ rfl).trans e0
  rw [show Tryz.prog.cellsOf 9 = 1 by kernel_rfl] at t0
  have m0 := hw.part Tryz.underlying55 (j := 0) rfl (by rw [List.getElem?_map, e0]; rfl)
  obtain ⟨s0, q0, d0, _⟩ := DataW.trod_string Tryz.underlying9 t0
  rw [d0] at m0
  have h0 := m0.str
  obtain ⟨y1, e1⟩ : ∃ y, xs[1]? = some y := ⟨_, List.getElem?_eq_getElem (by rw [hxl]; decide)⟩
  have t1 : DataW.trod enc Tryz.prog w base (fun _ => true) true n 2 ((cs.drop 1).take (Tryz.prog.cellsOf 2)) = some y1 := (hf 1 _ rfl).trans e1
  rw [show Tryz.prog.cellsOf 2 = 1 by kernel_rfl] at t1
  have m1 := hw.part Tryz.underlying55 (j := 1) rfl (by rw [List.getElem?_map, e1]; rfl)
  obtain ⟨n1, q1, _, w1⟩ := DataW.trod_int Tryz.underlying2 t1
  have h1 := int_wf w1
  obtain ⟨y2, e2⟩ : ∃ y, xs[2]? = some y := ⟨_, List.getElem?_eq_getElem (by rw [hxl]; decide)⟩
  have t2 : DataW.trod enc Tryz.prog w base (fun _ => true) true n 2 ((cs.drop 2).take (Tryz.prog.cellsOf 2)) = some y2 := (hf 2 _ rfl).trans e2
  rw [show Tryz.prog.cellsOf 2 = 1 by kernel_rfl] at t2
  have m2 := hw.part Tryz.underlying55 (j := 2) rfl (by rw [List.getElem?_map, e2]; rfl)
  obtain ⟨n2, q2, _, w2⟩ := DataW.trod_int Tryz.underlying2 t2
  have h2 := int_wf w2
  obtain ⟨y3, e3⟩ : ∃ y, xs[3]? = some y := ⟨_, List.getElem?_eq_getElem (by rw [hxl]; decide)⟩
  have t3 : DataW.trod enc Tryz.prog w base (fun _ => true) true n 43 ((cs.drop 3).take (Tryz.prog.cellsOf 43)) = some y3 := (hf 3 _ rfl).trans e3
  rw [show Tryz.prog.cellsOf 43 = 1 by kernel_rfl] at t3
  have m3 := hw.part Tryz.underlying55 (j := 3) rfl (by rw [List.getElem?_map, e3]; rfl)
  obtain ⟨u3, q3⟩ : ∃ u, (cs.drop 3).take 1 = [u] := list_one (by rw [List.length_take, List.length_drop, hlen]; decide)
  replace t3 : DataW.trod enc Tryz.prog w base (fun _ => true) true n 43 [u3] = some y3 := by rw [← q3]; exact t3
  have g3 : SL PKey 3 w u3 := sl_of Tryz.underlying43 (fun hw h => openKey hw h) m3 t3
  obtain ⟨a3, l3, c3, rfl, _⟩ := g3.slice
  have h3 := g3
  obtain ⟨y4, e4⟩ : ∃ y, xs[4]? = some y := ⟨_, List.getElem?_eq_getElem (by rw [hxl]; decide)⟩
  have t4 : DataW.trod enc Tryz.prog w base (fun _ => true) true n 46 ((cs.drop 4).take (Tryz.prog.cellsOf 46)) = some y4 := (hf 4 _ rfl).trans e4
  rw [show Tryz.prog.cellsOf 46 = 1 by kernel_rfl] at t4
  have m4 := hw.part Tryz.underlying55 (j := 4) rfl (by rw [List.getElem?_map, e4]; rfl)
  obtain ⟨u4, q4⟩ : ∃ u, (cs.drop 4).take 1 = [u] := list_one (by rw [List.length_take, List.length_drop, hlen]; decide)
  replace t4 : DataW.trod enc Tryz.prog w base (fun _ => true) true n 46 [u4] = some y4 := by rw [← q4]; exact t4
  have g4 : SL PRole 3 w u4 := sl_of Tryz.underlying46 (fun hw h => openRole hw h) m4 t4
  obtain ⟨a4, l4, c4, rfl, _⟩ := g4.slice
  have h4 := g4
  obtain ⟨y5, e5⟩ : ∃ y, xs[5]? = some y := ⟨_, List.getElem?_eq_getElem (by rw [hxl]; decide)⟩
  have t5 : DataW.trod enc Tryz.prog w base (fun _ => true) true n 47 ((cs.drop 5).take (Tryz.prog.cellsOf 47)) = some y5 := (hf 5 _ rfl).trans e5
  rw [show Tryz.prog.cellsOf 47 = 1 by kernel_rfl] at t5
  have m5 := hw.part Tryz.underlying55 (j := 5) rfl (by rw [List.getElem?_map, e5]; rfl)
  obtain ⟨u5, q5⟩ : ∃ u, (cs.drop 5).take 1 = [u] := list_one (by rw [List.length_take, List.length_drop, hlen]; decide)
  replace t5 : DataW.trod enc Tryz.prog w base (fun _ => true) true n 47 [u5] = some y5 := by rw [← q5]; exact t5
  have g5 : SL PFile 4 w u5 := sl_of Tryz.underlying47 (fun hw h => openFile hw h) m5 t5
  obtain ⟨a5, l5, c5, rfl, _⟩ := g5.slice
  have h5 := g5
  obtain ⟨y6, e6⟩ : ∃ y, xs[6]? = some y := ⟨_, List.getElem?_eq_getElem (by rw [hxl]; decide)⟩
  have t6 : DataW.trod enc Tryz.prog w base (fun _ => true) true n 52 ((cs.drop 6).take (Tryz.prog.cellsOf 52)) = some y6 := (hf 6 _ rfl).trans e6
  rw [show Tryz.prog.cellsOf 52 = 9 by kernel_rfl] at t6
  have m6 := hw.part Tryz.underlying55 (j := 6) rfl (by rw [List.getElem?_map, e6]; rfl)
  obtain ⟨zy6, a7, l7, c7, zy8, a9, l9, c9, zy10, a11, l11, c11, n12, n13, s14, q6, h7, h9, h11, h12, h13, h14⟩ := openDelegations m6 t6
  obtain ⟨y7, e7⟩ : ∃ y, xs[7]? = some y := ⟨_, List.getElem?_eq_getElem (by rw [hxl]; decide)⟩
  have t7 : DataW.trod enc Tryz.prog w base (fun _ => true) true n 53 ((cs.drop 15).take (Tryz.prog.cellsOf 53)) = some y7 := (hf 7 _ rfl).trans e7
  rw [show Tryz.prog.cellsOf 53 = 1 by kernel_rfl] at t7
  have m7 := hw.part Tryz.underlying55 (j := 7) rfl (by rw [List.getElem?_map, e7]; rfl)
  obtain ⟨u7, q7⟩ : ∃ u, (cs.drop 15).take 1 = [u] := list_one (by rw [List.length_take, List.length_drop, hlen]; decide)
  replace t7 : DataW.trod enc Tryz.prog w base (fun _ => true) true n 53 [u7] = some y7 := by rw [← q7]; exact t7
  have g7 : SL PSig 2 w u7 := sl_of Tryz.underlying53 (fun hw h => openSig hw h) m7 t7
  obtain ⟨a15, l15, c15, rfl, _⟩ := g7.slice
  have h15 := g7
  obtain ⟨y8, e8⟩ : ∃ y, xs[8]? = some y := ⟨_, List.getElem?_eq_getElem (by rw [hxl]; decide)⟩
  have t8 : DataW.trod enc Tryz.prog w base (fun _ => true) true n 31 ((cs.drop 16).take (Tryz.prog.cellsOf 31)) = some y8 := (hf 8 _ rfl).trans e8
  rw [show Tryz.prog.cellsOf 31 = 1 by kernel_rfl] at t8
  have m8 := hw.part Tryz.underlying55 (j := 8) rfl (by rw [List.getElem?_map, e8]; rfl)
  obtain ⟨u8, q8⟩ : ∃ u, (cs.drop 16).take 1 = [u] := list_one (by rw [List.length_take, List.length_drop, hlen]; decide)
  replace t8 : DataW.trod enc Tryz.prog w base (fun _ => true) true n 31 [u8] = some y8 := by rw [← q8]; exact t8
  have g8 : ∃ l, BSrc w u8 l := bsrc_trod t8
  obtain ⟨a16, l16, c16, rfl, _⟩ : ∃ ao n c, u8 = .slice ao n c ∧ n ≤ maxLen := by obtain ⟨_, g⟩ := g8; exact g.sl
  have h16 := g8
  have z0 : cs = [.string s0, .int .i64 n1, .int .i64 n2, .slice a3 l3 c3, .slice a4 l4 c4, .slice a5 l5 c5, .bool zy6, .slice a7 l7 c7, .bool zy8, .slice a9 l9 c9, .bool zy10, .slice a11 l11 c11, .int .i64 n12, .int .i64 n13, .string s14, .slice a15 l15 c15, .slice a16 l16 c16] := by
    have hend : cs.drop 17 = [] := List.drop_eq_nil_of_le (by rw [hlen]; decide)
    have b0 : cs = cs.drop 0 := rfl
    rw [b0, glue q0, glue q1, glue q2, glue q3, glue q4, glue q5, glue q6, glue q7, glue q8, hend]
    rfl
  exact ⟨s0, n1, n2, a3, l3, c3, a4, l4, c4, a5, l5, c5, zy6, a7, l7, c7, zy8, a9, l9, c9, zy10, a11, l11, c11, n12, n13, s14, a15, l15, c15, a16, l16, c16, z0, h0, h1, h2, h3, h4, h5, h7, h9, h11, h12, h13, h14, h15, h16⟩
end Go.Proofs.YtjganhmbjffjfaaGreatDoor
