/- A value of impl as a tree; a list of values that came in, opened. -/
import Derived.Test.YtjganhmbjffjfaaGreatDoorD2
import Derived.Deep.Slices
import Derived.Deep.Fields
import Derived.Deep.Strs
import Derived.ChangeSame
import Derived.Lib.SmallJoins
import Derived.ProofKit
open Go Go.RowKit
namespace Go.Proofs.YtjganhmbjffjfaaGreatDoor
open Go.ChangeShapes Go.WideShapes Go.ChangeAt Go.Deep Go.Joins
/-- A value of the thin package: its kind, its text, its keys, its list. -/
inductive VT where
  | mk (kind text : ByteArray) (keys : List ByteArray) (list : List VT)
def VT.kind : VT → ByteArray | .mk k _ _ _ => k
def VT.text : VT → ByteArray | .mk _ t _ _ => t
def VT.keys : VT → List ByteArray | .mk _ _ k _ => k
def VT.list : VT → List VT | .mk _ _ _ l => l
/-- A slice of strings that reads as l. -/
def StrR (w : World) (v : Value) (l : List ByteArray) : Prop :=
  (v = .slice none 0 0 ∧ l = []) ∨ ∃ a cap, v = .slice (some a) l.length cap ∧ l.length ≤ cap ∧ cap ≤ maxLen ∧ ∀ (j : Nat) (s : ByteArray), l[j]? = some s → w.cell? (a.add j) = some (.string s) ∧ s.size ≤ 140737488351232
theorem StrR.stay {w w' : World} {v : Value} {l : List ByteArray} (h : StrR w v l) (hb : Below w.heap.size w w') : StrR w' v l := by
  rcases h with h | ⟨a, cap, rfl, h1, h2, h3⟩
  · exact .inl h
  · exact .inr ⟨a, cap, rfl, h1, h2, fun j s hj => ⟨(hb.cell (p := a.add j) (cell_lt (h3 j s hj).1)).trans (h3 j s hj).1, (h3 j s hj).2⟩⟩
/-- A slice of values that reads as l. -/
inductive LR (w : World) : Value → List VT → Prop
  | none : LR w (.slice none 0 0) []
  | some (a : Addr) (cap : Nat) (l : List VT) (kv lv : Nat → Value) (hc : l.length ≤ cap) (hm : cap ≤ maxLen)
      (hk : ∀ (j : Nat) (t : VT), l[j]? = some t → w.cell? (a.add (j * 4)) = some (.string t.kind) ∧ w.cell? (a.add (j * 4 + 1)) = some (.string t.text) ∧ w.cell? (a.add (j * 4 + 2)) = some (kv j) ∧ w.cell? (a.add (j * 4 + 3)) = some (lv j) ∧
        t.kind.size ≤ 140737488351232 ∧ t.text.size ≤ 140737488351232 ∧ StrR w (kv j) t.keys)
      (hr : ∀ (j : Nat) (t : VT), l[j]? = some t → LR w (lv j) t.list) : LR w (.slice (some a) l.length cap) l
theorem LR.stay {w w' : World} (hb : Below w.heap.size w w') {v : Value} {l : List VT} (h : LR w v l) : LR w' v l := by
  induction h with
  | none => exact .none
  | some a cap l kv lv hc hm hk hr ih =>
    refine .some a cap l kv lv hc hm (fun j t hj => ?_) ih
    obtain ⟨h1, h2, h3, h4, h5, h6, h7⟩ := hk j t hj
    exact ⟨(hb.cell (cell_lt h1)).trans h1, (hb.cell (cell_lt h2)).trans h2, (hb.cell (cell_lt h3)).trans h3, (hb.cell (cell_lt h4)).trans h4, h5, h6, h7.stay hb⟩
/-- A value that reads as a tree. -/
structure VR (w : World) (v : Value) (t : VT) : Prop where
  ex : ∃ kv lv, v = .agg #[.string t.kind, .string t.text, kv, lv] ∧ t.kind.size ≤ 140737488351232 ∧ t.text.size ≤ 140737488351232 ∧ StrR w kv t.keys ∧ LR w lv t.list
section
variable {H : Type} {enc : TypeId × Value → H} {w : World} {base : Nat}
/-- A datum is none that a machine can't hold. -/
def WOK (t : TypeId) (d : DataW H) : Prop := ∀ n ∈ d.weights Tryz.prog t, n ≤ reachBytes
theorem wAll {e : TypeId} : ∀ {l : List (DataW H)}, (∀ n ∈ DataW.weightsAll Tryz.prog e l, n ≤ reachBytes) → ∀ d ∈ l, WOK e d
  | [], _, d, hd => by cases hd
  | x :: l, h, d, hd => by
    rw [DataW.weightsAll] at h
    rcases List.mem_cons.1 hd with rfl | hd
    · exact fun n hn => h n (List.mem_append_left _ hn)
    · exact wAll (fun n hn => h n (List.mem_append_right _ hn)) d hd
theorem WOK.elem {t e : TypeId} {elems spare : List (DataW H)} (ht : Tryz.prog.underlying t = some (.slice e)) (h : WOK t (.slice elems spare)) : ∀ d ∈ elems, WOK e d := by
  unfold WOK at h
  rw [DataW.weights, ht] at h
  exact wAll fun n hn => h n (List.mem_cons_of_mem _ (List.mem_append_left _ hn))
theorem WOK.part {t : TypeId} {fs : Array Field} {parts : List (DataW H)} (ht : Tryz.prog.underlying t = some (.struct fs)) (h : WOK t (.agg parts)) {j : Nat} {f : Field} {d : DataW H} (hf : fs[j]? = some f) (hd : parts[j]? = some d) : WOK f.type d := by
  unfold WOK at h
  rw [DataW.weights, ht] at h
  exact fun n hn => h n (DataW.weights_mem_each (j := j) (by rw [List.getElem?_map, Array.getElem?_toList, hf]; rfl) hd n hn)
theorem wok_of {ts : List TypeId} {ds : List (DataW H)} (h : (DataW.weightsEach Tryz.prog ts ds).all (· ≤ reachBytes) = true) {j : Nat} {t : TypeId} {d : DataW H} (ht : ts[j]? = some t) (hd : ds[j]? = some d) : WOK t d := fun n hn => by
  have := List.all_eq_true.1 h n (DataW.weights_mem_each ht hd n hn)
  simpa using this
theorem WOK.str {t : TypeId} {s : ByteArray} (h : WOK (H := H) t (.lit (.string s.data.toList))) : s.size ≤ 140737488351232 := by
  have := h s.data.toList.length (by rw [DataW.weights]; exact List.mem_singleton.2 rfl)
  rw [← Lib.size_eq] at this
  exact this
end
section
variable {H : Type} {enc : TypeId × Value → H} {w : World} {base : Nat}
theorem strR_of {fuel : Nat} {v : Value} {x : DataW H × List MemPlace} (hw : WOK 22 x.1) (h : DataW.trod enc Tryz.prog w base (fun _ => true) true fuel 22 [v] = some x) : ∃ l, StrR w v l := by
  rcases open_strs Tryz.underlying22 Tryz.underlying9 (by kernel_rfl) h with ⟨hc, _⟩ | ⟨a, len, cap, m, Sx, hc, _, hl, hm, hmm, rfl, hcell⟩
  · simp at hc; subst hc; exact ⟨[], .inl ⟨rfl, rfl⟩⟩
  · simp at hc; subst hc
    simp at hmm
    refine ⟨(List.range len).map Sx, .inr ⟨a, cap, by simp, by simp; omega, hm, fun j s hj => ?_⟩⟩
    rw [List.getElem?_map] at hj
    have hjl : j < len := by
      rcases Nat.lt_or_ge j len with h | h
      · exact h
      · rw [List.getElem?_eq_none (by simp; exact h)] at hj; cases hj
    rw [List.getElem?_range hjl] at hj
    cases hj
    exact ⟨(hcell j (by omega)).1, (hw.elem Tryz.underlying22 _ (List.mem_map.2 ⟨j, List.mem_range.2 hjl, rfl⟩)).str⟩
theorem open_slice_fields {P : Program} {spare : Nat → Bool} {held : Bool} {t e : TypeId} {fs : Array Field} {fuel : Nat} {cs : List Value} {x : DataW H × List MemPlace} (ht : P.underlying t = some (.slice e)) (he : P.underlying e = some (.struct fs))
    (hone : oneCellFields P fs = true) (hC : P.cellsOf e = fs.size) (h : DataW.trod enc P w base spare held fuel t cs = some x) :
    (cs = [.slice none 0 0] ∧ x = (.nil, [])) ∨
    ∃ (a : Addr) (len cap m : Nat) (D : Nat → DataW H) (Pl : Nat → List MemPlace), cs = [.slice (some a) len cap] ∧ base ≤ a.block ∧ len ≤ cap ∧ cap ≤ maxLen ∧ m = (if spare a.block then cap else len) ∧
      x = (.slice ((List.range len).map D) ((List.range (m - len)).map fun j => D (len + j)), MemPlace.row a (m * fs.size) ++ (List.range m).flatMap Pl) ∧
      ∀ i, i < m → ∃ (ys : List (DataW H × List MemPlace)) (n : Nat), D i = .agg (ys.map (·.1)) ∧ Pl i = ys.flatMap (·.2) ∧ ys.length = fs.size ∧
        ∀ (j : Nat) (f : Field), fs[j]? = some f → ∃ (v : Value) (y : DataW H × List MemPlace), w.cell? (a.add (i * fs.size + j)) = some v ∧ ys[j]? = some y ∧ DataW.trod enc P w base spare held n f.type [v] = some y := by
  rcases open_slice ht h with h0 | ⟨a, len, cap, m, n, D, Pl, hcs, hb, hl, hm, hmm, hx, hi⟩
  · exact .inl h0
  · refine .inr ⟨a, len, cap, m, D, Pl, hcs, hb, hl, hm, hmm, by rw [hC] at hx; exact hx, fun i him => ?_⟩
    obtain ⟨cs', hc, ht'⟩ := hi i him
    rw [hC] at hc
    obtain ⟨ys, n', hn', hy, hlen, hyl, hf⟩ := DataW.trod_struct he ht'
    obtain ⟨_, hcl, hat⟩ := World.cells?_some hc
    simp only [Prod.mk.injEq] at hy
    refine ⟨ys, n', hy.1, hy.2, hyl, fun j f hj => ?_⟩
    obtain ⟨ho, hk⟩ := hone_of hone j f hj
    have hjl : j < fs.size := (Array.getElem?_eq_some_iff.1 hj).1
    have hcell := hat j hjl
    have hv : cs'[j]? = some (cs'[j]'(by omega)) := List.getElem?_eq_getElem (by omega)
    have h1 := hf j f hj
    rw [ho, hk] at h1
    have hone' : (cs'.drop j).take 1 = [cs'[j]'(by omega)] := by
      rw [List.drop_eq_getElem_cons (by omega)]
      rfl
    rw [hone'] at h1
    have hys : ys[j]? = some (ys[j]'(by omega)) := List.getElem?_eq_getElem (by omega)
    refine ⟨_, _, ?_, hys, h1.trans hys⟩
    rw [← Go.Deep.add_add, hcell, hv]
theorem lr_of : ∀ (k : Nat) {fuel : Nat} {v : Value} {x : DataW H × List MemPlace}, SizeOf.sizeOf x.1 ≤ k → WOK 23 x.1 → DataW.trod enc Tryz.prog w base (fun _ => true) true fuel 23 [v] = some x → ∃ l, LR w v l := by
  intro k
  induction k with
  | zero => intro fuel v x hs _ _; exfalso; obtain ⟨d, p⟩ := x; cases d <;> simp at hs
  | succ k ih =>
    intro fuel v x hs hw h
    rcases open_slice_fields Tryz.underlying23 Tryz.underlying25 (by kernel_rfl) (by kernel_rfl) h with ⟨hc, _⟩ | ⟨a, len, cap, m, D, Pl, hc, _, hl, hm, hmm, rfl, hf⟩
    · simp at hc; subst hc; exact ⟨[], .none⟩
    · simp at hc; subst hc
      simp at hmm
      have hel : ∀ i, i < len → ∃ (s0 s1 : ByteArray) (kv lv : Value) (ks : List ByteArray) (l : List VT), w.cell? (a.add (i * 4)) = some (.string s0) ∧ w.cell? (a.add (i * 4 + 1)) = some (.string s1) ∧ w.cell? (a.add (i * 4 + 2)) = some kv ∧ w.cell? (a.add (i * 4 + 3)) = some lv ∧ s0.size ≤ 140737488351232 ∧ s1.size ≤ 140737488351232 ∧ StrR w kv ks ∧ LR w lv l := by
        intro i hi
        obtain ⟨ys, n, hD, _, hyl, hj⟩ := hf i (by omega)
        have hwi := hw.elem Tryz.underlying23 _ (List.mem_map.2 ⟨i, List.mem_range.2 hi, rfl⟩)
        rw [hD] at hwi
        obtain ⟨v0, y0, c0, e0, t0⟩ := hj 0 _ rfl
        obtain ⟨v1, y1, c1, e1, t1⟩ := hj 1 _ rfl
        obtain ⟨v2, y2, c2, e2, t2⟩ := hj 2 _ rfl
        obtain ⟨v3, y3, c3, e3, t3⟩ := hj 3 _ rfl
        have m0 := hwi.part Tryz.underlying25 (j := 0) rfl (by rw [List.getElem?_map, e0]; rfl)
        have m1 := hwi.part Tryz.underlying25 (j := 1) rfl (by rw [List.getElem?_map, e1]; rfl)
        have m2 := hwi.part Tryz.underlying25 (j := 2) rfl (by rw [List.getElem?_map, e2]; rfl)
        have m3 := hwi.part Tryz.underlying25 (j := 3) rfl (by rw [List.getElem?_map, e3]; rfl)
        obtain ⟨s0, q0, d0, _⟩ := DataW.trod_string Tryz.underlying9 t0
        obtain ⟨s1, q1, d1, _⟩ := DataW.trod_string Tryz.underlying9 t1
        rw [d0] at m0
        rw [d1] at m1
        have z0 := m0.str
        have z1 := m1.str
        simp at q0 q1
        subst q0 q1
        obtain ⟨ks, hks⟩ := strR_of m2 t2
        have hsz : SizeOf.sizeOf y3.1 ≤ k := by
          have h1 : D i ∈ (List.range len).map D := List.mem_map.2 ⟨i, List.mem_range.2 hi, rfl⟩
          have h2 := List.sizeOf_lt_of_mem h1
          have h3 : y3.1 ∈ ys.map (·.1) := List.mem_map.2 ⟨y3, List.mem_of_getElem? e3, rfl⟩
          have h4 := List.sizeOf_lt_of_mem h3
          rw [hD] at h2
          simp at hs h2
          omega
        obtain ⟨l, hl⟩ := ih hsz m3 t3
        exact ⟨s0, s1, v2, v3, ks, l, by simpa using c0, by simpa using c1, by simpa using c2, by simpa using c3, z0, z1, hks, hl⟩
      have hall : ∃ (T : Nat → VT) (kv lv : Nat → Value), ∀ i, i < len → w.cell? (a.add (i * 4)) = some (.string (T i).kind) ∧ w.cell? (a.add (i * 4 + 1)) = some (.string (T i).text) ∧ w.cell? (a.add (i * 4 + 2)) = some (kv i) ∧ w.cell? (a.add (i * 4 + 3)) = some (lv i) ∧ (T i).kind.size ≤ 140737488351232 ∧ (T i).text.size ≤ 140737488351232 ∧ StrR w (kv i) (T i).keys ∧ LR w (lv i) (T i).list := by
        have this : ∀ i, ∃ p : VT × Value × Value, i < len → w.cell? (a.add (i * 4)) = some (.string p.1.kind) ∧ w.cell? (a.add (i * 4 + 1)) = some (.string p.1.text) ∧ w.cell? (a.add (i * 4 + 2)) = some p.2.1 ∧ w.cell? (a.add (i * 4 + 3)) = some p.2.2 ∧ p.1.kind.size ≤ 140737488351232 ∧ p.1.text.size ≤ 140737488351232 ∧ StrR w p.2.1 p.1.keys ∧ LR w p.2.2 p.1.list := by
          intro i
          by_cases hi : i < len
          · obtain ⟨s0, s1, kv, lv, ks, l, h⟩ := hel i hi
            exact ⟨(.mk s0 s1 ks l, kv, lv), fun _ => h⟩
          · exact ⟨(.mk ⟨#[]⟩ ⟨#[]⟩ [] [], .nilIface, .nilIface), fun h => absurd h hi⟩
        obtain ⟨F, hF⟩ := Classical.axiomOfChoice this
        exact ⟨fun i => (F i).1, fun i => (F i).2.1, fun i => (F i).2.2, hF⟩
      obtain ⟨T, kv, lv, hT⟩ := hall
      have e : len = ((List.range len).map T).length := by simp
      have hget : ∀ (j : Nat) (t : VT), ((List.range len).map T)[j]? = some t → j < len ∧ t = T j := by
        intro j t hj
        rw [List.getElem?_map] at hj
        rcases Nat.lt_or_ge j len with h | h
        · rw [List.getElem?_range h] at hj; cases hj; exact ⟨h, rfl⟩
        · rw [List.getElem?_eq_none (by simp; exact h)] at hj; cases hj
      refine ⟨(List.range len).map T, ?_⟩
      rw [show (Value.slice (some a) len cap) = .slice (some a) ((List.range len).map T).length cap by rw [← e]]
      refine .some a cap _ kv lv (by rw [← e]; omega) hm (fun j t hj => ?_) (fun j t hj => ?_)
      · obtain ⟨h1, rfl⟩ := hget j t hj
        obtain ⟨q0, q1, q2, q3, q4, q5, q6, _⟩ := hT j h1
        exact ⟨q0, q1, q2, q3, q4, q5, q6⟩
      · obtain ⟨h1, rfl⟩ := hget j t hj
        exact (hT j h1).2.2.2.2.2.2.2
set_option maxRecDepth 100000 in
theorem vr_of {v : Value} {d : DataW H} {p : List MemPlace} (hw : WOK 25 d) (hval : Value.okWide Tryz.prog w .any base 25 v) (h : DataW.Trod enc Tryz.prog w 0 (fun _ => true) true 25 v d p) : ∃ t, VR w v t := by
  obtain ⟨v0, v1, v2, v3, y0, y1, y2, y3, n, rfl, rfl, _, t0, t1, t2, t3⟩ := open_agg4 Tryz.underlying25 (by kernel_rfl) (by kernel_rfl) hval h
  have m0 := hw.part Tryz.underlying25 (j := 0) rfl rfl
  have m1 := hw.part Tryz.underlying25 (j := 1) rfl rfl
  have m2 := hw.part Tryz.underlying25 (j := 2) rfl rfl
  have m3 := hw.part Tryz.underlying25 (j := 3) rfl rfl
  obtain ⟨s0, q0, e0, _⟩ := DataW.trod_string Tryz.underlying9 t0
  obtain ⟨s1, q1, e1, _⟩ := DataW.trod_string Tryz.underlying9 t1
  rw [e0] at m0
  rw [e1] at m1
  have z0 := m0.str
  have z1 := m1.str
  simp at q0 q1
  subst q0 q1
  obtain ⟨ks, hks⟩ := strR_of m2 t2
  obtain ⟨l, hl⟩ := lr_of _ (Nat.le_refl _) m3 t3
  exact ⟨.mk s0 s1 ks l, ⟨v2, v3, rfl, z0, z1, hks, hl⟩⟩
end
end Go.Proofs.YtjganhmbjffjfaaGreatDoor
