/- (*ways).turned at every tree that is well: it leaves a turned tree. -/
import Derived.Test.YtjganhmbjffjfaaGreatDoorZE
import Derived.Test.YtjganhmbjffjfaaGreatDoorZ7
import Derived.Test.YtjganhmbjffjfaaGreatDoorY8
import Derived.Deep.RegionHeld3
import Derived.Deep.RegionLaw
import Derived.Deep.AppendLies
import Derived.Laws.MakeOwn
open Go Go.RowKit
namespace Go.Proofs.YtjganhmbjffjfaaGreatDoor
/-- What turned leaves. -/
def TnP (t : VT) (q b : Nat) (lv : Value) (k : Nat) (w : World) (e : Ending) (w' : World) : Prop :=
  ∃ (t' : VT) (k1 l1 : Option Addr) (k2 k3 l2 l3 k' : Nat), e = .returned (.agg #[.string t'.kind, .string t'.text, .slice k1 k2 k3, .slice l1 l2 l3]) ∧ TurnT t t' ∧ VRi w.heap.size w'.heap.size w' (.agg #[.string t'.kind, .string t'.text, .slice k1 k2 k3, .slice l1 l2 l3]) t' ∧
    w'.heap[b]? = some (.cells #[lv, .int .i64 (k' : Int)] 36 (0, 0)) ∧ k' ≤ k + 200 * q ∧ Fr b w w'
/-- The frame: the box of the parameter, the result's cell, the choices. -/
structure TnW (b H : Nat) (lv : Value) (kw : Nat) (bx : Obj) (w W : World) : Prop where
  fr : Fr b w W
  box : W.heap[H]? = some bx
  res : W.heap[H + 1]? = some (.cells #[.string ⟨#[]⟩, .string ⟨#[]⟩, .slice none 0 0, .slice none 0 0] 25 (0, 0))
  way : W.heap[b]? = some (.cells #[lv, .int .i64 (kw : Int)] 36 (0, 0))
  size : H + 4 ≤ W.heap.size
theorem TnW.keep {b H kw : Nat} {lv : Value} {bx : Obj} {w W W' : World} (h : TnW b H lv kw bx w W) (hbH : b < H) (hwH : w.heap.size = H) {j : Nat} (hj : H + 2 ≤ j) (hf : Fr j W W') : TnW b H lv kw bx w W' := by
  have hs := h.size
  refine ⟨?_, ?_, ?_, ?_, Nat.le_trans hs hf.size⟩
  · exact ⟨hf.os.trans h.fr.os, hf.tape.trans h.fr.tape, hf.output.trans h.fr.output, Nat.le_trans h.fr.size hf.size, fun i hi hb => (hf.block i (by have := h.fr.size; omega) (by omega)).trans (h.fr.block i hi hb)⟩
  · rw [hf.block H (by omega) (by omega)]; exact h.box
  · rw [hf.block (H + 1) (by omega) (by omega)]; exact h.res
  · rw [hf.block b (by omega) (by omega)]; exact h.way
theorem TnW.next {b H kw kw' : Nat} {lv : Value} {bx : Obj} {w W W' : World} (h : TnW b H lv kw bx w W) (hbH : b < H) (hf : Fr b W W') (hw : W'.heap[b]? = some (.cells #[lv, .int .i64 (kw' : Int)] 36 (0, 0))) : TnW b H lv kw' bx w W' := by
  have hs := h.size
  refine ⟨h.fr.trans hf, ?_, ?_, hw, Nat.le_trans hs hf.size⟩
  · rw [hf.block H (by omega) (by omega)]; exact h.box
  · rw [hf.block (H + 1) (by omega) (by omega)]; exact h.res
theorem own_sl {w : World} {R k n : Nat} {T : TypeId} {v : Value} {xs : List Value} (h : w.ownsRow R T k v n xs) : ∃ (a : Option Addr) (m c : Nat), v = .slice a m c := by
  rcases h.2 with ⟨e, _⟩ | ⟨g, cap, cur, e, _⟩
  · exact ⟨_, _, _, e⟩
  · exact ⟨_, _, _, e⟩
/-- The head of turned's loop. -/
def TnL (t : VT) (ns : List Nat) (ob : Bool) (b H : Nat) (lv : Value) (k0 n : Nat) (bx : Obj) (w : World) (g : Nat) (W : World) (σ ρ : List Nat) (es : List (VT × Value × Value)) (LV KV : Value) (kw : Nat) : Prop :=
  ρ.length = g ∧ (σ ++ ρ).Perm (List.range n) ∧ (ob = false → σ ++ ρ = List.range n) ∧ TnW b H lv kw bx w W ∧ LeftI (H + 3) n ρ W ∧ RowI t ob H σ σ es LV KV W ∧ kw ≤ k0 + σ.length + 200 * (pickS ns σ).sum
theorem set_at {w : World} {g o : Nat} {v : Value} {cur : Array Value} {T : TypeId} (h : w.heap[g]? = some (.cells cur T (0, 0))) : (w.setCell ⟨g, o, none⟩ v).heap[g]? = some (.cells (cur.setIfInBounds o v) T (0, 0)) := by simp [World.setCell, Array.getElem?_modify, h]
theorem fr1 (g o : Nat) (w : World) (v : Value) : Fr g w (w.setCell ⟨g, o, none⟩ v) := (Fr.refl g w).setCell (p := ⟨g, o, none⟩) (.inl rfl) v
theorem fr4 (w : World) (g : Nat) (v0 v1 v2 v3 : Value) : Fr g w ((((w.setCell ⟨g, 0, none⟩ v0).setCell ⟨g, 1, none⟩ v1).setCell ⟨g, 2, none⟩ v2).setCell ⟨g, 3, none⟩ v3) :=
  (((fr1 g 0 w v0).trans (fr1 g 1 _ v1)).trans (fr1 g 2 _ v2)).trans (fr1 g 3 _ v3)
theorem set4c {w : World} {g : Nat} {a0 a1 a2 a3 v0 v1 v2 v3 : Value} {T : TypeId} (h : w.heap[g]? = some (.cells #[a0, a1, a2, a3] T (0, 0))) : ((((w.setCell ⟨g, 0, none⟩ v0).setCell ⟨g, 1, none⟩ v1).setCell ⟨g, 2, none⟩ v2).setCell ⟨g, 3, none⟩ v3).heap[g]? = some (.cells #[v0, v1, v2, v3] T (0, 0)) := by
  rw [set_at (set_at (set_at (set_at h)))]
  rfl
theorem tn_end {t : VT} {ns : List Nat} {ob : Bool} {b H k0 n kw : Nat} {lv : Value} {bx : Obj} {w w0 wq W9 : World} {v : Value} {σ ρ : List Nat} {es : List (VT × Value × Value)} {k1 l1 : Option Addr} {k2 k3 l2 l3 : Nat} (hI : TnL t ns ob b H lv k0 n bx w 0 wq σ ρ es (.slice l1 l2 l3) (.slice k1 k2 k3) kw) (hF : Fr (H + 1) wq W9)
    (hob : (t.kind.toList == [111, 98, 106, 101, 99, 116]) = ob) (hn : n = t.list.length) (hns : ns.length = n) (h80 : n ≤ 80) (hwh : w.heap.size = H) (hbH : b < H) (hv : VR w0 v t) :
    TnP t (1 + ns.sum) b lv k0 w (.returned (.agg #[.string t.kind, .string t.text, .slice k1 k2 k3, .slice l1 l2 l3])) W9 := by
  obtain ⟨h1, h2, h3, h4, h5, h6, h7⟩ := hI
  have hρ : ρ = [] := List.eq_nil_of_length_eq_zero h1
  subst hρ
  rw [List.append_nil] at h2 h3
  have hσ : σ.length = n := by rw [h2.length_eq, List.length_range]
  have hkind : t.kind = ⟨#[111, 98, 106, 101, 99, 116]⟩ ↔ ob = true := by
    rw [← hob]
    constructor
    · intro e; rw [e, ByteArray.toList_eq]; rfl
    · intro e; exact ba_of (by simpa using e)
  have hsz := h6.size
  obtain ⟨kv, lv', _, hks, hts, hkeys, _⟩ := hv.ex
  have hkey : ∀ s ∈ t.keys, s.size ≤ 140737488351232 := by
    intro s hs
    obtain ⟨j, hj⟩ := List.mem_iff_getElem?.1 hs
    rcases hkeys with ⟨_, e⟩ | ⟨a, cap, _, _, _, hc⟩
    · rw [e] at hs; cases hs
    · exact (hc j s hj).2
  refine ⟨.mk t.kind t.text (if ob then pickS t.keys σ else []) (es.map (·.1)), k1, l1, k2, k3, l2, l3, kw, rfl, ?_, ⟨Nat.le_refl _, fun w'' hw => ?_⟩, ?_, ?_, ?_⟩
  · refine .node t _ σ rfl rfl (by rw [← hn]; exact h2) (by show (es.map (·.1)).length = _; rw [List.length_map, h6.len, hσ, hn]) (fun hne => ?_) (fun he => ?_) (fun j i x y hj hx hy => ?_)
    · rw [← hn]
      refine h3 ?_
      cases hh : ob with
      | false => rfl
      | true => exact absurd (hkind.2 hh) hne
    · show (if ob then pickS t.keys σ else []) = _
      rw [if_pos (hkind.1 he)]
    · have hy' : (es.map (·.1))[j]? = some y := hy
      rw [List.getElem?_map] at hy'
      obtain ⟨e, he, rfl⟩ := Option.map_eq_some_iff.1 hy'
      exact h6.turn j i e x hj he hx
  · have hag : ∀ i, H + 2 ≤ i → i < wq.heap.size → w''.heap[i]? = wq.heap[i]? := fun i h1 h2 => (hw i (by rw [hwh]; omega) (Nat.lt_of_lt_of_le h2 hF.size)).trans (hF.block i h2 (by omega))
    refine ⟨.slice k1 k2 k3, .slice l1 l2 l3, rfl, hks, hts, ?_, ?_⟩
    · refine strR_row (own_at h6.krow fun g hg => ?_) rfl (fun s hs => ?_)
      · have := World.ownsRow.lt h6.krow g hg
        exact hag g (by omega) this.2
      · cases hh : ob with
        | false => rw [hh] at hs; cases hs
        | true =>
          rw [hh, if_pos rfl] at hs
          obtain ⟨i, _, hi⟩ := List.mem_filterMap.1 hs
          exact hkey s (List.mem_of_getElem? hi)
    · refine lr_row (own_at h6.row fun g hg => ?_) h6.len (fun e he => ?_)
      · have := World.ownsRow.lt h6.row g hg
        exact hag g (by omega) this.2
      · obtain ⟨lo, hi, q1, q2, _⟩ := h6.read e he
        exact q2.2 w'' fun i a c => hag i (by omega) (Nat.lt_of_lt_of_le c q2.1)
  · rw [hF.block b (by have := h4.size; omega) (by omega)]; exact h4.way
  · have h8 : (pickS ns σ).sum = ns.sum := sum_perm (pick_perm (by rw [hns]; exact h2))
    rw [h8, hσ] at h7
    omega
  · exact ⟨hF.os.trans h4.fr.os, hF.tape.trans h4.fr.tape, hF.output.trans h4.fr.output, Nat.le_trans h4.fr.size hF.size, fun i hi hb => (hF.block i (by have := h4.fr.size; omega) (by omega)).trans (h4.fr.block i hi hb)⟩
theorem List.le_sum_of_mem' : ∀ {l : List Nat} {a : Nat}, a ∈ l → a ≤ l.sum
  | x :: l, a, h => by
    rw [List.sum_cons]
    rcases List.mem_cons.1 h with rfl | h
    · omega
    · have := List.le_sum_of_mem' h; omega
theorem gr_fr {w w' : World} {o : Option Nat} {j : Nat} (h : w.grownBy w' o) (hj : ∀ g, o = some g → g = j) : Fr j w w' :=
  ⟨h.os, h.tape, h.output, h.size, fun k hk hkj => h.block k hk fun e => hkj (hj k e.symm)⟩
theorem cells_new (w : World) (l : List Value) (T : TypeId) : ∀ (j : Nat) (u : Value), l[j]? = some u → (w.alloc (.cells l.toArray T)).cell? ((⟨w.heap.size, 0, none⟩ : Addr).add j) = some u := by
  intro j u hu
  have h0 := alloc_at w (.cells l.toArray T)
  have e : (⟨w.heap.size, 0, none⟩ : Addr).add j = ⟨w.heap.size, j, none⟩ := by
    unfold Addr.add
    by_cases h : j = 0
    · subst h; simp
    · simp [h]
  rw [e]
  obtain ⟨W, hW⟩ : ∃ W, W = w.alloc (.cells l.toArray T) := ⟨_, rfl⟩
  rw [← hW] at h0 ⊢
  simp [World.cell?, h0, hu]
theorem ce4_one (t : VT) (k1 l1 : Option Addr) (k2 k3 l2 l3 : Nat) : ∀ u ∈ ce4 (t, .slice k1 k2 k3, .slice l1 l2 l3), u.oneCell' = true := by
  intro u hu
  unfold ce4 at hu
  simp only [List.mem_cons, List.not_mem_nil, or_false] at hu
  rcases hu with rfl | rfl | rfl | rfl <;> rfl
theorem tn_push {t : VT} {ob : Bool} {b H i lo n kw : Nat} {lv : Value} {bx : Obj} {w w3 W w5 : World} {σ σk ρ : List Nat} {es : List (VT × Value × Value)} {LV KV LV' : Value} {e : VT × Value × Value} {x : VT} {o : Obj}
    (hT : TnW b H lv kw bx w w3) (hL : LeftI (H + 3) n ρ w3) (hR : RowI t ob H σ σk es LV KV w3) (hbH : b < H) (hwh : w.heap.size = H) (hx : t.list[i]? = some x) (ht : TurnT x e.1) (hlo : H + 4 ≤ lo) (hr : VRi lo w3.heap.size w3 (el4 e) e.1) (hb : ∀ g, LV.ownBlock = some g ∨ KV.ownBlock = some g → g < lo)
    (hW : W = w3.alloc o) (hown : w5.ownsRow (H + 4) 25 4 LV' (σ.length + 1) (cells4 es ++ ce4 e)) (hgr : W.grownBy w5 LV.ownBlock) (hat : LV'.ownBlock = LV.ownBlock ∨ LV'.ownBlock = some W.heap.size) :
    TnW b H lv kw bx w (w5.setCell ⟨H + 2, 3, none⟩ LV') ∧ LeftI (H + 3) n ρ (w5.setCell ⟨H + 2, 3, none⟩ LV') ∧ RowI t ob H (σ ++ [i]) σk (es ++ [e]) LV' KV (w5.setCell ⟨H + 2, 3, none⟩ LV') ∧ w5.cell? ⟨H + 2, 3, none⟩ = some LV ∧ w5.frozen? ⟨H + 2, 3, none⟩ = false := by
  have hs := hT.size
  have hWs : W.heap.size = w3.heap.size + 1 := by rw [hW, World.size_alloc]
  have hk1 : ∀ i, i < w3.heap.size → W.heap[i]? = w3.heap[i]? := fun i hi => by rw [hW]; exact Below.heap_alloc _ _ _ hi
  have hLg : ∀ g, LV.ownBlock = some g → H + 4 ≤ g ∧ g < w3.heap.size := fun g hg => World.ownsRow.lt hR.row g hg
  have hk : ∀ i, i < w3.heap.size → LV.ownBlock ≠ some i → w5.heap[i]? = w3.heap[i]? := fun i hi hne => (hgr.block i (by omega) (fun e => hne e.symm)).trans (hk1 i hi)
  have h5 : w3.heap.size < w5.heap.size := by have := hgr.size; omega
  have hlow : ∀ i, i < H + 4 → w5.heap[i]? = w3.heap[i]? := fun i hi => hk i (by omega) fun hg => by have := (hLg i hg).1; omega
  have hne : ∀ j, j ≠ H + 2 → (w5.setCell ⟨H + 2, 3, none⟩ LV').heap[j]? = w5.heap[j]? := fun j hj => Below.heap_setCell w5 _ _ j hj
  have hs2 : (w5.setCell ⟨H + 2, 3, none⟩ LV').heap.size = w5.heap.size := World.size_setCell' _ _ _
  have h0 : w5.heap[H + 2]? = some (.cells #[.string t.kind, .string t.text, KV, LV] 25 (0, 0)) := by rw [hlow _ (by omega)]; exact hR.out
  have hfr : Fr b w w5 := by
    have h1 : Fr b w W := by rw [hW]; exact hT.fr.alloc o
    refine ⟨hgr.os.trans h1.os, hgr.tape.trans h1.tape, hgr.output.trans h1.output, by have := h1.size; omega, fun i hi hb => ?_⟩
    rw [hlow i (by omega), ← hk1 i (by omega)]
    exact h1.block i hi hb
  refine ⟨⟨hfr.setCell (.inr (by show w.heap.size ≤ H + 2; omega)) _, ?_, ?_, ?_, by omega⟩, ?_, hR.push h5 hk hown (by rw [← hWs]; exact hat) hx ht hlo hr hb, ?_, ?_⟩
  · rw [hne H (by omega), hlow H (by omega)]; exact hT.box
  · rw [hne (H + 1) (by omega), hlow (H + 1) (by omega)]; exact hT.res
  · rw [hne b (by omega), hlow b (by omega)]; exact hT.way
  · exact hL.keep (by rw [hne (H + 3) (by omega), hlow (H + 3) (by omega)])
  · simp [World.cell?, h0]
  · simp [World.frozen?, h0]
theorem tn_pushK {t : VT} {b H i n kw : Nat} {lv : Value} {bx : Obj} {w w3 W w5 : World} {σ σk ρ : List Nat} {es : List (VT × Value × Value)} {LV KV KV' : Value} {s : ByteArray} {o : Obj}
    (hT : TnW b H lv kw bx w w3) (hL : LeftI (H + 3) n ρ w3) (hR : RowI t true H σ σk es LV KV w3) (hbH : b < H) (hwh : w.heap.size = H) (hx : t.keys[i]? = some s)
    (hW : W = w3.alloc o) (hown : w5.ownsRow (H + 4) 9 1 KV' ((pickS t.keys σk).length + 1) ((pickS t.keys σk).map Value.string ++ [.string s])) (hgr : W.grownBy w5 KV.ownBlock) (hat : KV'.ownBlock = KV.ownBlock ∨ KV'.ownBlock = some W.heap.size) :
    TnW b H lv kw bx w (w5.setCell ⟨H + 2, 2, none⟩ KV') ∧ LeftI (H + 3) n ρ (w5.setCell ⟨H + 2, 2, none⟩ KV') ∧ RowI t true H σ (σk ++ [i]) es LV KV' (w5.setCell ⟨H + 2, 2, none⟩ KV') ∧ w5.cell? ⟨H + 2, 2, none⟩ = some KV ∧ w5.frozen? ⟨H + 2, 2, none⟩ = false := by
  have hs := hT.size
  have hWs : W.heap.size = w3.heap.size + 1 := by rw [hW, World.size_alloc]
  have hk1 : ∀ i, i < w3.heap.size → W.heap[i]? = w3.heap[i]? := fun i hi => by rw [hW]; exact Below.heap_alloc _ _ _ hi
  have hLg : ∀ g, KV.ownBlock = some g → H + 4 ≤ g ∧ g < w3.heap.size := fun g hg => World.ownsRow.lt hR.krow g hg
  have hk : ∀ i, i < w3.heap.size → KV.ownBlock ≠ some i → w5.heap[i]? = w3.heap[i]? := fun i hi hne => (hgr.block i (by omega) (fun e => hne e.symm)).trans (hk1 i hi)
  have h5 : w3.heap.size < w5.heap.size := by have := hgr.size; omega
  have hlow : ∀ i, i < H + 4 → w5.heap[i]? = w3.heap[i]? := fun i hi => hk i (by omega) fun hg => by have := (hLg i hg).1; omega
  have hne : ∀ j, j ≠ H + 2 → (w5.setCell ⟨H + 2, 2, none⟩ KV').heap[j]? = w5.heap[j]? := fun j hj => Below.heap_setCell w5 _ _ j hj
  have hs2 : (w5.setCell ⟨H + 2, 2, none⟩ KV').heap.size = w5.heap.size := World.size_setCell' _ _ _
  have h0 : w5.heap[H + 2]? = some (.cells #[.string t.kind, .string t.text, KV, LV] 25 (0, 0)) := by rw [hlow _ (by omega)]; exact hR.out
  have hfr : Fr b w w5 := by
    have h1 : Fr b w W := by rw [hW]; exact hT.fr.alloc o
    refine ⟨hgr.os.trans h1.os, hgr.tape.trans h1.tape, hgr.output.trans h1.output, by have := h1.size; omega, fun i hi hb => ?_⟩
    rw [hlow i (by omega), ← hk1 i (by omega)]
    exact h1.block i hi hb
  refine ⟨⟨hfr.setCell (.inr (by show w.heap.size ≤ H + 2; omega)) _, ?_, ?_, ?_, by omega⟩, ?_, hR.pushK h5 hk hown (by rw [← hWs]; exact hat) hx, ?_, ?_⟩
  · rw [hne H (by omega), hlow H (by omega)]; exact hT.box
  · rw [hne (H + 1) (by omega), hlow (H + 1) (by omega)]; exact hT.res
  · rw [hne b (by omega), hlow b (by omega)]; exact hT.way
  · exact hL.keep (by rw [hne (H + 3) (by omega), hlow (H + 3) (by omega)])
  · simp [World.cell?, h0]
  · simp [World.frozen?, h0]
theorem info_iv : (Tryz.prog.info? 25).map (fun i => (i.zero, i.size, i.bytes)) = some (some (.agg #[.string ⟨#[]⟩, .string ⟨#[]⟩, .slice none 0 0, .slice none 0 0]), 4, 80) := by kernel_rfl
theorem addr_add2' (a : Addr) (i j : Nat) : (a.add i).add j = a.add (i + j) := by
  unfold Addr.add
  by_cases hi : i = 0 <;> by_cases hj : j = 0 <;> simp [hi, hj, Nat.add_assoc]
theorem addG (G i : Nat) : (⟨G, 0, none⟩ : Addr).add i = ⟨G, i, none⟩ := by
  unfold Addr.add
  by_cases h : i = 0
  · subst h; simp
  · simp [h]
theorem left_made (w : World) (n : Nat) (z : Value) (T : TypeId) : LeftI w.heap.size n (List.range 0) (w.alloc (.cells (madeCells z.cells (n * 1)) T)) := by
  refine ⟨fun i x h => by simp at h, fun i hi => ?_⟩
  have hs : i < (madeCells z.cells (n * 1)).size := by rw [size_madeCells]; omega
  obtain ⟨C, hC⟩ : ∃ C, C = madeCells z.cells (n * 1) := ⟨_, rfl⟩
  rw [← hC] at hs ⊢
  have h0 := alloc_at w (.cells C T)
  obtain ⟨W, hW⟩ : ∃ W, W = w.alloc (.cells C T) := ⟨_, rfl⟩
  rw [← hW] at h0 ⊢
  constructor
  · simp [World.cell?, h0, hs]
  · simp [World.frozen?, h0]
theorem left_fill {G n i : Nat} {w : World} (h : LeftI G n (List.range i) w) (hi : i < n) : LeftI G n (List.range (i + 1)) (w.setCell ⟨G, i, none⟩ (.int .i64 (i : Int))) := by
  refine ⟨fun j x hj => ?_, fun j hj => ?_⟩
  · rw [List.range_succ] at hj
    by_cases hji : j = i
    · subst hji
      rw [List.getElem?_append_right (by simp)] at hj
      simp at hj
      subst hj
      obtain ⟨u, hu⟩ := Option.isSome_iff_exists.1 (h.2 j hi).1
      exact World.cell?_setCell_same w _ _ hu
    · rw [World.cell?_setCell_other w _ _ _ (by intro e; injection e with _ e _; exact hji e.symm)]
      refine h.1 j x ?_
      rcases Nat.lt_or_ge j i with h1 | h1
      · rw [List.getElem?_append_left (by simpa using h1)] at hj; exact hj
      · rw [List.getElem?_append_right (by simpa using h1)] at hj
        have := (List.getElem?_eq_some_iff.1 hj).1
        simp at this
        omega
  · refine ⟨?_, ?_⟩
    · obtain ⟨u, hu⟩ := Option.isSome_iff_exists.1 (h.2 j hj).1
      obtain ⟨v', hv'⟩ := cell?_setCell_some (p := ⟨G, i, none⟩) (x := .int .i64 (i : Int)) hu
      rw [hv']; rfl
    · rw [World.frozen?_setCell]; exact (h.2 j hj).2
theorem info_int' : (Tryz.prog.info? 3).map (fun i => (i.zero, i.size, i.bytes)) = some (some (.int .i64 0), 1, 8) := by kernel_rfl
set_option maxRecDepth 100000 in
set_option maxHeartbeats 16000000 in
theorem turned_any {t : VT} {q : Nat} (h : PT t q) : ∀ (w0 w : World) (v : Value) (b k0 : Nat) (lv : Value) (cs : List UInt8), VR w0 v t → Below w0.heap.size w0 w → w0.heap.size ≤ b → b < w.heap.size → w.heap[b]? = some (.cells #[lv, .int .i64 (k0 : Int)] 36 (0, 0)) → BSrc w lv cs → (∀ ad n c, lv = .slice (some ad) n c → cs ≠ [] → ad.block ≠ b) → k0 + 200 * q ≤ 1099511627776 →
    Calls Tryz.prog 15 #[.pointer (some ⟨b, 0, none⟩), v] w (TnP t q b lv k0 w) := by
  induction h with
  | node t ns hx hn hm hd hl hc ih =>
    intro w0 w v b k0 lv cs hv hb0 hwb hbl hway hbs hsep hk
    obtain ⟨i0, ii, iz0, iz1, iz2⟩ := info_parts info_iv
    obtain ⟨kv, lv2, rfl, hks, hts, h3, h4⟩ := hv.ex
    obtain ⟨ko, kp, hk0, hkl⟩ := strR_slice h3
    obtain ⟨lo, lp, hl0, hll⟩ := lr_slice h4
    subst hk0 hl0
    obtain ⟨kk, hkk⟩ : ∃ kk, kk = t.kind := ⟨_, rfl⟩
    obtain ⟨x, hxx⟩ : ∃ x, x = t.text := ⟨_, rfl⟩
    obtain ⟨n, hnn⟩ : ∃ n, n = t.list.length := ⟨_, rfl⟩
    obtain ⟨m, hmm⟩ : ∃ m, m = t.keys.length := ⟨_, rfl⟩
    rw [← hkk, ← hxx, ← hnn, ← hmm] at hv ⊢
    rw [← hnn] at h4 hn hll
    rw [← hmm] at h3 hkl
    have HPT := Lib.hid (And.intro hd (And.intro hl hc))
    have HIH := Lib.hid ih
    have HL4 := Lib.hid h4
    have HVR := Lib.hid hv
    have HL3 : Hid (∀ W, Below w0.heap.size w0 W → ∀ (j : Nat) (s : ByteArray), t.keys[j]? = some s → ∃ ad, ko = some ad ∧ W.cell? (ad.add j) = some (.string s)) := by
      obtain ⟨ao, cp, e, hc⟩ := strR_cells h3
      injection e with e1 _ _
      rw [e1]
      exact Lib.hid hc
    have HKX := Lib.hid (And.intro hkk (And.intro hxx (And.intro hnn hmm)))
    have HWAY := Lib.hid (And.intro hway (And.intro hbs (And.intro hsep hk)))
    have HB0 := Lib.hid (And.intro hb0 (And.intro hwb hbl))
    obtain ⟨H, hH⟩ : ∃ H, H = w.heap.size := ⟨_, rfl⟩
    have HH := Lib.hid hH
    clear ih hc hl hd hway hbs hsep hk hb0 hwb hbl hv h3 h4 hkk hxx hnn hmm hks hts hx hm
    obtain ⟨j0, ji, jz0, jz1, jz2⟩ := info_parts info_int'
    obtain ⟨ob, hob⟩ : ∃ ob, (kk.toList == [111, 98, 106, 101, 99, 116]) = ob := ⟨_, rfl⟩
    obtain ⟨H1, hH1⟩ : ∃ H1, H1 = H + 1 := ⟨_, rfl⟩
    obtain ⟨H2, hH2⟩ : ∃ H2, H2 = H1 + 1 := ⟨_, rfl⟩
    obtain ⟨H3, hH3⟩ : ∃ H3, H3 = H2 + 1 := ⟨_, rfl⟩
    obtain ⟨bx, hbx⟩ : ∃ bx : Obj, bx = .cells #[.string kk, .string x, .slice ko m kp, .slice lo n lp] 25 := ⟨_, rfl⟩
    obtain ⟨W3, hW3⟩ : ∃ W3, W3 = (((w.alloc (.cells #[.string kk, .string x, .slice ko m kp, .slice lo n lp] 25)).alloc (.cells #[.string ⟨#[]⟩, .string ⟨#[]⟩, .slice none 0 0, .slice none 0 0] 25)).alloc (.cells #[.string kk, .string x, .slice none 0 0, .slice none 0 0] 25)) := ⟨_, rfl⟩
    have hs3 : W3.heap.size = H3 := by rw [hW3, World.size_alloc, World.size_alloc, World.size_alloc, ← hH]; omega
    have hmk := run_make (P := Tryz.prog) W3 28 3 j0 (.int .i64 0) Tryz.underlying28 ji jz0 .i64 .i64 (n : Int) (n : Int) (by omega) (Int.le_refl _) (by rw [jz2]; omega) (by omega)
    rw [jz1, Int.toNat_natCast] at hmk
    obtain ⟨W4, hW4⟩ : ∃ W4, W4 = W3.alloc (.cells (madeCells (Value.int .i64 0).cells (n * 1)) 3) := ⟨_, rfl⟩
    rw [← hW4, hs3] at hmk
    have HL0 : Hid (LeftI H3 n (List.range 0) W4) := by rw [hW4, ← hs3]; exact Lib.hid (left_made _ _ _ _)
    have hh0 : W3.heap[H]? = some (.cells #[.string kk, .string x, .slice ko m kp, .slice lo n lp] 25 (0, 0)) := by
      rw [hW3, Below.heap_alloc _ _ _ (by rw [World.size_alloc, World.size_alloc, ← hH]; omega), Below.heap_alloc _ _ _ (by rw [World.size_alloc, ← hH]; omega), hH]
      exact alloc_at w _
    have hh1 : W3.heap[H + 1]? = some (.cells #[.string ⟨#[]⟩, .string ⟨#[]⟩, .slice none 0 0, .slice none 0 0] 25 (0, 0)) := by
      rw [hW3, Below.heap_alloc _ _ _ (by rw [World.size_alloc, World.size_alloc, ← hH]; omega)]
      have := alloc_at (w.alloc (.cells #[.string kk, .string x, .slice ko m kp, .slice lo n lp] 25)) (.cells #[.string ⟨#[]⟩, .string ⟨#[]⟩, .slice none 0 0, .slice none 0 0] 25)
      rw [World.size_alloc, ← hH] at this
      exact this
    have hh2 : W3.heap[H + 2]? = some (.cells #[.string kk, .string x, .slice none 0 0, .slice none 0 0] 25 (0, 0)) := by
      rw [hW3]
      have := alloc_at ((w.alloc (.cells #[.string kk, .string x, .slice ko m kp, .slice lo n lp] 25)).alloc (.cells #[.string ⟨#[]⟩, .string ⟨#[]⟩, .slice none 0 0, .slice none 0 0] 25)) (.cells #[.string kk, .string x, .slice none 0 0, .slice none 0 0] 25)
      rw [World.size_alloc, World.size_alloc, ← hH] at this
      exact this
    have hb3 : Below w.heap.size w W3 := by rw [hW3]; exact (((Below.refl _ _).alloc (Nat.le_refl _) _).alloc (by rw [World.size_alloc]; omega) _).alloc (by rw [World.size_alloc, World.size_alloc]; omega) _
    have hb4 : Below W3.heap.size W3 W4 := by rw [hW4]; exact (Below.refl _ _).alloc (Nat.le_refl _) _
    have HWS : Hid (H3 = H + 3 ∧ W3.heap.size = H3 ∧ W4.heap.size = H3 + 1) := Lib.hid ⟨by omega, hs3, by rw [hW4, World.size_alloc, hs3]⟩
    have HTW : Hid (TnW b H lv k0 (.cells #[.string kk, .string x, .slice ko m kp, .slice lo n lp] 25 (0, 0)) w W4) := by
      refine Lib.hid ⟨(Fr.of_below hb3).below hb4, ?_, ?_, ?_, ?_⟩
      · rw [hb4.block H (by omega)]; exact hh0
      · rw [hb4.block (H + 1) (by omega)]; exact hh1
      · rw [hb4.block b (by have := HB0.out.2.2; omega), hb3.block b HB0.out.2.2]; exact HWAY.out.1
      · have := HWS.out; omega
    have HO2 : Hid (W4.heap[H + 2]? = some (.cells #[.string kk, .string x, .slice none 0 0, .slice none 0 0] 25 (0, 0))) := by
      rw [hb4.block (H + 2) (by omega)]; exact Lib.hid hh2
    have HC0 : Hid (∀ W : World, W.heap[H]? = some (.cells #[.string kk, .string x, .slice ko m kp, .slice lo n lp] 25 (0, 0)) → VB H kk x (.slice ko m kp) (.slice lo n lp) W) := by
      intro W hc
      refine ⟨?_, ?_, ?_, ?_⟩ <;> simp [World.cell?, hc]
    obtain ⟨c0, c1, c2, c3⟩ := HC0.out W3 hh0
    have HW3 := Lib.hid hW3
    have HHs := Lib.hid (And.intro hH1 (And.intro hH2 hH3))
    clear hW3 hs3 hh0 hh1 hh2 hb3 hb4 hW4 hH
    go_enter Tryz.func15, Tryz.ntmps15
    go_upto_region 2 with (fail)
    rw [← HW3.out, ← HH.out, ← HHs.out.1, ← HHs.out.2.1]
    clear hH1 hH2 hH3
    obtain ⟨al, hal⟩ : ∃ al : Addr, al = ⟨H3, 0, none⟩ := ⟨_, rfl⟩
    rw [← hal] at hmk
    have HAL := Lib.hid hal
    clear hal
    go_wp2_with (fail)
    clear c0 c1 c2 c3 hmk
    go_loopg [22] n (fun gk i wr => ∃ j : Nat, j + gk = n ∧ i = .int .i64 j ∧ Hid (LeftI H3 n (List.range j) wr) ∧ Hid (Fr H3 W4 wr))
    case atStart => exact ⟨0, by omega, rfl, HL0, Lib.hid (Fr.refl _ _)⟩
    case round =>
      obtain ⟨j, hj, rfl, HLI, HFR⟩ := hrel
      cases gk with
      | zero =>
        obtain ⟨wq, rfl⟩ : ∃ wq, wq = wr := ⟨_, rfl⟩
        have hjn : j = n := by omega
        clear hj
        subst hjn
        have hki : ¬ (j : Int) < (j : Int) := by omega
        have hwh : w.heap.size = H := HH.out.symm
        have hbH : b < H := by have := HB0.out.2.2; omega
        have HT2 : Hid (TnL t ns ob b H lv k0 j (.cells #[.string kk, .string x, .slice ko m kp, .slice lo j lp] 25 (0, 0)) w j wq [] (List.range j) [] (.slice none 0 0) (.slice none 0 0) k0) := by
          have h3 := HWS.out
          have hle : ∀ i, i < H3 → wq.heap[i]? = W4.heap[i]? := fun i hi => HFR.out.block i (by omega) (by omega)
          refine Lib.hid ⟨List.length_range, List.Perm.refl _, fun _ => rfl, HTW.out.keep hbH hwh (by omega) HFR.out, by rw [← h3.1]; exact HLI.out, ?_, by simp [pickS]⟩
          refine ⟨?_, ⟨rfl, .inl ⟨rfl, rfl⟩⟩, rfl, ?_, (fun g h => by cases h), (fun j' i e x h => by simp at h), (fun e he => by cases he)⟩
          · rw [hle (H + 2) (by omega), ← HKX.out.1, ← HKX.out.2.1]; exact HO2.out
          · cases ob <;> exact ⟨rfl, .inl ⟨rfl, rfl⟩⟩
        rw [HAL.out]
        clear HAL HWS HTW HO2 HLI HFR HL0
        go_wp2_with (fail)
        go_loopg [6, 8] j (fun gk2 lf nn wr => ∃ (p : Nat) (σ ρ : List Nat) (es : List (VT × Value × Value)) (LV KV : Value) (kw : Nat), p = gk2 ∧ nn = .int .i64 p ∧ lf = .slice (some ⟨H3, 0, none⟩) p j ∧ Hid (TnL t ns ob b H lv k0 j (.cells #[.string kk, .string x, .slice ko m kp, .slice lo j lp] 25 (0, 0)) w p wr σ ρ es LV KV kw))
        case atStart => exact ⟨j, [], List.range j, [], _, _, k0, rfl, rfl, rfl, HT2⟩
        case round =>
          obtain ⟨p, σ, ρ, es, LV, KV, kw, hpg, rfl, rfl, HTL⟩ := hrel
          have HPG := Lib.hid hpg
          obtain ⟨wq, rfl⟩ : ∃ wq, wq = wr := ⟨_, rfl⟩
          obtain ⟨c0, c1, c2, c3⟩ := HC0.out wq HTL.out.2.2.2.1.box
          cases gk with
          | zero =>
            have z0 : decide ((0 : Int) < (p : Int)) = false := decide_eq_false (by omega)
            have hp0 : ¬ 0 < p := by omega
            clear hpg
            obtain ⟨l1, l2, l3, rfl⟩ := own_sl HTL.out.2.2.2.2.2.1.row
            obtain ⟨k1, k2, k3, rfl⟩ := own_sl HTL.out.2.2.2.2.2.1.krow
            have h1 : wq.heap[H1]? = some (.cells #[.string ⟨#[]⟩, .string ⟨#[]⟩, .slice none 0 0, .slice none 0 0] 25 (0, 0)) := by rw [HHs.out.1]; exact HTL.out.2.2.2.1.res
            have h2 : wq.heap[H2]? = some (.cells #[.string kk, .string x, .slice k1 k2 k3, .slice l1 l2 l3] 25 (0, 0)) := by rw [HHs.out.2.1, HHs.out.1, HKX.out.1, HKX.out.2.1]; exact HTL.out.2.2.2.2.2.1.out
            have d0 : wq.cell? ⟨H2, 0, none⟩ = some (.string kk) := by simp [World.cell?, h2]
            have d1 : wq.cell? ⟨H2, 1, none⟩ = some (.string x) := by simp [World.cell?, h2]
            have d2 : wq.cell? ⟨H2, 2, none⟩ = some (.slice k1 k2 k3) := by simp [World.cell?, h2]
            have d3 : wq.cell? ⟨H2, 3, none⟩ = some (.slice l1 l2 l3) := by simp [World.cell?, h2]
            have f0 : wq.cell? ⟨H1, 0, none⟩ = some (.string ⟨#[]⟩) := by simp [World.cell?, h1]
            have f1 : wq.cell? ⟨H1, 1, none⟩ = some (.string ⟨#[]⟩) := by simp [World.cell?, h1]
            have f2 : wq.cell? ⟨H1, 2, none⟩ = some (.slice none 0 0) := by simp [World.cell?, h1]
            have f3 : wq.cell? ⟨H1, 3, none⟩ = some (.slice none 0 0) := by simp [World.cell?, h1]
            have g0 : wq.frozen? ⟨H1, 0, none⟩ = false := by simp [World.frozen?, h1]
            have g1 : wq.frozen? ⟨H1, 1, none⟩ = false := by simp [World.frozen?, h1]
            have g2 : wq.frozen? ⟨H1, 2, none⟩ = false := by simp [World.frozen?, h1]
            have g3 : wq.frozen? ⟨H1, 3, none⟩ = false := by simp [World.frozen?, h1]
            have H1H := Lib.hid h1
            clear h1 h2
            go_wp2_with (fail)
            have h1 := H1H.out
            obtain ⟨W9, hW9⟩ : ∃ W9, W9 = ((((wq.setCell ⟨H1, 0, none⟩ (.string kk)).setCell ⟨H1, 1, none⟩ (.string x)).setCell ⟨H1, 2, none⟩ (.slice k1 k2 k3)).setCell ⟨H1, 3, none⟩ (.slice l1 l2 l3)) := ⟨_, rfl⟩
            have h9 : W9.heap[H1]? = some (.cells #[.string kk, .string x, .slice k1 k2 k3, .slice l1 l2 l3] 25 (0, 0)) := by
              rw [hW9]; exact set4c h1
            have hf9 : Fr (H + 1) wq W9 := by
              rw [hW9, ← HHs.out.1]
              exact fr4 wq H1 _ _ _ _
            have e0 : W9.cell? ⟨H1, 0, none⟩ = some (.string kk) := by simp [World.cell?, h9]
            have e1 : W9.cell? ⟨H1, 1, none⟩ = some (.string x) := by simp [World.cell?, h9]
            have e2 : W9.cell? ⟨H1, 2, none⟩ = some (.slice k1 k2 k3) := by simp [World.cell?, h9]
            have e3 : W9.cell? ⟨H1, 3, none⟩ = some (.slice l1 l2 l3) := by simp [World.cell?, h9]
            have HEN : Hid (TnP t (1 + ns.sum) b lv k0 w (.returned (.agg #[.string kk, .string x, .slice k1 k2 k3, .slice l1 l2 l3])) W9) := by
              obtain ⟨q1, q2, q3, _⟩ := HKX.out
              have hp : p = 0 := HPG.out
              subst hp
              have := tn_end HTL.out hf9 (by rw [← q1]; exact hob) q3 (by rw [HPT.out.2.1]; exact q3.symm) hn HH.out.symm (by have := HB0.out.2.2; have := HH.out; omega) HVR.out
              rw [← q1, ← q2] at this
              exact Lib.hid this
            rw [← hW9]
            refine bodyPost_ret (v := .agg #[.string kk, .string x, .slice k1 k2 k3, .slice l1 l2 l3]) (by simp [results, Tryz.results15, go_sem, e0, e1, e2, e3]) rfl HEN.out
          | succ g2 =>
            have z0 : decide ((0 : Int) < (p : Int)) = true := decide_eq_true (by omega)
            have hp0 : 0 < p := by omega
            clear hpg
            obtain ⟨hρl, hperm, hflat, htw, hleft, hrow, hkw⟩ := HTL.out
            have hpj : p ≤ j := by
              have := hperm.length_eq
              rw [List.length_append, List.length_range] at this
              omega
            have hσj : σ.length + p = j := by
              have := hperm.length_eq
              rw [List.length_append, List.length_range] at this
              omega
            have hs4 : H + 4 ≤ wq.heap.size := htw.size
            have hbH : b < H := by have := HB0.out.2.2; have := HH.out; omega
            have hns : ns.length = j := by rw [HPT.out.2.1]; exact HKX.out.2.2.1.symm
            have hsum : (pickS ns σ).sum + (pickS ns ρ).sum = ns.sum := by
              have h1 := sum_perm (pick_perm (K := ns) (σ := σ ++ ρ) (by rw [hns]; exact hperm))
              rw [pick_app, List.sum_append] at h1
              exact h1
            have HSUM := Lib.hid (And.intro hsum hns)
            have HSZ := Lib.hid (And.intro hs4 (And.intro hbH (And.intro hpj hσj)))
            have HPM := Lib.hid (And.intro hρl (And.intro hperm hflat))
            have HTWq := Lib.hid htw
            have HLQ := Lib.hid hleft
            have HRQ := Lib.hid hrow
            have HKWq := Lib.hid hkw
            clear hρl hperm hflat htw hleft hrow hkw hσj hs4 hbH hns hsum HTL
            go_upto_if 38 with (fail)
            go_cut [9] (fun kv wy => ∃ (pp kw1 : Nat), kv = .int .i64 pp ∧ pp < p ∧ Hid (ob = false → pp = 0) ∧ Hid (TnW b H lv kw1 (.cells #[.string kk, .string x, .slice ko m kp, .slice lo j lp] 25 (0, 0)) w wy) ∧ Hid (kw1 ≤ kw + 1) ∧ Hid (Fr b wq wy))
            case first =>
              as_aux_lemma =>
                cases ob with
                | false =>
                  go_wp2_with (fail)
                  go_meet
                  case rel => exact ⟨0, kw, rfl, hp0, Lib.hid fun _ => rfl, HTWq, Lib.hid (by omega), Lib.hid (Fr.refl _ _)⟩
                | true =>
                  have hfb : BSrc wq lv cs := HWAY.out.2.1.fr HTWq.out.fr HWAY.out.2.2.1
                  have hk1 : kw ≤ 1099511627776 := by
                    have h1 := HKWq.out
                    have h2 := HWAY.out.2.2.2
                    have h3 := HSUM.out.1
                    have h4 := HSZ.out.2.2.2
                    omega
                  have HNX := Lib.hid (next_lv p (by omega) (by omega) HTWq.out.way hfb hk1)
                  clear hfb hk1
                  obtain ⟨r, hr⟩ : ∃ r, r = nx cs kw p := ⟨_, rfl⟩
                  have hrp : r < p := by rw [hr]; exact Nat.mod_lt _ hp0
                  rw [← hr] at HNX
                  clear hr
                  go_wp2_with (fail)
                  (with_reducible refine HNX.out.mono ?_)
                  rintro e wy ⟨rfl, hw, hf⟩
                  have HTY := Lib.hid (HTWq.out.next HSZ.out.2.1 hf hw)
                  have HFY := Lib.hid hf
                  clear hw hf
                  go_wp2_with (fail)
                  go_meet
                  case rel => exact ⟨r, kw + 1, rfl, hrp, Lib.hid fun h => by simp at h, HTY, Lib.hid (Nat.le_refl _), HFY⟩
            case rest =>
            obtain ⟨wy, rfl⟩ : ∃ wy, wy = wc := ⟨_, rfl⟩
            obtain ⟨pp, kw1, rfl, hpp, HP0, HTY, HKW, HFY⟩ := hcut
            clear c0 c1 c2 c3
            obtain ⟨x0, hx0⟩ : ∃ x0, ρ[pp]? = some x0 := ⟨_, List.getElem?_eq_getElem (by rw [HPM.out.1]; exact hpp)⟩
            have hx0j : x0 < j := by
              have h1 : x0 ∈ σ ++ ρ := List.mem_append_right _ (List.mem_of_getElem? hx0)
              exact List.mem_range.1 (HPM.out.2.1.mem_iff.1 h1)
            have HLY : Hid (LeftI (H + 3) j ρ wy) := Lib.hid (HLQ.out.keep (HFY.out.block (H + 3) (by have := HSZ.out; omega) (by have := HSZ.out; omega)))
            have hH3 : H3 = H + 3 := by have := HHs.out; omega
            have HH3 := Lib.hid hH3
            obtain ⟨al, hal⟩ : ∃ al : Addr, al = ⟨H3, 0, none⟩ := ⟨_, rfl⟩
            have HAD : Hid (∀ i, al.add i = ⟨H + 3, i, none⟩) := by rw [hal, hH3]; exact Lib.hid fun i => addG _ i
            have co : wy.cell? (al.add pp) = some (.int .i64 (x0 : Int)) := by rw [HAD.out]; exact HLY.out.1 pp x0 hx0
            rw [← hal]
            have HAL := Lib.hid hal
            have HX0 := Lib.hid hx0
            have hpi : (pp : Int) < (p : Int) := by omega
            have hppj : pp ≤ j := by omega
            have hw1 : IntKind.i64.wrap ((pp : Int) + 1) = (pp : Int) + 1 := by rw [IntKind.wrap_i64]; omega
            have hq0 : (0 : Int) ≤ (pp : Int) + 1 := by omega
            have hq1 : (pp : Int) + 1 ≤ (p : Int) := by omega
            have hq2 : ((pp : Int) + 1).toNat = pp + 1 := by omega
            obtain ⟨AA, hAA, HNEW⟩ : ∃ AA : Addr, (if j = pp + 1 then some al else some (al.add (pp + 1))) = some AA ∧ Hid (∀ (i : Nat) (u : Value), (intsOf (ρ.drop (pp + 1)))[i]? = some u → wy.drew.cell? (AA.add i) = some u) := by
              by_cases h : j = pp + 1
              · refine ⟨al, by simp [h], Lib.hid fun i u hu => ?_⟩
                have hl : (intsOf (ρ.drop (pp + 1))).length = 0 := by unfold intsOf; rw [List.length_map, List.length_drop, HPM.out.1]; omega
                have := (List.getElem?_eq_some_iff.1 hu).1
                omega
              · refine ⟨al.add (pp + 1), by simp [h], Lib.hid fun i u hu => ?_⟩
                unfold intsOf at hu
                rw [List.getElem?_map, List.getElem?_drop] at hu
                obtain ⟨y, hy, rfl⟩ := Option.map_eq_some_iff.1 hu
                rw [addr_add2', HAD.out]
                exact HLY.out.1 (pp + 1 + i) y hy
            have hAB : (if j = pp + 1 then some al else some { block := al.block, off := al.off + (pp + 1) }) = some AA := by rw [← hAA]; simp [Addr.add]
            clear hAA
            have HL1 : Hid ((intsOf (ρ.drop (pp + 1))).length = (p - (pp + 1)) * 1) := by unfold intsOf; rw [List.length_map, List.length_drop, HPM.out.1, Nat.mul_one]; exact Lib.hid rfl
            have HSP : Hid (∀ i, i < (intsOf (ρ.drop (pp + 1))).length → (wy.drew.cell? ⟨H3, 0 + pp * 1 + i, none⟩).isSome = true ∧ wy.drew.frozen? ⟨H3, 0 + pp * 1 + i, none⟩ = false) := by
              refine Lib.hid fun i hi => ?_
              rw [HL1.out] at hi
              rw [hH3]
              exact HLY.out.2 (0 + pp * 1 + i) (by omega)
            clear hal hx0 hH3
            go_upto_region 15 with (fail)
            go_cut [6] (fun lf wz => lf = .slice (some ⟨H3, 0, none⟩) g2 j ∧ Hid (LeftI (H + 3) j (ρ.eraseIdx pp) wz) ∧ Hid (Fr (H + 3) wy wz))
            case first =>
              have HEE : Hid (LeftI (H + 3) j (ρ.eraseIdx pp) (wy.drew.setCells H3 (0 + pp * 1) (intsOf (ρ.drop (pp + 1)))) ∧ Fr (H + 3) wy (wy.drew.setCells H3 (0 + pp * 1) (intsOf (ρ.drop (pp + 1))))) := by
                rw [HH3.out]
                exact Lib.hid ⟨LeftI.erase (HLY.out.keep rfl) (by rw [HPM.out.1]; exact hpp) (by rw [HPM.out.1]; exact hpj), (Fr.refl _ _).drew.trans (fr_setCells _ _ _ _)⟩
              have HEE := HEE.out
              rw [Nat.zero_add, Nat.mul_one] at HEE
              have HEE := Lib.hid HEE
              have hg2 : pp + (p - (pp + 1)) = g2 := by have := HPG.out; omega
              have HG2 := Lib.hid hg2
              clear hg2
              go_region_law (refine step_append_room rfl (.tmp 48) (.tmp 52) 28 rfl 3 j0 1 Tryz.underlying28 ji jz1 H3 0 pp j (by simp [Act.eval, Act.put, HAL.out]) AA (p - (pp + 1)) (j - (pp + 1)) (intsOf (ρ.drop (pp + 1))) (by simp [Act.eval, Act.put]) HL1.out HNEW.out (intsOf_one _) (by omega) HSP.out ?_)
              go_wp2_with (fail)
              go_meet
              case rel => exact ⟨by rw [HG2.out], Lib.hid HEE.out.1, Lib.hid HEE.out.2⟩
            case rest =>
            obtain ⟨wz, rfl⟩ : ∃ wz, wz = wc := ⟨_, rfl⟩
            obtain ⟨rfl, HLZ, HFZ⟩ := hcut
            rw [HAL.out]
            have HTZ : Hid (TnW b H lv kw1 (.cells #[.string kk, .string x, .slice ko m kp, .slice lo j lp] 25 (0, 0)) w wz) := Lib.hid (HTY.out.keep HSZ.out.2.1 HH.out.symm (by omega) HFZ.out)
            have HRZ : Hid (RowI t ob H σ σ es LV KV wz) := by
              refine Lib.hid (HRQ.out.keep (Nat.le_trans HFY.out.size HFZ.out.size) fun i h1 h2 h3 => ?_)
              rw [HFZ.out.block i (Nat.lt_of_lt_of_le h3 HFY.out.size) h2]
              exact HFY.out.block i h3 (by have := HSZ.out.2.1; omega)
            obtain ⟨T, hT⟩ : ∃ T, t.list[x0]? = some T := ⟨_, List.getElem?_eq_getElem (by rw [← HKX.out.2.2.1]; exact hx0j)⟩
            obtain ⟨nt, hnt⟩ : ∃ nt, ns[x0]? = some nt := ⟨_, List.getElem?_eq_getElem (by rw [HSUM.out.2]; exact hx0j)⟩
            have hb0z : Below w0.heap.size w0 wz := HB0.out.1.trans (HTZ.out.fr.toBelow HB0.out.2.1 HB0.out.1.size)
            obtain ⟨la, T', q1, r1, q2, r2, q3, r3, hlo, f0, f1, f2, f3, hvr, hT'⟩ := lr_elem HL4.out (Below.refl _ _) x0 (by rw [← HKX.out.2.2.1]; exact hx0j)
            obtain rfl : T' = T := by rw [hT] at hT'; injection hT' with hT'; exact hT'.symm
            subst hlo
            have f0' := (hb0z.cell (cell_lt f0)).trans f0
            have f1' := (hb0z.cell (cell_lt f1)).trans f1
            have f2' := (hb0z.cell (cell_lt f2)).trans f2
            have f3' := (hb0z.cell (cell_lt f3)).trans f3
            have hbsz : BSrc wz lv cs := HWAY.out.2.1.fr HTZ.out.fr HWAY.out.2.2.1
            have hknt : kw1 + 200 * nt ≤ 1099511627776 := by
              have h1 := HKW.out
              have h2 := HKWq.out
              have h3 := HWAY.out.2.2.2
              have h4 := HSZ.out.2.2.2
              have h5 := HSUM.out.1
              have h6 : nt ≤ (pickS ns ρ).sum := List.le_sum_of_mem' (by unfold pickS; exact List.mem_filterMap.2 ⟨x0, List.mem_of_getElem? HX0.out, hnt⟩)
              omega
            have HCH := Lib.hid (HIH.out x0 T' nt hT hnt w0 wz.drew _ b kw1 lv cs hvr hb0z.drew HB0.out.2.1 (by have := HTZ.out.size; have := HSZ.out; show b < wz.heap.size; omega) HTZ.out.way (hbsz.stay (Below.refl wz.heap.size wz).drew) HWAY.out.2.2.1 hknt)
            unfold TnP at HCH
            have HT := Lib.hid (And.intro hT hnt)
            obtain ⟨tk, htk⟩ : ∃ tk, tk = T'.kind := ⟨_, rfl⟩
            obtain ⟨tx, htx⟩ : ∃ tx, tx = T'.text := ⟨_, rfl⟩
            rw [← htk] at f0' HCH
            rw [← htx] at f1' HCH
            obtain ⟨l1, l2, l3, hLV⟩ := own_sl HRZ.out.row
            obtain ⟨k1, k2, k3, hKV⟩ := own_sl HRZ.out.krow
            subst hLV hKV
            have h2 : wz.heap[H2]? = some (.cells #[.string kk, .string x, .slice k1 k2 k3, .slice l1 l2 l3] 25 (0, 0)) := by rw [HHs.out.2.1, HHs.out.1, HKX.out.1, HKX.out.2.1]; exact HRZ.out.out
            have d3 : wz.cell? ⟨H2, 3, none⟩ = some (.slice l1 l2 l3) := by simp [World.cell?, h2]
            obtain ⟨c0, c1, c2, c3⟩ := HC0.out wz HTZ.out.box
            clear hT hnt hb0z f0 f1 f2 f3 hvr hT' hbsz hknt htk htx h2 hAB co
            go_upto_region 16 with (fail)
            go_cut [] (fun wv => ∃ (es' : List (VT × Value × Value)) (LV' : Value) (kw2 : Nat), Hid (TnW b H lv kw2 (.cells #[.string kk, .string x, .slice ko m kp, .slice (some la) j lp] 25 (0, 0)) w wv) ∧ Hid (LeftI (H + 3) j (ρ.eraseIdx pp) wv) ∧ Hid (RowI t ob H (σ ++ [x0]) σ es' LV' (.slice k1 k2 k3) wv) ∧ Hid (kw2 ≤ kw1 + 200 * nt))
            case first =>
              have HPU := Lib.hid (fun (w3 W w5 : World) (t' : VT) (kv' lv' LV' : Value) (kw2 : Nat) (o : Obj) (hf : Fr b wz w3) (hw : w3.heap[b]? = some (.cells #[lv, .int .i64 (kw2 : Int)] 36 (0, 0))) (ht : TurnT T' t') (hr : VRi wz.heap.size w3.heap.size w3 (el4 (t', kv', lv')) t') (hW : W = w3.alloc o) (hown : w5.ownsRow (H + 4) 25 4 LV' (σ.length + 1) (cells4 es ++ ce4 (t', kv', lv'))) (hgr : W.grownBy w5 (Value.slice l1 l2 l3).ownBlock) (hat : LV'.ownBlock = (Value.slice l1 l2 l3).ownBlock ∨ LV'.ownBlock = some W.heap.size) =>
                tn_push (w3 := w3) (e := (t', kv', lv')) (HTZ.out.next HSZ.out.2.1 hf hw) (HLZ.out.keep (hf.block (H + 3) (by have := HTZ.out.size; omega) (by have := HSZ.out.2.1; omega))) (HRZ.out.keep hf.size fun i h1 h2 h3 => hf.block i h3 (by have := HSZ.out.2.1; omega)) HSZ.out.2.1 HH.out.symm HT.out.1 ht HTZ.out.size hr (fun g hg => by rcases hg with hg | hg; exact (World.ownsRow.lt HRZ.out.row g hg).2; exact (World.ownsRow.lt HRZ.out.krow g hg).2) hW hown hgr hat)
              have hH2 : H + 2 = H2 := by have := HHs.out; omega
              have HH2 := Lib.hid hH2
              clear hH2
              have hs81 : σ.length + 1 ≤ 81 := by have := HSZ.out.2.2.2; omega
              have hi63 : σ.length + 1 ≤ maxLen := by unfold maxLen; omega
              have hx0i : (x0 : Int) < (j : Int) := by omega
              go_region_law (first
                | (refine step_append_at rfl (.tmp 55) (.tmp 63) 23 rfl (H + 4) 25 i0 (.agg #[.string ⟨#[]⟩, .string ⟨#[]⟩, .slice none 0 0, .slice none 0 0]) 4 80 Tryz.underlying23 ii iz0 iz1 iz2 rfl (by decide) (.slice l1 l2 l3) σ.length (cells4 es) (by simp [Act.eval]) (HOW.out _) ⟨w3.heap.size, 0, none⟩ 1 1 (ce4 (t', .slice m1 m2 m3, .slice p1 p2 p3)) (by simp [Act.eval]) rfl (cells_new w3 (ce4 (t', .slice m1 m2 m3, .slice p1 p2 p3)) 25) (ce4_one _ _ _ _ _ _ _) hi63 (by omega) (by rw [World.size_alloc]; have := HSZ3.out; omega) ?_
                   intro v5 w5 hown5 hgr5 _ hat5
                   obtain ⟨g5, cap5, rfl, _, _⟩ := hown5.form (Nat.succ_pos _)
                   have hp := HPU.out w3 _ w5 t' (.slice m1 m2 m3) (.slice p1 p2 p3) _ kw2 _ HC3.out.2.2.2.2 HC3.out.2.2.1 HC3.out.1 HC3.out.2.1 rfl hown5 hgr5 hat5
                   rw [HH2.out] at hp
                   obtain ⟨hp1, hp2, hp3, hp4, hp5⟩ := hp
                   have HPP := Lib.hid (And.intro hp1 (And.intro hp2 hp3))
                   clear hown5 hgr5 hat5 hp1 hp2 hp3)
                | (go_simp
                   go_at_call 15
                   (with_reducible refine HCH.out.mono ?_)
                   rintro e w3 ⟨t', m1, p1, m2, m3, p2, p3, kw2, rfl, ht, hr, hw, hkb, hf⟩
                   have hf' : Fr b wz w3 := (Fr.refl _ _).drew.trans hf
                   have d3' : w3.cell? ⟨H2, 3, none⟩ = some (.slice l1 l2 l3) := by
                     rw [hf'.cell (p := ⟨H2, 3, none⟩) (by show H2 < _; have := HTZ.out.size; have := HH2.out; omega) (by show H2 ≠ b; have := HSZ.out.2.1; have := HH2.out; omega)]
                     exact d3
                   have d3a : (w3.alloc (.cells #[.string t'.kind, .string t'.text, .slice m1 m2 m3, .slice p1 p2 p3] 25)).cell? ⟨H2, 3, none⟩ = some (.slice l1 l2 l3) := Lib.cell?_alloc_some _ d3'
                   have HOW : Hid (∀ o : Obj, (w3.alloc o).ownsRow (H + 4) 25 4 (.slice l1 l2 l3) σ.length (cells4 es)) := Lib.hid fun o => own_at HRZ.out.row fun g hg => by
                     have := World.ownsRow.lt HRZ.out.row g hg
                     rw [Below.heap_alloc _ _ _ (Nat.lt_of_lt_of_le this.2 hf'.size)]
                     exact hf'.block g this.2 (by have := HSZ.out.2.1; omega)
                   have HSZ3 : Hid (H + 4 ≤ w3.heap.size) := Lib.hid (Nat.le_trans HTZ.out.size hf'.size)
                   have HC3 := Lib.hid (And.intro ht (And.intro hr (And.intro hw (And.intro hkb hf'))))
                   clear ht hr hw hkb hf hf'))
              all_goals
                go_wp2_with (fail)
                go_meet
                case rel => exact ⟨_, _, kw2, Lib.hid HPP.out.1, Lib.hid HPP.out.2.1, Lib.hid HPP.out.2.2, Lib.hid HC3.out.2.2.2.1⟩
            case rest =>
            obtain ⟨wv, rfl⟩ : ∃ wv, wv = wc := ⟨_, rfl⟩
            obtain ⟨es', LV', kw2, HTV, HLV, HRV, HKV⟩ := hcut
            clear c0 c1 c2 c3 d3 f0' f1' f2' f3'
            obtain ⟨c0, c1, c2, c3⟩ := HC0.out wv HTV.out.box
            go_upto_if 68 with (fail)
            have hw2 : IntKind.i64.wrap ((p : Int) - 1) = (p : Int) - 1 := by rw [IntKind.wrap_i64]; omega
            have hpe : (p : Int) - 1 = (g2 : Int) := by have := HPG.out; omega
            have HNL : Hid (∀ (wu : World) (KV' : Value), TnW b H lv kw2 (.cells #[.string kk, .string x, .slice ko m kp, .slice (some la) j lp] 25 (0, 0)) w wu → LeftI (H + 3) j (ρ.eraseIdx pp) wu → RowI t ob H (σ ++ [x0]) (σ ++ [x0]) es' LV' KV' wu → TnL t ns ob b H lv k0 j (.cells #[.string kk, .string x, .slice ko m kp, .slice (some la) j lp] 25 (0, 0)) w g2 wu (σ ++ [x0]) (ρ.eraseIdx pp) es' LV' KV' kw2) := by
              refine Lib.hid fun wu KV' hTU hLU hRU => ?_
              have hpp' : pp < ρ.length := by rw [HPM.out.1]; exact hpp
              refine ⟨?_, perm_erase HPM.out.2.1 HX0.out, fun h => ?_, hTU, hLU, hRU, ?_⟩
              · rw [List.length_eraseIdx, if_pos hpp', HPM.out.1]; have := HPG.out; omega
              · have h0 := HP0.out h
                have h1 := HX0.out
                rw [h0] at h1 ⊢
                exact flat_erase (HPM.out.2.2 h) h1
              · rw [pick_app, List.sum_append, pick_cons HT.out.2, List.length_append]
                have h1 := HKV.out
                have h2 := HKW.out
                have h3 := HKWq.out
                have h4 : (pickS ns []).sum = 0 := rfl
                rw [List.sum_cons, h4]
                simp only [List.length_cons, List.length_nil]
                omega
            have HPE := Lib.hid hpe
            clear hpe
            cases ob with
            | false =>
              go_wp2_with (fail)
              go_roundg g2
              case measure => omega
              case rel => exact ⟨g2, σ ++ [x0], ρ.eraseIdx pp, es', LV', _, kw2, rfl, by first | rfl | rw [HPE.out], rfl, Lib.hid (HNL.out _ _ HTV.out HLV.out HRV.out.noK)⟩
            | true =>
              have hmj : m = j := by
                obtain ⟨q1, _, q3, q4⟩ := HKX.out
                have hk : t.kind.toList = [111, 98, 106, 101, 99, 116] := by rw [← q1]; simpa using hob
                rcases HPT.out.1 with h | ⟨h, _⟩ | ⟨h, _⟩ | h | h | ⟨_, h, _⟩
                · rw [hk] at h; cases h
                · rw [hk] at h; cases h
                · rw [hk] at h; cases h
                · rw [hk] at h; cases h
                · rw [hk] at h; cases h
                · omega
              have hxm : (x0 : Int) < (m : Int) := by omega
              obtain ⟨s0, hs0⟩ : ∃ s, t.keys[x0]? = some s := ⟨_, List.getElem?_eq_getElem (by rw [← HKX.out.2.2.2, hmj]; exact hx0j)⟩
              obtain ⟨ka, rfl, ck⟩ := HL3.out wv (HB0.out.1.trans (HTV.out.fr.toBelow HB0.out.2.1 HB0.out.1.size)) x0 s0 hs0
              have h2 : wv.heap[H2]? = some (.cells #[.string kk, .string x, .slice k1 k2 k3, LV'] 25 (0, 0)) := by rw [HHs.out.2.1, HHs.out.1, HKX.out.1, HKX.out.2.1]; exact HRV.out.out
              have d2 : wv.cell? ⟨H2, 2, none⟩ = some (.slice k1 k2 k3) := by simp [World.cell?, h2]
              have d2a : (wv.alloc (.cells #[.string s0] 9)).cell? ⟨H2, 2, none⟩ = some (.slice k1 k2 k3) := Lib.cell?_alloc_some _ d2
              have HOW : Hid (∀ o : Obj, (wv.alloc o).ownsRow (H + 4) 9 1 (.slice k1 k2 k3) (pickS t.keys σ).length ((pickS t.keys σ).map Value.string)) := Lib.hid fun o => by
                have h := HRV.out.krow
                simp only [if_true] at h
                refine own_at h fun g hg => ?_
                have := World.ownsRow.lt h g hg
                exact Below.heap_alloc _ _ _ this.2
              have hps : (pickS t.keys σ).length + 1 ≤ 81 := by
                have h1 : (pickS t.keys σ).length ≤ σ.length := List.length_filterMap_le _ _
                have := HSZ.out.2.2.2
                omega
              have hi63 : (pickS t.keys σ).length + 1 ≤ maxLen := by unfold maxLen; omega
              have HSZ3 : Hid (H + 4 ≤ wv.heap.size) := Lib.hid HTV.out.size
              have hH2 : H + 2 = H2 := by have := HHs.out; omega
              have HH2 := Lib.hid hH2
              have HPU := Lib.hid (fun (W w5 : World) (KV' : Value) (o : Obj) (hW : W = wv.alloc o) (hown : w5.ownsRow (H + 4) 9 1 KV' ((pickS t.keys σ).length + 1) ((pickS t.keys σ).map Value.string ++ [.string s0])) (hgr : W.grownBy w5 (Value.slice k1 k2 k3).ownBlock) (hat : KV'.ownBlock = (Value.slice k1 k2 k3).ownBlock ∨ KV'.ownBlock = some W.heap.size) =>
                tn_pushK (w3 := wv) HTV.out HLV.out HRV.out HSZ.out.2.1 HH.out.symm hs0 hW hown hgr hat)
              obtain ⟨z0', zi, zz0, zz1, zz2⟩ := info_parts info_strS
              clear h2 hs0 hmj hH2
              go_upto_region 18 with (fail)
              go_region_law (refine step_append_at rfl (.tmp 70) (.tmp 76) 22 rfl (H + 4) 9 z0' (.string ⟨#[]⟩) 1 16 Tryz.underlying22 zi zz0 zz1 zz2 rfl (by decide) (.slice k1 k2 k3) (pickS t.keys σ).length ((pickS t.keys σ).map Value.string) (by simp [Act.eval]) (HOW.out _) ⟨wv.heap.size, 0, none⟩ 1 1 [.string s0] (by simp [Act.eval]) rfl (cells_new wv [.string s0] 9) (fun u hu => by rw [List.mem_singleton] at hu; rw [hu]; rfl) hi63 (by omega) (by show H + 4 ≤ (wv.alloc _).heap.size; rw [World.size_alloc]; have := HSZ3.out; omega) ?_
                             intro v5 w5 hown5 hgr5 _ hat5
                             obtain ⟨g5, cap5, rfl, _, _⟩ := hown5.form (Nat.succ_pos _)
                             have hp := HPU.out _ w5 _ (.cells #[.string s0] 9) rfl hown5 ⟨hgr5.os, hgr5.tape, hgr5.output, hgr5.size, hgr5.block⟩ hat5
                             rw [HH2.out] at hp
                             obtain ⟨hp1, hp2, hp3, hp4, hp5⟩ := hp
                             have HPP := Lib.hid (And.intro hp1 (And.intro hp2 hp3))
                             clear hown5 hgr5 hat5 hp1 hp2 hp3)
              all_goals
                go_wp2_with (fail)
                go_roundg g2
                case measure => omega
                case rel => exact ⟨g2, σ ++ [x0], ρ.eraseIdx pp, es', LV', _, kw2, rfl, by first | rfl | rw [HPE.out], rfl, Lib.hid (HNL.out _ _ HPP.out.1 HPP.out.2.1 HPP.out.2.2)⟩
      | succ g2 =>
        have hlt : j < n := by omega
        have hki : (j : Int) < (n : Int) := by omega
        have hj1 : j + 1 + g2 = n := by omega
        clear hj
        obtain ⟨cv, hcv⟩ := Option.isSome_iff_exists.1 (HLI.out.2 j hlt).1
        have hfz := (HLI.out.2 j hlt).2
        have HAJ : Hid (al.add j = ⟨H3, j, none⟩) := by rw [HAL.out]; exact addG H3 j
        have HL1 : Hid (LeftI H3 n (List.range (j + 1)) (wr.setCell (al.add j) (.int .i64 (j : Int)))) := by rw [HAJ.out]; exact Lib.hid (left_fill HLI.out hlt)
        have HF1 : Hid (Fr H3 W4 (wr.setCell (al.add j) (.int .i64 (j : Int)))) := Lib.hid (HFR.out.trans ((Fr.refl _ _).setCell (.inl (by rw [HAJ.out])) _))
        rw [← HAJ.out] at hcv hfz
        go_wp2_with (fail)
        go_roundg g2
        case measure => omega
        case rel => exact ⟨j + 1, hj1, by first | rfl | go_num, HL1, HF1⟩
end Go.Proofs.YtjganhmbjffjfaaGreatDoor
