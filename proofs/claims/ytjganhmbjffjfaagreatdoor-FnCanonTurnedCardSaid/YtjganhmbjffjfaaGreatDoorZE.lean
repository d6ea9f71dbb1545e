/- (*ways).turned: what stands at its loop's head: plain. -/
import Derived.Test.YtjganhmbjffjfaaGreatDoorZ9
import Derived.Test.YtjganhmbjffjfaaGreatDoorZ7
import Derived.Test.YtjganhmbjffjfaaGreatDoorZD
import Derived.Test.YtjganhmbjffjfaaGreatDoorQ8
import Derived.Test.YtjganhmbjffjfaaGreatDoorFI
open Go Go.RowKit
namespace Go.Proofs.YtjganhmbjffjfaaGreatDoor
/-- A value that reads as a tree out of the blocks from lo to hi. -/
def VRi (lo hi : Nat) (w : World) (v : Value) (t : VT) : Prop := hi ≤ w.heap.size ∧ ∀ w' : World, (∀ i, lo ≤ i → i < hi → w'.heap[i]? = w.heap[i]?) → VR w' v t
theorem VRi.keep {lo hi : Nat} {w w' : World} {v : Value} {t : VT} (h : VRi lo hi w v t) (hs : hi ≤ w'.heap.size) (hk : ∀ i, lo ≤ i → i < hi → w'.heap[i]? = w.heap[i]?) : VRi lo hi w' v t :=
  ⟨hs, fun w'' h' => h.2 w'' fun i h1 h2 => (h' i h1 h2).trans (hk i h1 h2)⟩
/-- The value of an element. -/
def el4 (e : VT × Value × Value) : Value := .agg #[.string e.1.kind, .string e.1.text, e.2.1, e.2.2]
/-- The cells of an element. -/
def ce4 (e : VT × Value × Value) : List Value := [.string e.1.kind, .string e.1.text, e.2.1, e.2.2]
/-- The cells of a row of values. -/
def cells4 (es : List (VT × Value × Value)) : List Value := es.flatMap ce4
theorem cells4_len (es : List (VT × Value × Value)) : (cells4 es).length = es.length * 4 := by
  induction es with
  | nil => rfl
  | cons e es ih =>
    have : cells4 (e :: es) = ce4 e ++ cells4 es := List.flatMap_cons
    rw [this, List.length_append, ih, List.length_cons]
    show 4 + _ = _
    omega
theorem cells4_get : ∀ (es : List (VT × Value × Value)) (j : Nat) (e : VT × Value × Value), es[j]? = some e → (cells4 es)[j * 4]? = some (.string e.1.kind) ∧ (cells4 es)[j * 4 + 1]? = some (.string e.1.text) ∧ (cells4 es)[j * 4 + 2]? = some e.2.1 ∧ (cells4 es)[j * 4 + 3]? = some e.2.2
  | [], j, e, h => by simp at h
  | x :: es, 0, e, h => by
    obtain rfl : x = e := by simpa using h
    exact ⟨rfl, rfl, rfl, rfl⟩
  | x :: es, j + 1, e, h => by
    have h1 := cells4_get es j e (by simpa using h)
    have h2 : ∀ i, (cells4 (x :: es))[(j + 1) * 4 + i]? = (cells4 es)[j * 4 + i]? := fun i => by
      have : cells4 (x :: es) = ce4 x ++ cells4 es := List.flatMap_cons
      rw [this, List.getElem?_append_right (by show 4 ≤ _; omega)]
      congr 1
      show (j + 1) * 4 + i - 4 = _
      omega
    have h3 := h2 0
    rw [Nat.add_zero, Nat.add_zero] at h3
    rw [h3, h2 1, h2 2, h2 3]
    exact h1
theorem cells4_snoc (es : List (VT × Value × Value)) (e : VT × Value × Value) : cells4 (es ++ [e]) = cells4 es ++ ce4 e := by
  unfold cells4
  rw [List.flatMap_append, List.flatMap_cons, List.flatMap_nil, List.append_nil]
theorem lr_row {w : World} {B n : Nat} {v : Value} {es : List (VT × Value × Value)} (h : w.ownsRow B 25 4 v n (cells4 es)) (hl : es.length = n) (hs : ∀ e ∈ es, VR w (el4 e) e.1) : LR w v (es.map (·.1)) := by
  rcases h.2 with ⟨rfl, h0⟩ | ⟨g, cap, cur, rfl, hg, hget, hnc, hcm, hsz, htk⟩
  · have : es = [] := List.eq_nil_of_length_eq_zero (by omega)
    subst this
    exact .none
  · have hcell : ∀ (i : Nat) (u : Value), (cells4 es)[i]? = some u → w.cell? ((⟨g, 0, none⟩ : Addr).add i) = some u := fun i u hu => h.cells (g := g) rfl i u hu
    have hn : n = (es.map (·.1)).length := by rw [List.length_map, hl]
    have hex : ∀ (j : Nat) (e : VT × Value × Value), es[j]? = some e → e.1.kind.size ≤ 140737488351232 ∧ e.1.text.size ≤ 140737488351232 ∧ StrR w e.2.1 e.1.keys ∧ LR w e.2.2 e.1.list := fun j e he => by
      obtain ⟨kv, lv, h1, h2, h3, h4, h5⟩ := (hs e (List.mem_of_getElem? he)).ex
      unfold el4 at h1
      injection h1 with h1
      simp only [Array.mk.injEq, List.cons.injEq, true_and, and_true] at h1
      rw [h1.1, h1.2]
      exact ⟨h2, h3, h4, h5⟩
    rw [hn]
    refine .some ⟨g, 0, none⟩ cap (es.map (·.1)) (fun j => (es[j]?.map (·.2.1)).getD undef) (fun j => (es[j]?.map (·.2.2)).getD undef) (by omega) hcm (fun j t hj => ?_) (fun j t hj => ?_)
    · rw [List.getElem?_map] at hj
      obtain ⟨e, he, rfl⟩ := Option.map_eq_some_iff.1 hj
      obtain ⟨q0, q1, q2, q3⟩ := cells4_get es j e he
      obtain ⟨r1, r2, r3, r4⟩ := hex j e he
      simp only [he, Option.map_some, Option.getD_some]
      exact ⟨hcell _ _ q0, hcell _ _ q1, hcell _ _ q2, hcell _ _ q3, r1, r2, r3⟩
    · rw [List.getElem?_map] at hj
      obtain ⟨e, he, rfl⟩ := Option.map_eq_some_iff.1 hj
      simp only [he, Option.map_some, Option.getD_some]
      exact (hex j e he).2.2.2
theorem strR_row {w : World} {B n : Nat} {v : Value} {ks : List ByteArray} (h : w.ownsRow B 9 1 v n (ks.map Value.string)) (hl : ks.length = n) (hs : ∀ s ∈ ks, s.size ≤ 140737488351232) : StrR w v ks := by
  rcases h.2 with ⟨rfl, h0⟩ | ⟨g, cap, cur, rfl, hg, hget, hnc, hcm, hsz, htk⟩
  · exact .inl ⟨rfl, List.eq_nil_of_length_eq_zero (by omega)⟩
  · rw [← hl]
    exact .inr ⟨⟨g, 0, none⟩, cap, rfl, by omega, hcm, fun j s hj => ⟨h.cells (g := g) rfl j _ (by rw [List.getElem?_map, hj]; rfl), hs s (List.mem_of_getElem? hj)⟩⟩
theorem own_at {w w' : World} {R k n : Nat} {T : TypeId} {v : Value} {xs : List Value} (h : w.ownsRow R T k v n xs) (hg : ∀ g, v.ownBlock = some g → w'.heap[g]? = w.heap[g]?) : w'.ownsRow R T k v n xs := by
  refine ⟨h.1, ?_⟩
  rcases h.2 with hn | ⟨g, cap, cur, rfl, h1, h2, rest⟩
  · exact .inl hn
  · exact .inr ⟨g, cap, cur, rfl, h1, by rw [hg g rfl]; exact h2, rest⟩
/-- What is left: its cells in block G, of n. -/
def LeftI (G n : Nat) (ρ : List Nat) (w : World) : Prop := (∀ i x : Nat, ρ[i]? = some x → w.cell? ⟨G, i, none⟩ = some (.int .i64 (x : Int))) ∧ ∀ i, i < n → (w.cell? ⟨G, i, none⟩).isSome = true ∧ w.frozen? ⟨G, i, none⟩ = false
theorem LeftI.keep {G n : Nat} {ρ : List Nat} {w w' : World} (h : LeftI G n ρ w) (hk : w'.heap[G]? = w.heap[G]?) : LeftI G n ρ w' := by
  have h1 : ∀ i, w'.cell? ⟨G, i, none⟩ = w.cell? ⟨G, i, none⟩ := fun i => World.cell?_of_block hk
  have h2 : ∀ i, w'.frozen? ⟨G, i, none⟩ = w.frozen? ⟨G, i, none⟩ := fun i => by simp [World.frozen?, hk]
  exact ⟨fun i x hx => (h1 i).trans (h.1 i x hx), fun i hi => by rw [h1, h2]; exact h.2 i hi⟩
theorem LeftI.erase {G n p : Nat} {ρ : List Nat} {w : World} (h : LeftI G n ρ w) (hp : p < ρ.length) (hn : ρ.length ≤ n) : LeftI G n (ρ.eraseIdx p) (w.setCells G (0 + p * 1) (intsOf (ρ.drop (p + 1)))) := by
  have hlen : (intsOf (ρ.drop (p + 1))).length = ρ.length - (p + 1) := by unfold intsOf; rw [List.length_map, List.length_drop]
  have hin := World.cell?_setCells_in G (intsOf (ρ.drop (p + 1))) (0 + p * 1) w (fun j hj => (h.2 _ (by rw [hlen] at hj; omega)).1)
  have low : ∀ i, i < p → (w.setCells G (0 + p * 1) (intsOf (ρ.drop (p + 1)))).cell? ⟨G, i, none⟩ = w.cell? ⟨G, i, none⟩ := fun i hi =>
    World.cell?_setCells_out G _ _ _ _ (fun _ _ => Or.inl (by show i < 0 + p * 1; omega))
  have high : ∀ i, p ≤ i → i < ρ.length - 1 → (w.setCells G (0 + p * 1) (intsOf (ρ.drop (p + 1)))).cell? ⟨G, i, none⟩ = (ρ[i + 1]?).map fun (x : Nat) => Value.int .i64 (x : Int) := fun i h1 h2 => by
    have hj : i - p < (intsOf (ρ.drop (p + 1))).length := by rw [hlen]; omega
    have := hin (i - p) hj
    rw [show 0 + p * 1 + (i - p) = i by omega] at this
    rw [this, ← List.getElem?_eq_getElem hj]
    unfold intsOf
    rw [List.getElem?_map, List.getElem?_drop]
    rw [show p + 1 + (i - p) = i + 1 by omega]
  refine ⟨fun i x hx => ?_, fun i hi => ⟨?_, ?_⟩⟩
  · rw [List.getElem?_eraseIdx] at hx
    split at hx
    · rw [low i (by omega)]; exact h.1 i x hx
    · have := (List.getElem?_eq_some_iff.1 hx).1
      rw [high i (by omega) (by omega), hx]; rfl
  · rcases Nat.lt_or_ge i p with h1 | h1
    · rw [low i h1]; exact (h.2 i hi).1
    · rcases Nat.lt_or_ge i (ρ.length - 1) with h2 | h2
      · rw [high i h1 h2, List.getElem?_eq_getElem (by omega)]; rfl
      · rw [World.cell?_setCells_out G _ _ _ _ (fun _ _ => Or.inr (by show 0 + p * 1 + _ ≤ i; rw [hlen]; omega))]
        exact (h.2 i hi).1
  · rw [World.frozen?_setCells]; exact (h.2 i hi).2
theorem fr_setCells (G : Nat) : ∀ (l : List Value) (o : Nat) (w : World), Fr G w (w.setCells G o l)
  | [], _, w => Fr.refl G w
  | v :: l, o, w => by
    have h1 : Fr G w (w.setCell ⟨G, o, none⟩ v) := (Fr.refl G w).setCell (.inl rfl) v
    exact h1.trans (fr_setCells G l (o + 1) _)
/-- What is done: the rows of out. -/
structure RowI (t : VT) (ob : Bool) (H : Nat) (σ σk : List Nat) (es : List (VT × Value × Value)) (LV KV : Value) (w : World) : Prop where
  out : w.heap[H + 2]? = some (.cells #[.string t.kind, .string t.text, KV, LV] 25 (0, 0))
  row : w.ownsRow (H + 4) 25 4 LV σ.length (cells4 es)
  len : es.length = σ.length
  krow : w.ownsRow (H + 4) 9 1 KV (if ob then pickS t.keys σk else []).length ((if ob then pickS t.keys σk else []).map Value.string)
  apart : ∀ g, LV.ownBlock = some g → KV.ownBlock = some g → False
  turn : ∀ (j i : Nat) (e : VT × Value × Value) (x : VT), σ[j]? = some i → es[j]? = some e → t.list[i]? = some x → TurnT x e.1
  read : ∀ e ∈ es, ∃ lo hi, H + 4 ≤ lo ∧ VRi lo hi w (el4 e) e.1 ∧ ∀ g, LV.ownBlock = some g ∨ KV.ownBlock = some g → g < lo ∨ hi ≤ g
theorem RowI.size {t : VT} {ob : Bool} {H : Nat} {σ σk : List Nat} {es : List (VT × Value × Value)} {LV KV : Value} {w : World} (h : RowI t ob H σ σk es LV KV w) : H + 3 ≤ w.heap.size := by
  have := h.out
  rcases Nat.lt_or_ge (H + 2) w.heap.size with h1 | h1
  · omega
  · rw [Array.getElem?_eq_none h1] at this; cases this
theorem RowI.keep {t : VT} {ob : Bool} {H : Nat} {σ σk : List Nat} {es : List (VT × Value × Value)} {LV KV : Value} {w w' : World} (h : RowI t ob H σ σk es LV KV w) (hs : w.heap.size ≤ w'.heap.size) (hk : ∀ i, H + 2 ≤ i → i ≠ H + 3 → i < w.heap.size → w'.heap[i]? = w.heap[i]?) : RowI t ob H σ σk es LV KV w' := by
  have hsz := h.size
  refine ⟨by rw [hk (H + 2) (by omega) (by omega) (by omega)]; exact h.out, own_at h.row fun g hg => ?_, h.len, own_at h.krow fun g hg => ?_, h.apart, h.turn, fun e he => ?_⟩
  · have := World.ownsRow.lt h.row g hg
    exact hk g (by omega) (by omega) this.2
  · have := World.ownsRow.lt h.krow g hg
    exact hk g (by omega) (by omega) this.2
  · obtain ⟨lo, hi, h1, h2, h3⟩ := h.read e he
    exact ⟨lo, hi, h1, h2.keep (Nat.le_trans h2.1 hs) fun i a b => hk i (by omega) (by omega) (Nat.lt_of_lt_of_le b h2.1), h3⟩
theorem RowI.push {t : VT} {ob : Bool} {H i lo : Nat} {σ σk : List Nat} {es : List (VT × Value × Value)} {LV KV LV' : Value} {w w5 : World} {e : VT × Value × Value} {x : VT} (h : RowI t ob H σ σk es LV KV w) (hs : w.heap.size < w5.heap.size) (hk : ∀ i, i < w.heap.size → LV.ownBlock ≠ some i → w5.heap[i]? = w.heap[i]?)
    (hown : w5.ownsRow (H + 4) 25 4 LV' (σ.length + 1) (cells4 es ++ ce4 e)) (hat : LV'.ownBlock = LV.ownBlock ∨ LV'.ownBlock = some (w.heap.size + 1)) (hx : t.list[i]? = some x) (ht : TurnT x e.1) (hlo : H + 4 ≤ lo) (hr : VRi lo w.heap.size w (el4 e) e.1) (hb : ∀ g, LV.ownBlock = some g ∨ KV.ownBlock = some g → g < lo) :
    RowI t ob H (σ ++ [i]) σk (es ++ [e]) LV' KV (w5.setCell ⟨H + 2, 3, none⟩ LV') := by
  have hsz := h.size
  have hne : ∀ j, j ≠ H + 2 → (w5.setCell ⟨H + 2, 3, none⟩ LV').heap[j]? = w5.heap[j]? := fun j hj => Below.heap_setCell w5 _ _ j hj
  have hs2 : (w5.setCell ⟨H + 2, 3, none⟩ LV').heap.size = w5.heap.size := World.size_setCell' _ _ _
  have hL : ∀ g, LV.ownBlock = some g → H + 4 ≤ g ∧ g < w.heap.size := fun g hg => World.ownsRow.lt h.row g hg
  have hK : ∀ g, KV.ownBlock = some g → H + 4 ≤ g ∧ g < w.heap.size := fun g hg => World.ownsRow.lt h.krow g hg
  have hL' : ∀ g, LV'.ownBlock = some g → H + 4 ≤ g ∧ (LV.ownBlock = some g ∨ g = w.heap.size + 1) := fun g hg => by
    refine ⟨(World.ownsRow.lt hown g hg).1, ?_⟩
    rcases hat with e | e
    · exact .inl (e ▸ hg)
    · right; rw [e] at hg; injection hg with hg; exact hg.symm
  refine ⟨?_, own_at ?_ (fun g hg => hne g (by have := (hL' g hg).1; omega)), ?_, own_at h.krow (fun g hg => ?_), fun g h1 h2 => ?_, fun j i' e' x' h1 h2 h3 => ?_, fun e' he => ?_⟩
  · have h0 : w5.heap[H + 2]? = some (.cells #[.string t.kind, .string t.text, KV, LV] 25 (0, 0)) := by
      rw [hk (H + 2) (by omega) (fun hg => by have := (hL _ hg).1; omega)]; exact h.out
    simp [World.setCell, Array.getElem?_modify, h0]
  · rw [List.length_append, cells4_snoc]; exact hown
  · rw [List.length_append, List.length_append, h.len]; rfl
  · have := hK g hg
    rw [hne g (by omega)]
    exact hk g this.2 fun hg' => h.apart g hg' hg
  · rcases (hL' g h1).2 with h3 | h3
    · exact h.apart g h3 h2
    · have := (hK g h2).2; omega
  · have hlt : j < (σ ++ [i]).length := (List.getElem?_eq_some_iff.1 h1).1
    rw [List.length_append] at hlt
    rcases Nat.lt_or_ge j σ.length with hj | hj
    · rw [List.getElem?_append_left hj] at h1
      rw [List.getElem?_append_left (by rw [h.len]; exact hj)] at h2
      exact h.turn j i' e' x' h1 h2 h3
    · have hj0 : j = σ.length := by simp at hlt; omega
      subst hj0
      rw [List.getElem?_append_right (Nat.le_refl _), Nat.sub_self] at h1
      rw [List.getElem?_append_right (by rw [h.len]; exact Nat.le_refl _), h.len, Nat.sub_self] at h2
      simp at h1 h2
      subst h1 h2
      rw [hx] at h3
      injection h3 with h3
      rw [← h3]; exact ht
  · rcases List.mem_append.1 he with he | he
    · obtain ⟨lo', hi', q1, q2, q3⟩ := h.read e' he
      refine ⟨lo', hi', q1, q2.keep (by have := q2.1; omega) (fun j a b => ?_), fun g hg => ?_⟩
      · rw [hne j (by omega)]
        refine hk j (Nat.lt_of_lt_of_le b q2.1) fun hg => ?_
        rcases q3 j (.inl hg) with h | h <;> omega
      · rcases hg with hg | hg
        · rcases (hL' g hg).2 with h3 | h3
          · exact q3 g (.inl h3)
          · right; have := q2.1; omega
        · exact q3 g (.inr hg)
    · rw [List.mem_singleton] at he
      subst he
      refine ⟨lo, w.heap.size, hlo, hr.keep (by omega) (fun j a b => ?_), fun g hg => ?_⟩
      · rw [hne j (by omega)]
        exact hk j b fun hg => by have := hb j (.inl hg); omega
      · rcases hg with hg | hg
        · rcases (hL' g hg).2 with h3 | h3
          · exact .inl (hb g (.inl h3))
          · right; omega
        · exact .inl (hb g (.inr hg))
theorem RowI.pushK {t : VT} {H i : Nat} {σ σk : List Nat} {es : List (VT × Value × Value)} {LV KV KV' : Value} {w w5 : World} {s : ByteArray} (h : RowI t true H σ σk es LV KV w) (hs : w.heap.size < w5.heap.size) (hk : ∀ i, i < w.heap.size → KV.ownBlock ≠ some i → w5.heap[i]? = w.heap[i]?)
    (hown : w5.ownsRow (H + 4) 9 1 KV' ((pickS t.keys σk).length + 1) ((pickS t.keys σk).map Value.string ++ [.string s])) (hat : KV'.ownBlock = KV.ownBlock ∨ KV'.ownBlock = some (w.heap.size + 1)) (hx : t.keys[i]? = some s) :
    RowI t true H σ (σk ++ [i]) es LV KV' (w5.setCell ⟨H + 2, 2, none⟩ KV') := by
  have hsz := h.size
  have hne : ∀ j, j ≠ H + 2 → (w5.setCell ⟨H + 2, 2, none⟩ KV').heap[j]? = w5.heap[j]? := fun j hj => Below.heap_setCell w5 _ _ j hj
  have hs2 : (w5.setCell ⟨H + 2, 2, none⟩ KV').heap.size = w5.heap.size := World.size_setCell' _ _ _
  have hL : ∀ g, LV.ownBlock = some g → H + 4 ≤ g ∧ g < w.heap.size := fun g hg => World.ownsRow.lt h.row g hg
  have hK : ∀ g, KV.ownBlock = some g → H + 4 ≤ g ∧ g < w.heap.size := fun g hg => World.ownsRow.lt h.krow g hg
  have hK' : ∀ g, KV'.ownBlock = some g → H + 4 ≤ g ∧ (KV.ownBlock = some g ∨ g = w.heap.size + 1) := fun g hg => by
    refine ⟨(World.ownsRow.lt hown g hg).1, ?_⟩
    rcases hat with e | e
    · exact .inl (e ▸ hg)
    · right; rw [e] at hg; injection hg with hg; exact hg.symm
  have hp : pickS t.keys (σk ++ [i]) = pickS t.keys σk ++ [s] := by
    unfold pickS
    rw [List.filterMap_append, List.filterMap_cons, hx]
    rfl
  refine ⟨?_, own_at h.row (fun g hg => ?_), h.len, own_at ?_ (fun g hg => hne g (by have := (hK' g hg).1; omega)), fun g h1 h2 => ?_, h.turn, fun e' he => ?_⟩
  · have h0 : w5.heap[H + 2]? = some (.cells #[.string t.kind, .string t.text, KV, LV] 25 (0, 0)) := by
      rw [hk (H + 2) (by omega) (fun hg => by have := (hK _ hg).1; omega)]; exact h.out
    simp [World.setCell, Array.getElem?_modify, h0]
  · have := hL g hg
    rw [hne g (by omega)]
    exact hk g this.2 fun hg' => h.apart g hg hg'
  · rw [if_pos rfl, hp, List.length_append, List.map_append]; exact hown
  · rcases (hK' g h2).2 with h3 | h3
    · exact h.apart g h1 h3
    · have := (hL g h1).2; omega
  · obtain ⟨lo', hi', q1, q2, q3⟩ := h.read e' he
    refine ⟨lo', hi', q1, q2.keep (by have := q2.1; omega) (fun j a b => ?_), fun g hg => ?_⟩
    · rw [hne j (by omega)]
      refine hk j (Nat.lt_of_lt_of_le b q2.1) fun hg => ?_
      rcases q3 j (.inr hg) with h | h <;> omega
    · rcases hg with hg | hg
      · exact q3 g (.inl hg)
      · rcases (hK' g hg).2 with h3 | h3
        · exact q3 g (.inr h3)
        · right; have := q2.1; omega
theorem RowI.noK {t : VT} {H : Nat} {σ σk σ' : List Nat} {es : List (VT × Value × Value)} {LV KV : Value} {w : World} (h : RowI t false H σ σk es LV KV w) : RowI t false H σ σ' es LV KV w :=
  ⟨h.out, h.row, h.len, h.krow, h.apart, h.turn, h.read⟩
theorem perm_out : ∀ {ρ : List Nat} {p i : Nat}, ρ[p]? = some i → ρ.Perm (i :: ρ.eraseIdx p)
  | [], p, i, h => by simp at h
  | x :: ρ, 0, i, h => by
    obtain rfl : x = i := by simpa using h
    exact List.Perm.refl _
  | x :: ρ, p + 1, i, h => by
    have h1 := perm_out (ρ := ρ) (p := p) (i := i) (by simpa using h)
    exact (h1.cons x).trans (List.Perm.swap i x _)
theorem perm_erase {σ ρ : List Nat} {n p i : Nat} (h : (σ ++ ρ).Perm (List.range n)) (hi : ρ[p]? = some i) : (σ ++ [i] ++ ρ.eraseIdx p).Perm (List.range n) := by
  have h1 : ρ.Perm (i :: ρ.eraseIdx p) := by
    exact perm_out hi
  rw [List.append_assoc]
  exact ((List.Perm.append_left σ h1).symm).trans h
theorem flat_erase {σ ρ : List Nat} {n i : Nat} (h : σ ++ ρ = List.range n) (hi : ρ[0]? = some i) : σ ++ [i] ++ ρ.eraseIdx 0 = List.range n := by
  cases ρ with
  | nil => simp at hi
  | cons x ρ =>
    simp at hi
    subst hi
    rw [← h]
    simp
end Go.Proofs.YtjganhmbjffjfaaGreatDoor
