/- appendElement, appendMember: an append to a row of fewer than 256 elements. -/
import Derived.Test.YtngifhngangpeaaGreatDoorN1
import Derived.Maps.AppendAt
open Go Go.RowKit
namespace Go.Proofs.YtngifhngangpeaaGreatDoor

/-- What an append to a row comes to. -/
def AppP (R : Nat) (T : TypeId) (k : Nat) (v : Value) (n : Nat) (xs : List Value) (w : World) (e : Ending) (w' : World) : Prop :=
  ∃ v', e = .returned v' ∧ w'.ownsRow R T k v' (n + 1) xs ∧ w.grownBy w' v.ownBlock ∧ (v'.ownBlock = v.ownBlock ∨ ∃ g, v'.ownBlock = some g ∧ w.heap.size ≤ g)
theorem info_node : (Tryz.prog.info? 135).map (fun i => (i.zero, i.size, i.bytes)) = some (some zeroNode, 4, 72) := by kernel_rfl
theorem info_member : (Tryz.prog.info? 156).map (fun i => (i.zero, i.size, i.bytes)) = some (some (.agg #[.string ⟨#[]⟩, .slice none 0 0, .pointer none]), 3, 48) := by kernel_rfl
theorem ownsRow.slice {w : World} {R k n : Nat} {T : TypeId} {v : Value} {xs : List Value} (h : w.ownsRow R T k v n xs) : ∃ a c, v = .slice a n c ∧ n ≤ c := by
  rcases h.2 with ⟨rfl, rfl⟩ | ⟨g, cap, cur, rfl, _, _, hc, _⟩
  · exact ⟨_, _, rfl, Nat.le_refl _⟩
  · exact ⟨_, _, rfl, hc⟩
theorem grown_of {w w2 : World} {o1 o2 : Obj} {r : Option Nat} (h : ((w.alloc o1).alloc o2).grownBy w2 r) : w.grownBy w2 r :=
  ⟨h.os, h.tape, h.output, by have := h.size; simp at this; omega, fun k hk hr => by
    rw [h.block k (by simp; omega) hr, Below.heap_alloc _ _ _ (by simp; omega), Below.heap_alloc _ _ _ (by omega)]⟩
theorem ownsRow_alloc {w : World} {R k n : Nat} {T : TypeId} {v : Value} {xs : List Value} (h : w.ownsRow R T k v n xs) (o : Obj) : (w.alloc o).ownsRow R T k v n xs := by
  refine ⟨h.1, ?_⟩
  rcases h.2 with hn | ⟨g, cap, cur, rfl, hb, hg, rest⟩
  · exact .inl hn
  · refine .inr ⟨g, cap, cur, rfl, hb, ?_, rest⟩
    rw [Below.heap_alloc _ _ _ ?_]; exact hg
    rcases Nat.lt_or_ge g w.heap.size with h1 | h1
    · exact h1
    · rw [Array.getElem?_eq_none h1] at hg; cases hg
theorem addrAdd (b o t : Nat) : (⟨b, o, none⟩ : Addr).add t = ⟨b, o + t, none⟩ := by
  unfold Addr.add
  split
  · rename_i h; subst h; rfl
  · rfl
theorem new_cells4 (w : World) (T : TypeId) (x0 x1 x2 x3 : Value) : (w.alloc (.cells #[x0, x1, x2, x3] T)).cell? ((⟨w.heap.size, 0, none⟩ : Addr).add 0) = some x0 ∧ (w.alloc (.cells #[x0, x1, x2, x3] T)).cell? ((⟨w.heap.size, 0, none⟩ : Addr).add 1) = some x1 ∧
    (w.alloc (.cells #[x0, x1, x2, x3] T)).cell? ((⟨w.heap.size, 0, none⟩ : Addr).add 2) = some x2 ∧ (w.alloc (.cells #[x0, x1, x2, x3] T)).cell? ((⟨w.heap.size, 0, none⟩ : Addr).add 3) = some x3 := by
  have h := alloc_at w (.cells #[x0, x1, x2, x3] T)
  refine ⟨?_, ?_, ?_, ?_⟩ <;> (rw [addrAdd]; simp only [World.cell?, h]; rfl)
theorem new_cells3 (w : World) (T : TypeId) (x0 x1 x2 : Value) : (w.alloc (.cells #[x0, x1, x2] T)).cell? ((⟨w.heap.size, 0, none⟩ : Addr).add 0) = some x0 ∧ (w.alloc (.cells #[x0, x1, x2] T)).cell? ((⟨w.heap.size, 0, none⟩ : Addr).add 1) = some x1 ∧
    (w.alloc (.cells #[x0, x1, x2] T)).cell? ((⟨w.heap.size, 0, none⟩ : Addr).add 2) = some x2 := by
  have h := alloc_at w (.cells #[x0, x1, x2] T)
  refine ⟨?_, ?_, ?_⟩ <;> (rw [addrAdd]; simp only [World.cell?, h]; rfl)
set_option maxRecDepth 100000 in
set_option maxHeartbeats 2000000 in
theorem appendElement_any {R n : Nat} {v : Value} {xs : List Value} {x0 x1 x2 x3 : Value} {w : World} (hown : w.ownsRow R 135 4 v n xs) (hn : n < 256) (h1 : ∀ u ∈ [x0, x1, x2, x3], u.oneCell' = true) (hR : R ≤ w.heap.size) :
    Calls Tryz.prog 139 #[v, .agg #[x0, x1, x2, x3]] w (AppP R 135 4 v n (xs ++ [x0, x1, x2, x3]) w) := by
  obtain ⟨i0, hi, hz0, hz1, hz2⟩ := info_parts info_node
  obtain ⟨a, c, rfl, hnc⟩ := ownsRow.slice hown
  have HO := Lib.hid hown
  have H1 := Lib.hid h1
  clear hown h1
  have hb : ((n : Int) == (c : Int)) = false ∨ (((n : Int) == (c : Int)) = true ∧ ¬ (256 : Int) ≤ (c : Int)) := by
    by_cases e : n = c
    · subst e; exact Or.inr ⟨by simp, by omega⟩
    · exact Or.inl (by rw [beq_eq_false_iff_ne]; omega)
  have HNEW : Hid (∀ j u, [x0, x1, x2, x3][j]? = some u → ((w.alloc (.cells #[x0, x1, x2, x3] 135)).alloc (.cells #[x0, x1, x2, x3] 135)).cell? ((⟨w.heap.size + 1, 0, none⟩ : Addr).add j) = some u) := by
    intro j u hj
    have hc := new_cells4 (w.alloc (.cells #[x0, x1, x2, x3] 135)) 135 x0 x1 x2 x3
    rw [World.size_alloc] at hc
    match j, hj with
    | 0, hj => simp at hj; subst hj; exact hc.1
    | 1, hj => simp at hj; subst hj; exact hc.2.1
    | 2, hj => simp at hj; subst hj; exact hc.2.2.1
    | 3, hj => simp at hj; subst hj; exact hc.2.2.2
  rcases hb with hb | ⟨hb, hb2⟩
  all_goals
    go_enter Tryz.func139, Tryz.ntmps139
    go_wp2_with (at_builtin; refine wpList_append_own_at _ rfl _ _ 132 rfl R 135 i0 zeroNode 4 72 Tryz.underlying132 hi hz0 hz1 hz2 rfl (by decide) _ _ _ rfl (ownsRow_alloc (ownsRow_alloc HO.out _) _) ⟨w.heap.size + 1, 0, none⟩ 1 1 [x0, x1, x2, x3] rfl rfl HNEW.out H1.out (by unfold maxLen; omega) (by omega) (by rw [World.size_alloc, World.size_alloc]; omega) ?_)
    intro v' w2 hown' hgrow _ hat
    have H2 := Lib.hid hown'
    have HG := Lib.hid (grown_of hgrow)
    have HA : Hid (v'.ownBlock = (Value.slice a n c).ownBlock ∨ ∃ g, v'.ownBlock = some g ∧ w.heap.size ≤ g) := by
      show _ ∨ _
      rcases hat with h | h
      · exact Or.inl h
      · exact Or.inr ⟨_, h, by first | omega | (rw [World.size_alloc, World.size_alloc]; omega)⟩
    obtain ⟨a', c', rfl, hnc'⟩ := ownsRow.slice hown'
    clear hown' hgrow hat
    go_wp2
    go_ret
    exact ⟨_, rfl, H2.out, HG.out, HA.out⟩
set_option maxRecDepth 100000 in
set_option maxHeartbeats 2000000 in
theorem appendMember_any {R n : Nat} {v : Value} {xs : List Value} {x0 x1 x2 : Value} {w : World} (hown : w.ownsRow R 156 3 v n xs) (hn : n < 256) (h1 : ∀ u ∈ [x0, x1, x2], u.oneCell' = true) (hR : R ≤ w.heap.size) :
    Calls Tryz.prog 128 #[v, .agg #[x0, x1, x2]] w (AppP R 156 3 v n (xs ++ [x0, x1, x2]) w) := by
  obtain ⟨i0, hi, hz0, hz1, hz2⟩ := info_parts info_member
  obtain ⟨a, c, rfl, hnc⟩ := ownsRow.slice hown
  have HO := Lib.hid hown
  have H1 := Lib.hid h1
  clear hown h1
  have hb : ((n : Int) == (c : Int)) = false ∨ (((n : Int) == (c : Int)) = true ∧ ¬ (256 : Int) ≤ (c : Int)) := by
    by_cases e : n = c
    · subst e; exact Or.inr ⟨by simp, by omega⟩
    · exact Or.inl (by rw [beq_eq_false_iff_ne]; omega)
  have HNEW : Hid (∀ j u, [x0, x1, x2][j]? = some u → ((w.alloc (.cells #[x0, x1, x2] 156)).alloc (.cells #[x0, x1, x2] 156)).cell? ((⟨w.heap.size + 1, 0, none⟩ : Addr).add j) = some u) := by
    intro j u hj
    have hc := new_cells3 (w.alloc (.cells #[x0, x1, x2] 156)) 156 x0 x1 x2
    rw [World.size_alloc] at hc
    match j, hj with
    | 0, hj => simp at hj; subst hj; exact hc.1
    | 1, hj => simp at hj; subst hj; exact hc.2.1
    | 2, hj => simp at hj; subst hj; exact hc.2.2
  rcases hb with hb | ⟨hb, hb2⟩
  all_goals
    go_enter Tryz.func128, Tryz.ntmps128
    go_wp2_with (at_builtin; refine wpList_append_own_at _ rfl _ _ 133 rfl R 156 i0 (.agg #[.string ⟨#[]⟩, .slice none 0 0, .pointer none]) 3 48 Tryz.underlying133 hi hz0 hz1 hz2 rfl (by decide) _ _ _ rfl (ownsRow_alloc (ownsRow_alloc HO.out _) _) ⟨w.heap.size + 1, 0, none⟩ 1 1 [x0, x1, x2] rfl rfl HNEW.out H1.out (by unfold maxLen; omega) (by omega) (by rw [World.size_alloc, World.size_alloc]; omega) ?_)
    intro v' w2 hown' hgrow _ hat
    have H2 := Lib.hid hown'
    have HG := Lib.hid (grown_of hgrow)
    have HA : Hid (v'.ownBlock = (Value.slice a n c).ownBlock ∨ ∃ g, v'.ownBlock = some g ∧ w.heap.size ≤ g) := by
      show _ ∨ _
      rcases hat with h | h
      · exact Or.inl h
      · exact Or.inr ⟨_, h, by first | omega | (rw [World.size_alloc, World.size_alloc]; omega)⟩
    obtain ⟨a', c', rfl, hnc'⟩ := ownsRow.slice hown'
    clear hown' hgrow hat
    go_wp2
    go_ret
    exact ⟨_, rfl, H2.out, HG.out, HA.out⟩
end Go.Proofs.YtngifhngangpeaaGreatDoor
