/- The sorted row of an object's members is one: plain. appendElement, appendMember: an append to a row of fewer than 256 elements. The reader inside a list or an object: the state, the door (the deferred closure), what reading a node comes to. The reader's parseArray. -/
import Derived.Test.YtjganhmbjffjfaaGreatDoorN1
import Derived.Maps.AppendAt
import Derived.Defers
import Derived.Deep.LoopGhost
import Derived.Laws.ResultCell
open Go Go.RowKit
namespace Go.Proofs.YtjganhmbjffjfaaGreatDoor
theorem insN_perm (x : NT) : ∀ l : List NT, (insN x l).Perm (x :: l)
  | [] => List.Perm.refl _
  | y :: l => by
    unfold insN
    split
    · exact List.Perm.refl _
    · exact ((insN_perm x l).cons y).trans (List.Perm.swap x y l)
theorem sortN_perm : ∀ l : List NT, (sortN l).Perm l
  | [] => List.Perm.refl _
  | x :: l => (insN_perm x (sortN l)).trans ((sortN_perm l).cons x)
/-- No later one is less than an earlier one. -/
def Asc (l : List NT) : Prop := l.Pairwise fun x y => ¬ cmpK (keyN y) (keyN x) < 0
def SAsc (l : List NT) : Prop := l.Pairwise fun x y => cmpK (keyN x) (keyN y) < 0
theorem cmpK_self (a : List Nat) : cmpK a a = 0 := (cmpK_zero a a).2 rfl
theorem cmpK_le_trans (a b c : List Nat) (h1 : ¬ cmpK b a < 0) (h2 : ¬ cmpK c b < 0) : ¬ cmpK c a < 0 := by
  intro h
  have s1 := cmpK_swap a b
  have s2 := cmpK_swap b c
  by_cases e1 : cmpK a b = 0
  · rw [(cmpK_zero a b).1 e1] at h; exact h2 h
  · have h1' : cmpK a b < 0 := by omega
    have := cmpK_trans c a b h h1'
    exact h2 this
theorem insN_asc (x : NT) : ∀ l : List NT, Asc l → Asc (insN x l)
  | [], _ => List.pairwise_singleton _ _
  | y :: l, h => by
    unfold insN
    obtain ⟨h1, h2⟩ := List.pairwise_cons.1 h
    split
    · rename_i hlt
      refine List.pairwise_cons.2 ⟨fun z hz => ?_, h⟩
      have hxy : ¬ cmpK (keyN y) (keyN x) < 0 := by have := cmpK_swap (keyN x) (keyN y); omega
      rcases List.mem_cons.1 hz with rfl | hz
      · exact hxy
      · exact cmpK_le_trans _ _ _ hxy (h1 z hz)
    · rename_i hlt
      refine List.pairwise_cons.2 ⟨fun z hz => ?_, insN_asc x l h2⟩
      rcases List.mem_cons.1 ((insN_perm x l).mem_iff.1 hz) with rfl | hz
      · exact hlt
      · exact h1 z hz
theorem sortN_asc : ∀ l : List NT, Asc (sortN l)
  | [] => List.Pairwise.nil
  | x :: l => insN_asc x _ (sortN_asc l)
theorem SAsc.of : ∀ (l : List NT), Asc l → dupN l = false → SAsc l
  | [], _, _ => List.Pairwise.nil
  | [x], _, _ => List.pairwise_singleton _ _
  | x :: y :: l, h, hd => by
    obtain ⟨h1, h2⟩ := List.pairwise_cons.1 h
    simp only [dupN, Bool.or_eq_false_iff, decide_eq_false_iff_not] at hd
    have ih := SAsc.of (y :: l) h2 hd.2
    have hxy : cmpK (keyN x) (keyN y) < 0 := by
      have := h1 y (by simp); have s := cmpK_swap (keyN x) (keyN y); have := hd.1; omega
    refine List.pairwise_cons.2 ⟨fun z hz => ?_, ih⟩
    rcases List.mem_cons.1 hz with rfl | hz
    · exact hxy
    · exact cmpK_trans _ _ _ hxy ((List.pairwise_cons.1 ih).1 z hz)
theorem asc_one : ∀ (l1 l2 : List NT), l1.Perm l2 → SAsc l1 → Asc l2 → l1 = l2
  | [], l2, hp, _, _ => (List.Perm.nil_eq hp)
  | x :: l1, [], hp, _, _ => by have := hp.length_eq; simp at this
  | x :: l1, y :: l2, hp, h1, h2 => by
    obtain ⟨a1, a2⟩ := List.pairwise_cons.1 h1
    obtain ⟨b1, b2⟩ := List.pairwise_cons.1 h2
    have hxy : x = y := by
      by_cases e : x = y
      · exact e
      · have hy : y ∈ l1 := by
          rcases List.mem_cons.1 (hp.mem_iff.2 (List.mem_cons_self (a := y) (l := l2))) with h | h
          · exact absurd h.symm e
          · exact h
        have hx : x ∈ l2 := by
          rcases List.mem_cons.1 (hp.mem_iff.1 (List.mem_cons_self (a := x) (l := l1))) with h | h
          · exact absurd h e
          · exact h
        exact absurd (a1 y hy) (b1 x hx)
    subst hxy
    rw [asc_one l1 l2 (List.Perm.cons_inv hp) a2 b2]
/-- Whatever ascending row of the same members: it has a double just if the sorted one has; else it is that one. -/
theorem sorted_row {L M : List NT} (hp : M.Perm L) (ha : Asc M) : dupN M = dupN (sortN L) ∧ (dupN M = false → M = sortN L) := by
  have hp2 : M.Perm (sortN L) := hp.trans (sortN_perm L).symm
  have key1 : dupN M = false → M = sortN L := fun h => asc_one _ _ hp2 (SAsc.of _ ha h) (sortN_asc L)
  have key2 : dupN (sortN L) = false → M = sortN L := fun h => (asc_one _ _ hp2.symm (SAsc.of _ (sortN_asc L) h) ha).symm
  refine ⟨?_, key1⟩
  cases h1 : dupN M with
  | false => rw [← key1 h1, h1]
  | true =>
    cases h2 : dupN (sortN L) with
    | true => rfl
    | false => rw [key2 h2, h2] at h1; cases h1

/-- What an append to a row comes to. -/
def AppP (R : Nat) (T : TypeId) (k : Nat) (v : Value) (n : Nat) (xs : List Value) (w : World) (e : Ending) (w' : World) : Prop :=
  ∃ v', e = .returned v' ∧ w'.ownsRow R T k v' (n + 1) xs ∧ w.grownBy w' v.ownBlock ∧ (v'.ownBlock = v.ownBlock ∨ ∃ g, v'.ownBlock = some g ∧ w.heap.size ≤ g)
theorem info_node : (Tryz.prog.info? 206).map (fun i => (i.zero, i.size, i.bytes)) = some (some zeroNode, 4, 72) := by kernel_rfl
theorem info_member : (Tryz.prog.info? 257).map (fun i => (i.zero, i.size, i.bytes)) = some (some (.agg #[.string ⟨#[]⟩, .slice none 0 0, .pointer none]), 3, 48) := by kernel_rfl
theorem ownsRow.slice {w : World} {R k n : Nat} {T : TypeId} {v : Value} {xs : List Value} (h : w.ownsRow R T k v n xs) : ∃ a c, v = .slice a n c ∧ n ≤ c := by
  rcases h.2 with ⟨rfl, rfl⟩ | ⟨g, cap, cur, rfl, _, _, hc, _⟩
  · exact ⟨_, _, rfl, Nat.le_refl _⟩
  · exact ⟨_, _, rfl, hc⟩
theorem grown_of {w w2 : World} {o1 o2 : Obj} {r : Option Nat} (h : ((w.alloc o1).alloc o2).grownBy w2 r) : w.grownBy w2 r :=
  ⟨h.os, h.tape, h.output, by have := h.size; simp at this; omega, fun k hk hr => by
    rw [h.block k (by simp; omega) hr, Below.heap_alloc _ _ _ (by simp; omega), Below.heap_alloc _ _ _ (by omega)]⟩
theorem ownsRow_alloc {w : World} {R k n : Nat} {T : TypeId} {v : Value} {xs : List Value} (h : w.ownsRow R T k v n xs) (o : Obj) : (w.alloc o).ownsRow R T k v n xs := by
  refine ⟨h.1, ?_⟩
  rcases h.2 with hn | ⟨g, cap, cur, rfl, hb, hg, rest⟩
  · exact .inl hn
  · refine .inr ⟨g, cap, cur, rfl, hb, ?_, rest⟩
    rw [Below.heap_alloc _ _ _ ?_]; exact hg
    rcases Nat.lt_or_ge g w.heap.size with h1 | h1
    · exact h1
    · rw [Array.getElem?_eq_none h1] at hg; cases hg
theorem addrAdd (b o t : Nat) : (⟨b, o, none⟩ : Addr).add t = ⟨b, o + t, none⟩ := by
  unfold Addr.add
  split
  · rename_i h; subst h; rfl
  · rfl
theorem new_cells4 (w : World) (T : TypeId) (x0 x1 x2 x3 : Value) : (w.alloc (.cells #[x0, x1, x2, x3] T)).cell? ((⟨w.heap.size, 0, none⟩ : Addr).add 0) = some x0 ∧ (w.alloc (.cells #[x0, x1, x2, x3] T)).cell? ((⟨w.heap.size, 0, none⟩ : Addr).add 1) = some x1 ∧
    (w.alloc (.cells #[x0, x1, x2, x3] T)).cell? ((⟨w.heap.size, 0, none⟩ : Addr).add 2) = some x2 ∧ (w.alloc (.cells #[x0, x1, x2, x3] T)).cell? ((⟨w.heap.size, 0, none⟩ : Addr).add 3) = some x3 := by
  have h := alloc_at w (.cells #[x0, x1, x2, x3] T)
  refine ⟨?_, ?_, ?_, ?_⟩ <;> (rw [addrAdd]; simp only [World.cell?, h]; rfl)
theorem new_cells3 (w : World) (T : TypeId) (x0 x1 x2 : Value) : (w.alloc (.cells #[x0, x1, x2] T)).cell? ((⟨w.heap.size, 0, none⟩ : Addr).add 0) = some x0 ∧ (w.alloc (.cells #[x0, x1, x2] T)).cell? ((⟨w.heap.size, 0, none⟩ : Addr).add 1) = some x1 ∧
    (w.alloc (.cells #[x0, x1, x2] T)).cell? ((⟨w.heap.size, 0, none⟩ : Addr).add 2) = some x2 := by
  have h := alloc_at w (.cells #[x0, x1, x2] T)
  refine ⟨?_, ?_, ?_⟩ <;> (rw [addrAdd]; simp only [World.cell?, h]; rfl)
set_option maxRecDepth 100000 in
set_option maxHeartbeats 2000000 in
theorem appendElement_any {R n : Nat} {v : Value} {xs : List Value} {x0 x1 x2 x3 : Value} {w : World} (hown : w.ownsRow R 206 4 v n xs) (hn : n < 256) (h1 : ∀ u ∈ [x0, x1, x2, x3], u.oneCell' = true) (hR : R ≤ w.heap.size) :
    Calls Tryz.prog 178 #[v, .agg #[x0, x1, x2, x3]] w (AppP R 206 4 v n (xs ++ [x0, x1, x2, x3]) w) := by
  obtain ⟨i0, hi, hz0, hz1, hz2⟩ := info_parts info_node
  obtain ⟨a, c, rfl, hnc⟩ := ownsRow.slice hown
  have HO := Lib.hid hown
  have H1 := Lib.hid h1
  clear hown h1
  have hb : ((n : Int) == (c : Int)) = false ∨ (((n : Int) == (c : Int)) = true ∧ ¬ (256 : Int) ≤ (c : Int)) := by
    by_cases e : n = c
    · subst e; exact Or.inr ⟨by simp, by omega⟩
    · exact Or.inl (by rw [beq_eq_false_iff_ne]; omega)
  have HNEW : Hid (∀ j u, [x0, x1, x2, x3][j]? = some u → ((w.alloc (.cells #[x0, x1, x2, x3] 206)).alloc (.cells #[x0, x1, x2, x3] 206)).cell? ((⟨w.heap.size + 1, 0, none⟩ : Addr).add j) = some u) := by
    intro j u hj
    have hc := new_cells4 (w.alloc (.cells #[x0, x1, x2, x3] 206)) 206 x0 x1 x2 x3
    rw [World.size_alloc] at hc
    match j, hj with
    | 0, hj => simp at hj; subst hj; exact hc.1
    | 1, hj => simp at hj; subst hj; exact hc.2.1
    | 2, hj => simp at hj; subst hj; exact hc.2.2.1
    | 3, hj => simp at hj; subst hj; exact hc.2.2.2
  rcases hb with hb | ⟨hb, hb2⟩
  all_goals
    go_enter Tryz.func178, Tryz.ntmps178
    go_wp2_with (at_builtin; refine wpList_append_own_at _ rfl _ _ 203 rfl R 206 i0 zeroNode 4 72 Tryz.underlying203 hi hz0 hz1 hz2 rfl (by decide) _ _ _ rfl (ownsRow_alloc (ownsRow_alloc HO.out _) _) ⟨w.heap.size + 1, 0, none⟩ 1 1 [x0, x1, x2, x3] rfl rfl HNEW.out H1.out (by unfold maxLen; omega) (by omega) (by rw [World.size_alloc, World.size_alloc]; omega) ?_)
    intro v' w2 hown' hgrow _ hat
    have H2 := Lib.hid hown'
    have HG := Lib.hid (grown_of hgrow)
    have HA : Hid (v'.ownBlock = (Value.slice a n c).ownBlock ∨ ∃ g, v'.ownBlock = some g ∧ w.heap.size ≤ g) := by
      show _ ∨ _
      rcases hat with h | h
      · exact Or.inl h
      · exact Or.inr ⟨_, h, by first | omega | (rw [World.size_alloc, World.size_alloc]; omega)⟩
    obtain ⟨a', c', rfl, hnc'⟩ := ownsRow.slice hown'
    clear hown' hgrow hat
    go_wp2
    go_ret
    exact ⟨_, rfl, H2.out, HG.out, HA.out⟩
set_option maxRecDepth 100000 in
set_option maxHeartbeats 2000000 in
theorem appendMember_any {R n : Nat} {v : Value} {xs : List Value} {x0 x1 x2 : Value} {w : World} (hown : w.ownsRow R 257 3 v n xs) (hn : n < 256) (h1 : ∀ u ∈ [x0, x1, x2], u.oneCell' = true) (hR : R ≤ w.heap.size) :
    Calls Tryz.prog 167 #[v, .agg #[x0, x1, x2]] w (AppP R 257 3 v n (xs ++ [x0, x1, x2]) w) := by
  obtain ⟨i0, hi, hz0, hz1, hz2⟩ := info_parts info_member
  obtain ⟨a, c, rfl, hnc⟩ := ownsRow.slice hown
  have HO := Lib.hid hown
  have H1 := Lib.hid h1
  clear hown h1
  have hb : ((n : Int) == (c : Int)) = false ∨ (((n : Int) == (c : Int)) = true ∧ ¬ (256 : Int) ≤ (c : Int)) := by
    by_cases e : n = c
    · subst e; exact Or.inr ⟨by simp, by omega⟩
    · exact Or.inl (by rw [beq_eq_false_iff_ne]; omega)
  have HNEW : Hid (∀ j u, [x0, x1, x2][j]? = some u → ((w.alloc (.cells #[x0, x1, x2] 257)).alloc (.cells #[x0, x1, x2] 257)).cell? ((⟨w.heap.size + 1, 0, none⟩ : Addr).add j) = some u) := by
    intro j u hj
    have hc := new_cells3 (w.alloc (.cells #[x0, x1, x2] 257)) 257 x0 x1 x2
    rw [World.size_alloc] at hc
    match j, hj with
    | 0, hj => simp at hj; subst hj; exact hc.1
    | 1, hj => simp at hj; subst hj; exact hc.2.1
    | 2, hj => simp at hj; subst hj; exact hc.2.2
  rcases hb with hb | ⟨hb, hb2⟩
  all_goals
    go_enter Tryz.func167, Tryz.ntmps167
    go_wp2_with (at_builtin; refine wpList_append_own_at _ rfl _ _ 204 rfl R 257 i0 (.agg #[.string ⟨#[]⟩, .slice none 0 0, .pointer none]) 3 48 Tryz.underlying204 hi hz0 hz1 hz2 rfl (by decide) _ _ _ rfl (ownsRow_alloc (ownsRow_alloc HO.out _) _) ⟨w.heap.size + 1, 0, none⟩ 1 1 [x0, x1, x2] rfl rfl HNEW.out H1.out (by unfold maxLen; omega) (by omega) (by rw [World.size_alloc, World.size_alloc]; omega) ?_)
    intro v' w2 hown' hgrow _ hat
    have H2 := Lib.hid hown'
    have HG := Lib.hid (grown_of hgrow)
    have HA : Hid (v'.ownBlock = (Value.slice a n c).ownBlock ∨ ∃ g, v'.ownBlock = some g ∧ w.heap.size ≤ g) := by
      show _ ∨ _
      rcases hat with h | h
      · exact Or.inl h
      · exact Or.inr ⟨_, h, by first | omega | (rw [World.size_alloc, World.size_alloc]; omega)⟩
    obtain ⟨a', c', rfl, hnc'⟩ := ownsRow.slice hown'
    clear hown' hgrow hat
    go_wp2
    go_ret
    exact ⟨_, rfl, H2.out, HG.out, HA.out⟩

theorem ND.shape {P : Nat → Prop} {w : World} {x0 x1 x2 x3 : Value} {t : List UInt8} (h : ND P w [x0, x1, x2, x3] t) :
    ∃ (kd : Int) (s : ByteArray) (a1 : Option Addr) (n1 c1 : Nat) (a2 : Option Addr) (n2 c2 : Nat), x0 = .int .u8 kd ∧ x1 = .string s ∧ x2 = .slice a1 n1 c1 ∧ x3 = .slice a2 n2 c2 := by
  cases h <;> exact ⟨_, _, _, _, _, _, _, _, rfl, rfl, rfl, rfl⟩
/-- What reading a node comes to. -/
def NPost (o : Out) (w : World) (j : Nat) (A : Option Addr) (c : Nat) (D : List UInt8) (d : Nat) (e : Ending) (w' : World) : Prop :=
  match o with
  | .stuck => True
  | .err => NodeErr w j A c D d e w'
  | .ok t r => ∃ x0 x1 x2 x3, e = .returned (.tuple #[.agg #[x0, x1, x2, x3], .nilIface]) ∧ Fr j w w' ∧ JR w' j A c D r d ∧ ND (fun k => w.heap.size ≤ k) w' [x0, x1, x2, x3] t
theorem NPost.err {o : Out} {w w' : World} {j : Nat} {A : Option Addr} {c : Nat} {D : List UInt8} {d : Nat} {v : Value} (ho : o = .err) (hv : IsErr v) (hf : Fr j w w') {r : List UInt8} (hJ : JR w' j A c D r d) :
    NPost o w j A c D d (.returned (.tuple #[zeroNode, v])) w' := by subst ho; exact ⟨⟨v, hv, rfl⟩, hf, r, hJ⟩
theorem NPost.ok {o : Out} {w w' : World} {j : Nat} {A : Option Addr} {c : Nat} {D t r : List UInt8} {d : Nat} {x0 x1 x2 x3 : Value} (ho : o = .ok t r) (hf : Fr j w w') (hJ : JR w' j A c D r d) (hn : ND (fun k => w.heap.size ≤ k) w' [x0, x1, x2, x3] t) :
    NPost o w j A c D d (.returned (.tuple #[.agg #[x0, x1, x2, x3], .nilIface])) w' := by subst ho; exact ⟨x0, x1, x2, x3, rfl, hf, hJ, hn⟩
def ElemOK (lit : Lit) (k : Nat) : Prop := ∀ (w : World) (j : Nat) (A : Option Addr) (c : Nat) (D s : List UInt8) (d : Nat), d ≤ 10000 → JR w j A c D s d → pElem lit k d s ≠ .stuck →
  Calls Tryz.prog 111 #[.pointer (some ⟨j, 0, none⟩)] w (NPost (pElem lit k d s) w j A c D d)
def arrOut (lit : Lit) (k d : Nat) (s : List UInt8) : Out := if 10000 < d + 1 then .err else pEls lit k (d + 1) false [] s
def objOut (lit : Lit) (k d : Nat) (s : List UInt8) : Out := if 10000 < d + 1 then .err else pMems lit k (d + 1) false [] s
def ArrOK (lit : Lit) (k : Nat) : Prop := ∀ (w : World) (j : Nat) (A : Option Addr) (c : Nat) (D s : List UInt8) (d : Nat), d ≤ 10000 → JR w j A c D s d → arrOut lit k d s ≠ .stuck →
  Calls Tryz.prog 133 #[.pointer (some ⟨j, 0, none⟩)] w (NPost (arrOut lit k d s) w j A c D d)
def ObjOK (lit : Lit) (k : Nat) : Prop := ∀ (w : World) (j : Nat) (A : Option Addr) (c : Nat) (D s : List UInt8) (d : Nat), d ≤ 10000 → JR w j A c D s d → objOut lit k d s ≠ .stuck →
  Calls Tryz.prog 131 #[.pointer (some ⟨j, 0, none⟩)] w (NPost (objOut lit k d s) w j A c D d)

/-- The reader within a list or an object. -/
structure AS (w : World) (j : Nat) (A : Option Addr) (c : Nat) (D : List UInt8) (d : Nat) (r : List UInt8) (x0 x1 x2 x3 : Value) (W : World) : Prop where
  lt : j < w.heap.size
  j0 : ∃ r0, JR w j A c D r0 d
  fr : Fr j w W
  jr : JR W j A c D r (d + 1)
  box : W.heap[w.heap.size]? = some (.cells #[.pointer (some ⟨j, 0, none⟩)] 201 (0, 0))
  slot : W.heap[w.heap.size + 1]? = some (.cells #[x0, x1, x2, x3] 206 (0, 0))
section
variable {w W W' : World} {j : Nat} {A : Option Addr} {c : Nat} {D : List UInt8} {d : Nat} {r : List UInt8} {x0 x1 x2 x3 : Value}
theorem AS.size (h : AS w j A c D d r x0 x1 x2 x3 W) : w.heap.size + 2 ≤ W.heap.size := by
  have := (slot_cells h.slot).2.2.2.2.2; omega
theorem AS.bx (h : AS w j A c D d r x0 x1 x2 x3 W) : W.cell? ⟨w.heap.size, 0, none⟩ = some (.pointer (some ⟨j, 0, none⟩)) := by simp [World.cell?, h.box]
theorem AS.keep {r' : List UInt8} (h : AS w j A c D d r x0 x1 x2 x3 W) (hf : Fr j W W') (hJ : JR W' j A c D r' (d + 1)) : AS w j A c D d r' x0 x1 x2 x3 W' := by
  have hs := h.size
  have hl := h.lt
  exact ⟨h.lt, h.j0, h.fr.trans hf, hJ, by rw [hf.block _ (by omega) (by omega)]; exact h.box, by rw [hf.block _ (by omega) (by omega)]; exact h.slot⟩
theorem AS.below {M : Nat} (h : AS w j A c D d r x0 x1 x2 x3 W) (hM : w.heap.size + 2 ≤ M) (hb : Below M W W') : AS w j A c D d r x0 x1 x2 x3 W' := by
  have hl := h.lt
  have hf : Fr j w W' := h.fr.trans' hb (by omega)
  obtain ⟨r0, h0⟩ := h.j0
  exact ⟨h.lt, h.j0, hf, by
    obtain ⟨i0, h0, _⟩ := h0
    obtain ⟨i1, h1, e1⟩ := h.jr
    exact ⟨i1, h0.fr hf (by rw [hb.block j (by omega)]; exact h1.blk) h1.ile h1.dle, e1⟩, by rw [hb.block _ (by omega)]; exact h.box, by rw [hb.block _ (by omega)]; exact h.slot⟩
theorem AS.drewN (h : AS w j A c D d r x0 x1 x2 x3 W) (n : Nat) : AS w j A c D d r x0 x1 x2 x3 (W.drewN n) := ⟨h.lt, h.j0, h.fr.drewN n, h.jr.drewN n, h.box, h.slot⟩
theorem AS.alloc (h : AS w j A c D d r x0 x1 x2 x3 W) (o : Obj) : AS w j A c D d r x0 x1 x2 x3 (W.alloc o) := h.below (Nat.le_refl _) ((Below.refl _ _).alloc h.size _)
theorem AS.set4 (h : AS w j A c D d r x0 x1 x2 x3 W) (y0 y1 y2 y3 : Value) :
    AS w j A c D d r y0 y1 y2 y3 ((((W.setCell ⟨w.heap.size + 1, 0, none⟩ y0).setCell ⟨w.heap.size + 1, 1, none⟩ y1).setCell ⟨w.heap.size + 1, 2, none⟩ y2).setCell ⟨w.heap.size + 1, 3, none⟩ y3) := by
  have hl := h.lt
  have hf := h.fr.set4 (b := w.heap.size + 1) (by omega) y0 y1 y2 y3
  obtain ⟨r0, h0⟩ := h.j0
  exact ⟨h.lt, ⟨r0, h0⟩, hf, by
    obtain ⟨i0, h0, _⟩ := h0
    obtain ⟨i1, h1, e1⟩ := h.jr
    exact ⟨i1, h0.fr hf (by rw [set4_other (by omega)]; exact h1.blk) h1.ile h1.dle, e1⟩, by rw [set4_other (by omega)]; exact h.box, Go.Proofs.YtjganhmbjffjfaaGreatDoor.set4 h.slot y0 y1 y2 y3⟩
theorem AS.start {s : List UInt8} (h : JR w j A c D s d) (hd : d + 1 ≤ 20000) :
    AS w j A c D d s (.int .u8 0) (.string ⟨#[]⟩) (.slice none 0 0) (.slice none 0 0) (((w.setCell ⟨j, 2, none⟩ (.int .i64 ((d : Int) + 1))).alloc (.cells #[.pointer (some ⟨j, 0, none⟩)] 201)).alloc (.cells #[.int .u8 0, .string ⟨#[]⟩, .slice none 0 0, .slice none 0 0] 206)) := by
  obtain ⟨i, hJ, hD⟩ := h
  have hJ1 := hJ.set2 (d + 1) hd
  have hl := hJ.lt
  have hs : (w.setCell ⟨j, 2, none⟩ (.int .i64 ((d + 1 : Nat) : Int))).heap.size = w.heap.size := World.size_setCell' _ _ _
  have e : (((d + 1 : Nat) : Int)) = (d : Int) + 1 := by omega
  rw [e] at hJ1 hs
  have hb : Below w.heap.size (w.setCell ⟨j, 2, none⟩ (.int .i64 ((d : Int) + 1))) (((w.setCell ⟨j, 2, none⟩ (.int .i64 ((d : Int) + 1))).alloc (.cells #[.pointer (some ⟨j, 0, none⟩)] 201)).alloc (.cells #[.int .u8 0, .string ⟨#[]⟩, .slice none 0 0, .slice none 0 0] 206)) :=
    ((Below.refl _ _).alloc (by omega) _).alloc (by rw [World.size_alloc]; omega) _
  refine ⟨hl, ⟨s, i, hJ, hD⟩, ((Fr.refl j w).setCell (Or.inl rfl) _).trans' hb (Nat.le_refl _), ⟨i, hJ1.below (by rw [hs]; exact hb), hD⟩, ?_, ?_⟩
  · have := alloc_at (w.setCell ⟨j, 2, none⟩ (.int .i64 ((d : Int) + 1))) (.cells #[.pointer (some ⟨j, 0, none⟩)] 201)
    rw [hs] at this
    rw [Below.heap_alloc _ _ _ (by rw [World.size_alloc]; omega)]; exact this
  · have := alloc_at ((w.setCell ⟨j, 2, none⟩ (.int .i64 ((d : Int) + 1))).alloc (.cells #[.pointer (some ⟨j, 0, none⟩)] 201)) (.cells #[.int .u8 0, .string ⟨#[]⟩, .slice none 0 0, .slice none 0 0] 206)
    rw [World.size_alloc, hs] at this; exact this
end
/- doors -/
set_option maxRecDepth 100000 in
set_option maxHeartbeats 2000000 in
theorem arrayD_any (bx j d : Nat) (w : World) (u : FrameMode) (hb : w.cell? ⟨bx, 0, none⟩ = some (.pointer (some ⟨j, 0, none⟩))) (c2 : w.cell? ⟨j, 2, none⟩ = some (.int .i64 ((d : Int) + 1))) (f2 : w.frozen? ⟨j, 2, none⟩ = false) (hd : d ≤ 20000) :
    CallsD Tryz.prog 177 #[.pointer (some ⟨bx, 0, none⟩)] u w fun e u' w' => u' = u ∧ (e = .returned (.tuple #[]) ∧ w' = w.setCell ⟨j, 2, none⟩ (.int .i64 (d : Int))) := by
  have e1 : (d : Int) + 1 - 1 = d := by omega
  go_enter_d Tryz.func177, Tryz.ntmps177
  go_wp2
  go_end0
  exact ⟨rfl, rfl⟩
theorem array_end {P : Ending → World → Prop} {tmps : Array Value} {w WF : World} {j : Nat} {A : Option Addr} {c : Nat} {D : List UInt8} {d : Nat} {r : List UInt8} {x0 x1 x2 x3 u : Value} (h : AS w j A c D d r x0 x1 x2 x3 WF)
    (h2 : tmps.getD 2 undef = .pointer (some ⟨w.heap.size + 1, 0, none⟩)) (h3 : tmps.getD 3 undef = u)
    (hP : ∀ W', W'.heap.size = WF.heap.size → (∀ k, k ≠ j → W'.heap[k]? = WF.heap[k]?) → Fr j w W' → JR W' j A c D r d → P (.returned (.tuple #[.agg #[x0, x1, x2, x3], u])) W') :
    bodyPostD Tryz.prog Tryz.f133 P Exit.ret { tmps := tmps, defers := [{ target := Target.fn (Fn.func 177) #[Value.pointer (some ⟨w.heap.size, 0, none⟩)], args := #[] }] } WF := by
  obtain ⟨i, hJ, hD⟩ := h.jr
  have hdle : d ≤ 20000 := by have := hJ.dle; omega
  refine leaves_cons (f := 177) (args := #[Value.pointer (some ⟨w.heap.size, 0, none⟩)]) (by simp) (by simp [go_sem]) ?_
  refine (arrayD_any w.heap.size j d WF .returning h.bx (by have := hJ.c2; simpa using this) (hJ.fz 2) hdle).mono ?_
  rintro e u' w' ⟨rfl, rfl, rfl⟩
  have hl := h.lt
  have ho : ∀ k, k ≠ j → (WF.setCell ⟨j, 2, none⟩ (.int .i64 (d : Int))).heap[k]? = WF.heap[k]? := fun k hk => Below.heap_setCell _ _ _ _ hk
  have hslot : (WF.setCell ⟨j, 2, none⟩ (.int .i64 (d : Int))).heap[w.heap.size + 1]? = some (.cells #[x0, x1, x2, x3] 206 (0, 0)) := by rw [ho _ (by omega)]; exact h.slot
  have hr : (results Tryz.f133 tmps).run Tryz.prog (WF.setCell ⟨j, 2, none⟩ (.int .i64 (d : Int))) = .ok (.tuple #[.agg #[x0, x1, x2, x3], u]) (WF.setCell ⟨j, 2, none⟩ (.int .i64 (d : Int))) := by
    rw [results_cell_tmp rfl, h2, h3]
    simp only [asAddr, Sem.run_pure, Result.andThen, load4 hslot]
  show Leaves _ _ _ _ [] .returning _
  exact ⟨_, hr, hP _ (World.size_setCell' _ _ _) ho (h.fr.setCell (Or.inl rfl) _) ⟨i, hJ.set2 d hdle, hD⟩⟩

set_option maxRecDepth 100000 in
set_option maxHeartbeats 2000000 in
theorem objectD_any (bx j d : Nat) (w : World) (u : FrameMode) (hb : w.cell? ⟨bx, 0, none⟩ = some (.pointer (some ⟨j, 0, none⟩))) (c2 : w.cell? ⟨j, 2, none⟩ = some (.int .i64 ((d : Int) + 1))) (f2 : w.frozen? ⟨j, 2, none⟩ = false) (hd : d ≤ 20000) :
    CallsD Tryz.prog 163 #[.pointer (some ⟨bx, 0, none⟩)] u w fun e u' w' => u' = u ∧ (e = .returned (.tuple #[]) ∧ w' = w.setCell ⟨j, 2, none⟩ (.int .i64 (d : Int))) := by
  have e1 : (d : Int) + 1 - 1 = d := by omega
  go_enter_d Tryz.func163, Tryz.ntmps163
  go_wp2
  go_end0
  exact ⟨rfl, rfl⟩
theorem object_end {P : Ending → World → Prop} {tmps : Array Value} {w WF : World} {j : Nat} {A : Option Addr} {c : Nat} {D : List UInt8} {d : Nat} {r : List UInt8} {x0 x1 x2 x3 u : Value} (h : AS w j A c D d r x0 x1 x2 x3 WF)
    (h2 : tmps.getD 2 undef = .pointer (some ⟨w.heap.size + 1, 0, none⟩)) (h3 : tmps.getD 3 undef = u)
    (hP : ∀ W', W'.heap.size = WF.heap.size → (∀ k, k ≠ j → W'.heap[k]? = WF.heap[k]?) → Fr j w W' → JR W' j A c D r d → P (.returned (.tuple #[.agg #[x0, x1, x2, x3], u])) W') :
    bodyPostD Tryz.prog Tryz.f131 P Exit.ret { tmps := tmps, defers := [{ target := Target.fn (Fn.func 163) #[Value.pointer (some ⟨w.heap.size, 0, none⟩)], args := #[] }] } WF := by
  obtain ⟨i, hJ, hD⟩ := h.jr
  have hdle : d ≤ 20000 := by have := hJ.dle; omega
  refine leaves_cons (f := 163) (args := #[Value.pointer (some ⟨w.heap.size, 0, none⟩)]) (by simp) (by simp [go_sem]) ?_
  refine (objectD_any w.heap.size j d WF .returning h.bx (by have := hJ.c2; simpa using this) (hJ.fz 2) hdle).mono ?_
  rintro e u' w' ⟨rfl, rfl, rfl⟩
  have hl := h.lt
  have ho : ∀ k, k ≠ j → (WF.setCell ⟨j, 2, none⟩ (.int .i64 (d : Int))).heap[k]? = WF.heap[k]? := fun k hk => Below.heap_setCell _ _ _ _ hk
  have hslot : (WF.setCell ⟨j, 2, none⟩ (.int .i64 (d : Int))).heap[w.heap.size + 1]? = some (.cells #[x0, x1, x2, x3] 206 (0, 0)) := by rw [ho _ (by omega)]; exact h.slot
  have hr : (results Tryz.f131 tmps).run Tryz.prog (WF.setCell ⟨j, 2, none⟩ (.int .i64 (d : Int))) = .ok (.tuple #[.agg #[x0, x1, x2, x3], u]) (WF.setCell ⟨j, 2, none⟩ (.int .i64 (d : Int))) := by
    rw [results_cell_tmp rfl, h2, h3]
    simp only [asAddr, Sem.run_pure, Result.andThen, load4 hslot]
  show Leaves _ _ _ _ [] .returning _
  exact ⟨_, hr, hP _ (World.size_setCell' _ _ _) ho (h.fr.setCell (Or.inl rfl) _) ⟨i, hJ.set2 d hdle, hD⟩⟩

/-- The loop's relation. -/
structure ARel (w : World) (j : Nat) (A : Option Addr) (c : Nat) (D : List UInt8) (d : Nat) (L : List (List Value × List UInt8)) (r : List UInt8) (v : Value) (W : World) : Prop where
  st : AS w j A c D d r (.int .u8 0) (.string ⟨#[]⟩) (.slice none 0 0) (.slice none 0 0) W
  own : W.ownsRow (w.heap.size + 2) 206 4 v L.length (L.flatMap (·.1))
  nd : ∀ x ∈ L, ND (fun k => w.heap.size + 2 ≤ k ∧ v.ownBlock ≠ some k) W x.1 x.2
  nn : ∃ g cp, v = .slice (some ⟨g, 0, none⟩) L.length cp

theorem ownsRow_fr {w w' : World} {R k n j : Nat} {T : TypeId} {v : Value} {xs : List Value} (h : w.ownsRow R T k v n xs) (hf : Fr j w w') (hj : j < R) : w'.ownsRow R T k v n xs := by
  refine ⟨h.1, ?_⟩
  rcases h.2 with hn | ⟨g, cap, cur, rfl, hb, hg, rest⟩
  · exact .inl hn
  · refine .inr ⟨g, cap, cur, rfl, hb, ?_, rest⟩
    rw [hf.block _ ?_ (by omega)]; exact hg
    rcases Nat.lt_or_ge g w.heap.size with h1 | h1
    · exact h1
    · rw [Array.getElem?_eq_none h1] at hg; cases hg
theorem ownsRow_lt {w : World} {R k n : Nat} {T : TypeId} {v : Value} {xs : List Value} (h : w.ownsRow R T k v n xs) : ∀ g, v.ownBlock = some g → R ≤ g ∧ g < w.heap.size := by
  intro g' e
  rcases h.2 with ⟨rfl, _⟩ | ⟨g, cap, cur, rfl, hb, hg, rest⟩
  · cases e
  · cases e
    refine ⟨hb, ?_⟩
    rcases Nat.lt_or_ge g w.heap.size with h1 | h1
    · exact h1
    · rw [Array.getElem?_eq_none h1] at hg; cases hg
theorem below_app {w3 w4 : World} {M : Nat} {o : Obj} {r : Option Nat} (hM : M ≤ w3.heap.size) (hg : (w3.alloc o).grownBy w4 r) (hr : ∀ g, r = some g → M ≤ g) : Below M w3 w4 :=
  ⟨hg.os, hg.tape, hg.output, by have := hg.size; rw [World.size_alloc] at this; omega, fun k hk => by
    rw [hg.block k (by rw [World.size_alloc]; omega) (fun e => by have := hr k e.symm; omega), Below.heap_alloc _ _ _ (by omega)]⟩
theorem ARel.push {w wr w3 w4 : World} {j : Nat} {A : Option Addr} {c : Nat} {D : List UInt8} {d : Nat} {L : List (List Value × List UInt8)} {r r2 t : List UInt8} {v v' : Value} {m : Nat} {x0 x1 x2 x3 : Value} (h : ARel w j A c D d L r v wr)
    (hf : Fr j wr w3) (hJ3 : JR w3 j A c D r2 (d + 1)) (hm : wr.heap.size ≤ m) (hND : ND (fun k => m ≤ k) w3 [x0, x1, x2, x3] t) (o : Obj)
    (hown' : w4.ownsRow (w.heap.size + 2) 206 4 v' (L.length + 1) (L.flatMap (·.1) ++ [x0, x1, x2, x3])) (hg : (w3.alloc o).grownBy w4 v.ownBlock)
    (hat : v'.ownBlock = v.ownBlock ∨ ∃ g, v'.ownBlock = some g ∧ (w3.alloc o).heap.size ≤ g) : ARel w j A c D d (L ++ [([x0, x1, x2, x3], t)]) r2 v' w4 := by
  have hol := ownsRow_lt h.own
  have hsz := h.st.size
  have hfs := hf.size
  have hjl := h.st.lt
  have hb : Below (w.heap.size + 2) w3 w4 := below_app (by omega) hg (fun g e => (hol g e).1)
  have hat' : ∀ k, k < w3.heap.size → v.ownBlock ≠ some k → v'.ownBlock ≠ some k := by
    intro k hk hv e
    rcases hat with h1 | ⟨g, h1, h2⟩
    · exact hv (by rw [← h1]; exact e)
    · rw [h1] at e; cases e; rw [World.size_alloc] at h2; omega
  have hkeep : ∀ k, k < w3.heap.size → v.ownBlock ≠ some k → w4.heap[k]? = w3.heap[k]? := fun k hk hv => by
    rw [hg.block k (by rw [World.size_alloc]; omega) (fun e => hv e.symm), Below.heap_alloc _ _ _ (by omega)]
  refine ⟨(h.st.keep hf hJ3).below (Nat.le_refl _) hb, ?_, ?_, ?_⟩
  · rw [List.length_append, List.flatMap_append]; simpa using hown'
  · intro x hx
    rcases List.mem_append.1 hx with hx | hx
    · have h1 := ((h.nd x hx).fr hf (fun k hk => by omega))
      have h2 := h1.mono (Q := fun k => (w.heap.size + 2 ≤ k ∧ v'.ownBlock ≠ some k) ∧ v.ownBlock ≠ some k) (fun k hk hp => ⟨⟨hp.1, hat' k hk hp.2⟩, hp.2⟩)
      exact (h2.frame hb.size (fun k hk hp => hkeep k hk hp.2)).mono (fun k _ hp => hp.1)
    · rw [List.mem_singleton.1 hx]
      have hv : ∀ k, m ≤ k → v.ownBlock ≠ some k := fun k hk e => by have := (hol k e).2; omega
      have h2 := hND.mono (Q := fun k => (w.heap.size + 2 ≤ k ∧ v'.ownBlock ≠ some k) ∧ v.ownBlock ≠ some k) (fun k hk hp => ⟨⟨by omega, hat' k hk (hv k hp)⟩, hv k hp⟩)
      exact (h2.frame hb.size (fun k hk hp => hkeep k hk hp.2)).mono (fun k _ hp => hp.1)
  · rcases hown'.2 with ⟨_, h0⟩ | ⟨g, cap, cur, rfl, _⟩
    · omega
    · exact ⟨g, cap, by simp⟩
theorem ARel.result {w wr W' : World} {j : Nat} {A : Option Addr} {c : Nat} {D : List UInt8} {d : Nat} {L : List (List Value × List UInt8)} {r : List UInt8} {g cp : Nat} (h : ARel w j A c D d L r (.slice (some ⟨g, 0, none⟩) L.length cp) wr)
    (hs : wr.heap.size ≤ W'.heap.size) (hk : ∀ k, k < wr.heap.size → w.heap.size + 2 ≤ k → W'.heap[k]? = wr.heap[k]?) :
    ND (fun k => w.heap.size ≤ k) W' [.int .u8 1, .string ⟨#[]⟩, .slice (some ⟨g, 0, none⟩) L.length cp, .slice none 0 0] (91 :: joinC (L.map (·.2)) ++ [93]) := by
  have ho := ownsRow_lt h.own g rfl
  obtain ⟨hl1, hl2⟩ : L.length ≤ cp ∧ cp ≤ maxLen := by
    rcases h.own.2 with ⟨e, h0⟩ | ⟨g', cap, cur, e, _, _, h1, h2, _⟩
    · cases e
    · cases e; exact ⟨h1, h2⟩
  refine .arr g L.length cp L (by omega) (by omega) rfl hl1 hl2 (fun x hx => ?_) (fun i u hu => ?_)
  · exact ((h.nd x hx).mono (Q := fun k => w.heap.size + 2 ≤ k) (fun k _ hp => hp.1)).frame hs (fun k hkl hp => hk k hkl hp) |>.mono (fun k _ hp => by omega)
  · have := h.own.cells (g := g) rfl i u hu
    rw [addrAdd, Nat.zero_add] at this
    rw [World.cell?_of_block (hk g ho.2 ho.1)]; exact this
theorem pEls_succ (lit : Lit) (k d : Nat) (nx : Bool) (acc : List (List UInt8)) (s : List UInt8) : pEls lit (k + 1) d nx acc s = match s.dropWhile wsB with
    | [] => .err
    | x :: r => if 127 < x.toNat then .err
      else if x = 93 then .ok (91 :: joinC acc ++ [93]) r
      else if nx = true ∧ x ≠ 44 then .err
      else match pElem lit k d (if nx = true then r else x :: r) with
        | .ok t r2 => if acc.length < 256 then pEls lit k d true (acc ++ [t]) r2 else .stuck
        | o => o := by rw [pEls]; rfl

set_option maxRecDepth 100000 in
set_option maxHeartbeats 4000000 in
theorem array_any (lit : Lit) (k : Nat) (HE : ∀ k', k' < k → ElemOK lit k') : ArrOK lit k := by
  intro w j A c D s d hdd h hns
  have HEH := Lib.hid HE
  clear HE
  have h' := h
  obtain ⟨i, hJ, hD⟩ := h'
  have c2 := hJ.c2
  have f2 := hJ.fz 2
  have hjl := hJ.lt
  have hd2 : d ≤ 20000 := hJ.dle
  have hmf : ∀ (fn : Fn) (first cap : Array Value) (w : World), (Instr.makeFunc fn first cap).run Tryz.prog w = .ok (.func fn first cap) w := fun _ _ _ _ => rfl
  clear hJ hD
  by_cases hdeep : 10000 < d + 1
  · have HE2 : Hid (arrOut lit k d s = .err) := by
      show _ = _
      unfold arrOut; rw [if_pos hdeep]
    have HA := Lib.hid (AS.start h (by omega))
    clear hns h
    go_enter_defers Tryz.func133, Tryz.ntmps133
    go_wp2_with (fail)
    refine (errorsNew_any _ _).mono ?_
    rintro e w1 ⟨rfl, rfl⟩
    go_wp2
    refine array_end (HA.out.alloc _) rfl rfl ?_
    intro W' _ _ hF hJ'
    exact NPost.err HE2.out ⟨_, _, rfl⟩ hF hJ'
  · have ho : Hid (arrOut lit k d s = pEls lit k (d + 1) false [] s) := by
      show _ = _
      unfold arrOut; rw [if_neg hdeep]
    obtain ⟨res, hres⟩ : ∃ res, res = arrOut lit k d s := ⟨_, rfl⟩
    rw [← hres] at hns ⊢
    have HRES : Hid (pEls lit k (d + 1) false [] s = res) := by show _ = _; rw [hres, ho.out]
    have HNS := Lib.hid hns
    have hd1 : d + 1 ≤ 10000 := by omega
    have HA := Lib.hid (AS.start h (by omega))
    have H0 := Lib.hid h
    clear hres ho hns h hdeep
    go_enter_defers Tryz.func133, Tryz.ntmps133
    go_wp2_with (fail)
    have HR0 : Hid (ARel w j A c D d [] s (.slice (some ⟨w.heap.size + 2, 0, none⟩) 0 0) ((((w.setCell ⟨j, 2, none⟩ (.int .i64 ((d : Int) + 1))).alloc (.cells #[.pointer (some ⟨j, 0, none⟩)] 201)).alloc (.cells #[.int .u8 0, .string ⟨#[]⟩, .slice none 0 0, .slice none 0 0] 206)).alloc (.cells #[] 206))) := by
      have hA := HA.out
      have hsz : (((w.setCell ⟨j, 2, none⟩ (.int .i64 ((d : Int) + 1))).alloc (.cells #[.pointer (some ⟨j, 0, none⟩)] 201)).alloc (.cells #[.int .u8 0, .string ⟨#[]⟩, .slice none 0 0, .slice none 0 0] 206)).heap.size = w.heap.size + 2 := by
        rw [World.size_alloc, World.size_alloc, World.size_setCell']
      refine ⟨hA.alloc _, ⟨by simp, .inr ⟨w.heap.size + 2, 0, #[], rfl, Nat.le_refl _, ?_, Nat.le_refl _, by decide, rfl, rfl⟩⟩, (fun x hx => by cases hx), ⟨_, _, rfl⟩⟩
      have := alloc_at (((w.setCell ⟨j, 2, none⟩ (.int .i64 ((d : Int) + 1))).alloc (.cells #[.pointer (some ⟨j, 0, none⟩)] 201)).alloc (.cells #[.int .u8 0, .string ⟨#[]⟩, .slice none 0 0, .slice none 0 0] 206)) (.cells #[] 206)
      rw [hsz] at this; exact this
    clear HA c2 f2
    go_loopg [4, 5] (k) (fun kq v4 v5 wr => ∃ L nx r, Hid (pEls lit kq (d + 1) nx (L.map (·.2)) r = res) ∧ v5 = .bool nx ∧ kq ≤ k ∧ ARel w j A c D d L r v4 wr)
    case atStart => exact ⟨[], false, s, HRES.out, rfl, Nat.le_refl _, HR0.out⟩
    case round =>
      obtain ⟨L, nx, r, HQ, rfl, hkq, hR⟩ := hrel
      clear HR0
      cases gk with
      | zero => exact absurd HQ.out.symm (by rw [pEls]; exact HNS.out)
      | succ k1 =>
      have HR := Lib.hid hR
      have hbx := hR.st.bx
      have HJ := Lib.hid hR.st.jr
      obtain ⟨g, cp, rfl⟩ := hR.nn
      have HQ2 : Hid (res = pEls lit (k1 + 1) (d + 1) nx (L.map (·.2)) r) := by show _ = _; exact HQ.out.symm
      clear HQ hR HRES
      by_cases hpk : ∃ x ys, r.dropWhile wsB = x :: ys ∧ x.toNat ≤ 127
      · obtain ⟨x, ys, hx, hx7⟩ := hpk
        have HX := Lib.hid hx
        have hws : wsB x = false := dropWhile_head hx
        clear hx
        have HQ3 : Hid (res = if x = 93 then .ok (91 :: joinC (L.map (·.2)) ++ [93]) ys
            else if nx = true ∧ x ≠ 44 then .err
            else match pElem lit k1 (d + 1) (if nx = true then ys else x :: ys) with
              | .ok t r2 => if (L.map (·.2)).length < 256 then pEls lit k1 (d + 1) true (L.map (·.2) ++ [t]) r2 else .stuck
              | o => o) := by
          show _ = _
          rw [HQ2.out, pEls_succ, HX.out]
          simp only
          rw [if_neg (by omega)]
        clear HQ2
        go_wp2_with (fail)
        refine (peek_ok HJ.out HX.out hx7).mono ?_
        rintro e w1 ⟨rfl, hf1, hJ1⟩
        have HA1 := Lib.hid (HR.out.st.keep hf1 hJ1)
        have hbx1 := HA1.out.bx
        by_cases h93 : x = 93
        · subst h93
          have HQ4 : Hid (res = .ok (91 :: joinC (L.map (·.2)) ++ [93]) ys) := by show _ = _; rw [HQ3.out, if_pos rfl]
          clear HQ3
          obtain ⟨i1, hJ1w, hD1⟩ := hJ1
          have c1 := hJ1w.c1
          have f1 := hJ1w.fz 1
          have hi1 : i1 + 1 ≤ D.length := by have := congrArg List.length hD1; simp at this; omega
          have hlen := hJ1w.len
          have hj1 := hJ1w.lt
          have HJX := Lib.hid (hJ1w.set1 (i1 + 1) hi1)
          have HDX := Lib.hid (drop_cons hD1).2
          obtain ⟨s0, s1, s2, s3, sf, sl⟩ := slot_cells HA1.out.slot
          have hfz0 := sf 0
          have hfz1 := sf 1
          have hfz2 := sf 2
          have hfz3 := sf 3
          clear sf hJ1w hD1
          have HFX := Lib.hid ((Fr.refl j w1).setCell (p := ⟨j, 1, none⟩) (Or.inl rfl) (.int .i64 ((i1 : Int) + 1)))
          have e1 : (((i1 + 1 : Nat) : Int)) = (i1 : Int) + 1 := by omega
          rw [e1] at HJX
          clear e1
          have HF1 := Lib.hid hf1
          clear hf1
          go_wp2
          refine array_end ((HA1.out.keep HFX.out ⟨i1 + 1, HJX.out, HDX.out⟩).set4 (.int .u8 1) (.string ⟨#[]⟩) (.slice (some ⟨g, 0, none⟩) L.length cp) (.slice none 0 0)) rfl rfl ?_
          intro W' hsz ho hF hJ'
          refine NPost.ok HQ4.out hF hJ' (HR.out.result ?_ ?_)
          · rw [hsz]; have := HF1.out.size; simp only [World.size_setCell'] at *; omega
          · intro k hk hkw
            rw [ho k (by omega), set4_other (by omega), HFX.out.block k (by have := HF1.out.size; omega) (by omega), HF1.out.block k hk (by omega)]
        · have b93 : ((x.toNat : Int) == 93) = false := u8_ne (n := 93) (by omega) h93
          have hxw : (x :: ys).dropWhile wsB = x :: ys := List.dropWhile_cons_of_neg (by simpa using hws)
          have HXW := Lib.hid hxw
          have HQ4 : Hid (res = if nx = true ∧ x ≠ 44 then .err
            else match pElem lit k1 (d + 1) (if nx = true then ys else x :: ys) with
              | .ok t r2 => if (L.map (·.2)).length < 256 then pEls lit k1 (d + 1) true (L.map (·.2) ++ [t]) r2 else .stuck
              | o => o) := by show _ = _; rw [HQ3.out, if_neg h93]
          clear HQ3 hxw
          have HJ1 := Lib.hid hJ1
          by_cases hbad : nx = true ∧ x ≠ 44
          · obtain ⟨rfl, h44⟩ := hbad
            have HE2 : Hid (res = .err) := by show _ = _; rw [HQ4.out, if_pos ⟨rfl, h44⟩]
            clear HQ4
            go_wp2_with (fail)
            refine (scanFor_err (x := 44) HJ1.out (fun r e => h44 (by rw [HXW.out] at e; injection e))).mono ?_
            rintro e w2 ⟨v, ⟨t, a, rfl⟩, rfl, hf2, r2, hJ2⟩
            have HA2 := Lib.hid (HA1.out.keep hf2 hJ2)
            obtain ⟨s0, s1, s2, s3, sf, sl⟩ := slot_cells HA2.out.slot
            have hfz0 := sf 0
            have hfz1 := sf 1
            have hfz2 := sf 2
            have hfz3 := sf 3
            clear sf
            go_wp2
            refine array_end (HA2.out.set4 (.int .u8 0) (.string ⟨#[]⟩) (.slice none 0 0) (.slice none 0 0)) rfl rfl ?_
            intro W' _ _ hF hJ'
            exact NPost.err HE2.out ⟨_, _, rfl⟩ hF hJ'
          · rw [if_neg hbad] at HQ4
            have hnx : (nx = false) ∨ (nx = true ∧ x = 44) := by
              cases nx with
              | false => exact Or.inl rfl
              | true => exact Or.inr ⟨rfl, by by_cases e : x = 44; exact e; exact absurd ⟨rfl, e⟩ hbad⟩
            clear hbad
            have HF1 := Lib.hid hf1
            clear hf1 hJ1
            rcases hnx with rfl | ⟨rfl, rfl⟩
            · go_wp2_with (fail)
              obtain ⟨S, HQ5, HJ2⟩ : ∃ S, Hid (res = match pElem lit k1 (d + 1) S with
                | .ok t r2 => if (L.map (·.2)).length < 256 then pEls lit k1 (d + 1) true (L.map (·.2) ++ [t]) r2 else .stuck
                | o => o) ∧ Hid (JR w1 j A c D S (d + 1)) := ⟨x :: ys, HQ4, HJ1⟩
              have HA2 := HA1
              have HF2 := HF1
              clear HQ4 HA1 HJ1 HF1
              cases ho : pElem lit k1 (d + 1) S with
              | stuck => exact absurd (HQ5.out.trans (by rw [ho])) HNS.out
              | err =>
                have HE2 : Hid (res = .err) := by show _ = _; rw [HQ5.out, ho]
                refine (HEH.out k1 (by omega) _ j A c D S (d + 1) (by omega) HJ2.out (by rw [ho]; exact fun h => by cases h)).mono ?_
                rintro e w3 hP
                rw [ho] at hP
                obtain ⟨⟨v, ⟨t, a, rfl⟩, rfl⟩, hf3, r3, hJ3⟩ := hP
                unfold zeroNode
                have HA3 := Lib.hid (HA2.out.keep hf3 hJ3)
                obtain ⟨s0, s1, s2, s3, sf, sl⟩ := slot_cells HA3.out.slot
                have hfz0 := sf 0
                have hfz1 := sf 1
                have hfz2 := sf 2
                have hfz3 := sf 3
                clear sf ho HQ5 hf3 hJ3
                go_wp2
                refine array_end ((HA3.out.set4 (.int .u8 0) (.string ⟨#[]⟩) (.slice none 0 0) (.slice none 0 0)).alloc _) rfl rfl ?_
                intro W' _ _ hF hJ'
                exact NPost.err HE2.out ⟨_, _, rfl⟩ hF hJ'
              | ok t r2 =>
                have HQ6 : Hid (res = if (L.map (·.2)).length < 256 then pEls lit k1 (d + 1) true (L.map (·.2) ++ [t]) r2 else .stuck) := by show _ = _; rw [HQ5.out, ho]
                by_cases hn : L.length < 256
                · have HQ7 : Hid (pEls lit k1 (d + 1) true ((L.map (·.2)) ++ [t]) r2 = res) := by show _ = _; rw [HQ6.out, if_pos (by simpa using hn)]
                  refine (HEH.out k1 (by omega) _ j A c D S (d + 1) (by omega) HJ2.out (by rw [ho]; exact fun h => by cases h)).mono ?_
                  rintro e w3 hP
                  rw [ho] at hP
                  obtain ⟨x0, x1, x2, x3, rfl, hf3, hJ3, hnd⟩ := hP
                  obtain ⟨kd, sx, a1, n1, c1, a2, n2, c2, rfl, rfl, rfl, rfl⟩ := hnd.shape
                  have HA3 := Lib.hid (HA2.out.keep hf3 hJ3)
                  have HND := Lib.hid hnd
                  have HJ3 := Lib.hid hJ3
                  have HF3 := Lib.hid (HF2.out.trans hf3)
                  have HL := Lib.hid HF2.out.size
                  have HOWN := Lib.hid (ownsRow_alloc (ownsRow_fr HR.out.own HF3.out (by omega)) (.cells #[.int .u8 kd, .string sx, .slice a1 n1 c1, .slice a2 n2 c2] 206))
                  have HSZ : Hid (w.heap.size + 2 ≤ (w3.alloc (.cells #[.int .u8 kd, .string sx, .slice a1 n1 c1, .slice a2 n2 c2] 206)).heap.size) := by
                    show _ ≤ _; rw [World.size_alloc]; have := HA3.out.size; omega
                  clear ho HQ5 HQ6 hf3 hJ3 hnd
                  go_wp2_with (fail)
                  refine (appendElement_any HOWN.out hn HND.out.one HSZ.out).mono ?_
                  rintro e w4 ⟨v', rfl, hown', hgrow, hat⟩
                  have HR4 := Lib.hid (HR.out.push HF3.out HJ3.out HL.out HND.out _ hown' hgrow hat)
                  clear hown' hgrow hat
                  go_wp2
                  go_roundg (k1)
                  case measure => omega
                  case rel => exact ⟨_, true, r2, by show _ = _; rw [List.map_append]; exact HQ7.out, rfl, by omega, HR4.out⟩
                · exact absurd (HQ6.out.trans (by rw [if_neg (by simpa using hn)])) HNS.out
            · go_wp2_with (fail)
              refine (scanFor_ok (x := 44) HJ1.out HXW.out (by decide)).mono ?_
              rintro e w2 ⟨rfl, hf2, hJ2⟩
              have HA2 := Lib.hid (HA1.out.keep hf2 hJ2)
              have hbx2 := HA2.out.bx
              obtain ⟨S, HQ5, HJ2⟩ : ∃ S, Hid (res = match pElem lit k1 (d + 1) S with
                | .ok t r2 => if (L.map (·.2)).length < 256 then pEls lit k1 (d + 1) true (L.map (·.2) ++ [t]) r2 else .stuck
                | o => o) ∧ Hid (JR w2 j A c D S (d + 1)) := ⟨ys, HQ4, hJ2⟩
              have HF2 := Lib.hid (HF1.out.trans hf2)
              clear HQ4 HA1 HJ1 HF1 hf2 hJ2
              go_wp2_with (fail)
              cases ho : pElem lit k1 (d + 1) S with
              | stuck => exact absurd (HQ5.out.trans (by rw [ho])) HNS.out
              | err =>
                have HE2 : Hid (res = .err) := by show _ = _; rw [HQ5.out, ho]
                refine (HEH.out k1 (by omega) _ j A c D S (d + 1) (by omega) HJ2.out (by rw [ho]; exact fun h => by cases h)).mono ?_
                rintro e w3 hP
                rw [ho] at hP
                obtain ⟨⟨v, ⟨t, a, rfl⟩, rfl⟩, hf3, r3, hJ3⟩ := hP
                unfold zeroNode
                have HA3 := Lib.hid (HA2.out.keep hf3 hJ3)
                obtain ⟨s0, s1, s2, s3, sf, sl⟩ := slot_cells HA3.out.slot
                have hfz0 := sf 0
                have hfz1 := sf 1
                have hfz2 := sf 2
                have hfz3 := sf 3
                clear sf ho HQ5 hf3 hJ3
                go_wp2
                refine array_end ((HA3.out.set4 (.int .u8 0) (.string ⟨#[]⟩) (.slice none 0 0) (.slice none 0 0)).alloc _) rfl rfl ?_
                intro W' _ _ hF hJ'
                exact NPost.err HE2.out ⟨_, _, rfl⟩ hF hJ'
              | ok t r2 =>
                have HQ6 : Hid (res = if (L.map (·.2)).length < 256 then pEls lit k1 (d + 1) true (L.map (·.2) ++ [t]) r2 else .stuck) := by show _ = _; rw [HQ5.out, ho]
                by_cases hn : L.length < 256
                · have HQ7 : Hid (pEls lit k1 (d + 1) true ((L.map (·.2)) ++ [t]) r2 = res) := by show _ = _; rw [HQ6.out, if_pos (by simpa using hn)]
                  refine (HEH.out k1 (by omega) _ j A c D S (d + 1) (by omega) HJ2.out (by rw [ho]; exact fun h => by cases h)).mono ?_
                  rintro e w3 hP
                  rw [ho] at hP
                  obtain ⟨x0, x1, x2, x3, rfl, hf3, hJ3, hnd⟩ := hP
                  obtain ⟨kd, sx, a1, n1, c1, a2, n2, c2, rfl, rfl, rfl, rfl⟩ := hnd.shape
                  have HA3 := Lib.hid (HA2.out.keep hf3 hJ3)
                  have HND := Lib.hid hnd
                  have HJ3 := Lib.hid hJ3
                  have HF3 := Lib.hid (HF2.out.trans hf3)
                  have HL := Lib.hid HF2.out.size
                  have HOWN := Lib.hid (ownsRow_alloc (ownsRow_fr HR.out.own HF3.out (by omega)) (.cells #[.int .u8 kd, .string sx, .slice a1 n1 c1, .slice a2 n2 c2] 206))
                  have HSZ : Hid (w.heap.size + 2 ≤ (w3.alloc (.cells #[.int .u8 kd, .string sx, .slice a1 n1 c1, .slice a2 n2 c2] 206)).heap.size) := by
                    show _ ≤ _; rw [World.size_alloc]; have := HA3.out.size; omega
                  clear ho HQ5 HQ6 hf3 hJ3 hnd
                  go_wp2_with (fail)
                  refine (appendElement_any HOWN.out hn HND.out.one HSZ.out).mono ?_
                  rintro e w4 ⟨v', rfl, hown', hgrow, hat⟩
                  have HR4 := Lib.hid (HR.out.push HF3.out HJ3.out HL.out HND.out _ hown' hgrow hat)
                  clear hown' hgrow hat
                  go_wp2
                  go_roundg (k1)
                  case measure => omega
                  case rel => exact ⟨_, true, r2, by show _ = _; rw [List.map_append]; exact HQ7.out, rfl, by omega, HR4.out⟩
                · exact absurd (HQ6.out.trans (by rw [if_neg (by simpa using hn)])) HNS.out
      · have HS := Lib.hid (show ∀ x ys, r.dropWhile wsB = x :: ys → 127 < x.toNat from fun x ys e => by
          rcases Nat.lt_or_ge 127 x.toNat with h | h
          · exact h
          · exact absurd ⟨x, ys, e, h⟩ hpk)
        clear hpk
        have HE2 : Hid (res = .err) := by
          show _ = _
          rw [HQ2.out, pEls_succ]
          cases hd' : r.dropWhile wsB with
          | nil => rfl
          | cons x ys => simp only; rw [if_pos (HS.out x ys hd')]
        go_wp2_with (fail)
        refine (peek_err HJ.out HS.out).mono ?_
        rintro e w1 ⟨v, ⟨t, a, rfl⟩, rfl, hf1, r1, hJ1⟩
        have HA1 := Lib.hid (HR.out.st.keep hf1 hJ1)
        obtain ⟨s0, s1, s2, s3, sf, sl⟩ := slot_cells HA1.out.slot
        have hfz0 := sf 0
        have hfz1 := sf 1
        have hfz2 := sf 2
        have hfz3 := sf 3
        clear sf
        go_wp2
        refine array_end (HA1.out.set4 (.int .u8 0) (.string ⟨#[]⟩) (.slice none 0 0) (.slice none 0 0)) rfl rfl ?_
        intro W' _ _ hF hJ'
        exact NPost.err HE2.out ⟨_, _, rfl⟩ hF hJ'
end Go.Proofs.YtjganhmbjffjfaaGreatDoor
