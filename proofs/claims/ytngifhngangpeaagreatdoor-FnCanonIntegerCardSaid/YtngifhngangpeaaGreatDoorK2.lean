/- slices.SortFunc over an object's members. -/
import Derived.Test.YtngifhngangpeaaGreatDoorK1
import Derived.Test.YtngifhngangpeaaGreatDoorN2
import Derived.Test.YtngifhngangpeaaGreatDoorN3
import Derived.Test.YtngifhngangpeaaGreatDoorB1
import Derived.Test.YtngifhngangpeaaGreatDoorShelg
open Go Go.RowKit
namespace Go.Proofs.YtngifhngangpeaaGreatDoor
open Go.Lib Go.Sort in
theorem block_sortWorldK {α : Type} [Inhabited α] (enc : α → List Value) (k : Nat) (w : World) (blk off n : Nat) (dk : Array α) (os : Array Obj) : FrR w.heap.size blk w (sortWorldK enc k w blk off n dk os) := by
  refine ⟨rfl, rfl, rfl, ?_, fun i hi hb => ?_⟩
  · simp [sortWorldK, putRowK, putRow, grow, mapBlock, Sort.ahead]
  · simp only [sortWorldK, putRowK, putRow, grow, mapBlock, Sort.ahead]
    rw [Array.getElem?_append_left (by simpa using hi)]
    rw [Array.getElem?_modify]
    rw [if_neg (fun e => hb e.symm)]
theorem flatMap_get {α : Type} (f : α → List Value) (k : Nat) (hk : 0 < k) (hf : ∀ x, (f x).length = k) : ∀ (L : List α) (j : Nat), (L.flatMap f)[j]? = (L[j / k]?).bind fun x => (f x)[j % k]?
  | [], j => by simp
  | x :: L, j => by
    rw [List.flatMap_cons]
    rcases Nat.lt_or_ge j k with h | h
    · rw [List.getElem?_append_left (by rw [hf]; exact h), Nat.div_eq_of_lt h, Nat.mod_eq_of_lt h]; rfl
    · rw [List.getElem?_append_right (by rw [hf]; exact h), hf, flatMap_get f k hk hf L (j - k)]
      have h1 : j / k = (j - k) / k + 1 := by rw [Nat.div_eq_sub_div hk h]
      have h2 : j % k = (j - k) % k := by rw [Nat.mod_eq_sub_mod h]
      rw [h1, h2]; rfl
/-- A member, its key as it lies in memory. -/
structure MK (w : World) (blk : Nat) where
  m : Mem
  key : List Nat
  g : Nat
  c : Nat
  hsk : m.sk = .slice (some ⟨g, 0, none⟩) key.length c
  hk : KeyAt w key g c
  hg : g ≠ blk
def MK.cells {w : World} {blk : Nat} (x : MK w blk) : List Value := x.m.cells
def MK.cmp {w : World} {blk : Nat} (x y : MK w blk) : Int := cmpK x.key y.key
theorem KeyAt.move {w w' : World} {a : List Nat} {g c : Nat} (h : KeyAt w a g c) (hc : g < w.heap.size → w'.heap[g]? = w.heap[g]?) : KeyAt w' a g c := by
  refine ⟨fun i u hu => ?_, h.2⟩
  have h1 := h.1 i u hu
  rw [World.cell?_of_block (hc (World.lt_of_cell h1))]; exact h1
open Go.Lib Go.Sort in
theorem swo_key {w : World} {blk : Nat} : SWO (ltOf (MK.cmp (w := w) (blk := blk))) where
  irrefl x := by simp [ltOf, MK.cmp, cmpK_self]
  trans x y z h1 h2 := decide_eq_true (cmpK_trans x.key y.key z.key (of_decide_eq_true h1) (of_decide_eq_true h2))
  ntrans x y z h1 h2 := decide_eq_false (cmpK_le_trans z.key y.key x.key (of_decide_eq_false h2) (of_decide_eq_false h1))
set_option maxRecDepth 100000 in
set_option maxHeartbeats 1000000 in
open Go.Lib Go.Sort in
theorem closure_any (x0 x2 y0 y2 : Value) (a b : List Nat) (ga ca gb cb : Nat) (W : World) (ha : KeyAt W a ga ca) (hb : KeyAt W b gb cb) :
    Calls Tryz.prog 130 #[.agg #[x0, .slice (some ⟨ga, 0, none⟩) a.length ca, x2], .agg #[y0, .slice (some ⟨gb, 0, none⟩) b.length cb, y2]] W fun e w' => e = .returned (.int .i64 (cmpK a b)) ∧ ∃ q os', w' = grow (W.drewN q) os' := by
  have HA := Lib.hid (ha.move (w' := (W.alloc (.cells #[x0, .slice (some ⟨ga, 0, none⟩) a.length ca, x2] 156)).alloc (.cells #[y0, .slice (some ⟨gb, 0, none⟩) b.length cb, y2] 156)) (fun h => by rw [Below.heap_alloc _ _ _ (by rw [World.size_alloc]; omega), Below.heap_alloc _ _ _ h]))
  have HB := Lib.hid (hb.move (w' := (W.alloc (.cells #[x0, .slice (some ⟨ga, 0, none⟩) a.length ca, x2] 156)).alloc (.cells #[y0, .slice (some ⟨gb, 0, none⟩) b.length cb, y2] 156)) (fun h => by rw [Below.heap_alloc _ _ _ (by rw [World.size_alloc]; omega), Below.heap_alloc _ _ _ h]))
  clear ha hb
  go_enter Tryz.func130, Tryz.ntmps130
  go_wp2_with (fail)
  refine (cmpKeys_any a b ga ca gb cb _ HA.out HB.out).mono ?_
  rintro e w' ⟨rfl, n, rfl⟩
  go_wp2_with (fail)
  go_ret
  exact ⟨rfl, n, _, by rw [alloc_eq_grow, alloc_eq_grow, grow_grow]; rfl⟩

def SortP (w : World) (blk : Nat) (L : List (MK w blk)) (e : Ending) (w' : World) : Prop :=
  e = .returned (.tuple #[]) ∧ ∃ L' : List (MK w blk), L'.Perm L ∧ (L'.Pairwise fun x y => ¬ cmpK y.key x.key < 0) ∧ (∀ (j : Nat) (u : Value), (L'.flatMap MK.cells)[j]? = some u → w'.cell? ⟨blk, j, none⟩ = some u) ∧ FrR w.heap.size blk w w'
theorem MK.len {w : World} {blk : Nat} (x : MK w blk) : x.cells.length = 3 := rfl
theorem MK.one {w : World} {blk : Nat} (x : MK w blk) : ∀ v ∈ x.cells, v.oneCell' = true := by
  intro v hv
  simp only [MK.cells, Mem.cells, x.hsk, List.mem_cons, List.not_mem_nil, or_false] at hv
  rcases hv with rfl | rfl | rfl <;> rfl
set_option maxRecDepth 100000 in
set_option maxHeartbeats 1000000 in
open Go.Lib Go.Sort in
theorem sortMem_any {R : Nat} {w : World} {blk cap : Nat} (L : List (MK w blk)) (hown : w.ownsRow R 156 3 (.slice (some ⟨blk, 0, none⟩) L.length cap) L.length (L.flatMap MK.cells)) (hlen : L.length ≤ 4294967296) :
    Calls Tryz.prog 129 #[.slice (some ⟨blk, 0, none⟩) L.length cap, .func (.func 130) #[] #[]] w (SortP w blk L) := by
  have hblk : blk < w.heap.size := by
    rcases hown.2 with ⟨e, _⟩ | ⟨g, cap', cur, e, _, hg, _⟩
    · cases e
    · cases e
      rcases Nat.lt_or_ge blk w.heap.size with h | h
      · exact h
      · rw [Array.getElem?_eq_none h] at hg; cases hg
  by_cases hL : L = []
  · subst hL
    refine (AnyF.slices_SortFunc_none { Tryz.sortMem with } (some ⟨blk, 0, none⟩) cap (.func (.func 130) #[] #[]) w).mono ?_
    rintro e w' ⟨rfl, rfl⟩
    exact ⟨rfl, [], List.Perm.refl _, List.Pairwise.nil, fun j u h => (by cases h), FrR.refl _ _ _⟩
  · haveI : Inhabited (MK w blk) := ⟨L.head hL⟩
    have eg : ∀ args w, (callFunc 130 args).run Tryz.prog w = .ok (.enter 130 args) w := enters_of Tryz.func130 (by kernel_rfl) rfl
    have hfz : ∀ j, w.frozen? ⟨blk, j, none⟩ = false := by
      rcases hown.2 with ⟨e, _⟩ | ⟨g, cap', cur, e, _, hg, _⟩
      · cases e
      · cases e; intro j; simp [World.frozen?, hg]
    have hH : HoldsK MK.cells 3 w blk 0 L.toArray := by
      intro j hj
      rw [size_flatK] at hj
      simp only [List.size_toArray] at hj
      have hd : j / 3 < L.length := by omega
      have h1 := hown.cells (g := blk) rfl j (L[j / 3].cells[j % 3]'(by rw [MK.len]; omega)) (by
        rw [flatMap_get _ 3 (by omega) MK.len, List.getElem?_eq_getElem hd]
        exact List.getElem?_eq_getElem _)
      rw [addrAdd] at h1
      refine ⟨?_, hfz _⟩
      rw [h1, get_flatK _ _ _ _ (by simpa using hj)]
      have e1 : L.toArray[j / 3]! = L[j / 3] := by simp [hd]
      have e2 : j % 3 < (L[j / 3].cells).length := by rw [MK.len]; omega
      rw [e1, List.getElem!_eq_getElem?_getD, List.getElem?_eq_getElem e2]
      rfl
    have hcmp : CmpLays (α := MK w blk) Tryz.prog 130 #[] MK.cells 3 MK.cmp blk 0 L.toArray.size w := by
      intro m os dk hdk x y
      have hb := block_sortWorldK (α := MK w blk) MK.cells 3 w blk 0 m dk os
      have h1 := closure_any (.string x.m.name) (.pointer (some ⟨x.m.p, 0, none⟩)) (.string y.m.name) (.pointer (some ⟨y.m.p, 0, none⟩)) x.key y.key x.g x.c y.g y.c _ (x.hk.move (fun h => hb.block _ h x.hg)) (y.hk.move (fun h => hb.block _ h y.hg))
      have e1 : x.cells.toArray = #[.string x.m.name, .slice (some ⟨x.g, 0, none⟩) x.key.length x.c, .pointer (some ⟨x.m.p, 0, none⟩)] := by simp [MK.cells, Mem.cells, x.hsk]
      have e2 : y.cells.toArray = #[.string y.m.name, .slice (some ⟨y.g, 0, none⟩) y.key.length y.c, .pointer (some ⟨y.m.p, 0, none⟩)] := by simp [MK.cells, Mem.cells, y.hsk]
      rw [e1, e2]
      exact h1
    have hcon := AnyQ.slices_SortFunc (α := MK w blk) Tryz.sortMem 3 Tryz.isAgg156 Tryz.sizeOf156 MK.cells MK.len MK.one MK.cmp swo_key 130 #[] blk 0 cap L.toArray w eg hcmp hH hblk (by simp; omega)
    refine hcon.mono ?_
    rintro e w' ⟨rfl, d', n, os, hp, hs, rfl⟩
    have hsz : d'.size = L.length := by have := hp.1; simpa using this
    refine ⟨rfl, d'.toList, ?_, ?_, ?_, block_sortWorldK _ _ _ _ _ _ _ _⟩
    · have h3 := hp.2.2
      rw [Array.extract_eq_self_of_le (by rw [hp.1]; exact Nat.le_refl _), Array.extract_eq_self_of_le (Nat.le_refl _)] at h3
      exact h3
    · rw [List.pairwise_iff_getElem]
      intro i j hi hj hij
      have h3 := hs i j (Nat.zero_le _) hij (by simpa [hsz] using hj)
      have hi' : i < d'.size := by simpa using hi
      have hj' : j < d'.size := by simpa using hj
      rw [getElem!_pos d' j hj', getElem!_pos d' i hi'] at h3
      exact of_decide_eq_false h3
    · intro j u hu
      have hh := holdsK_sortWorldK (α := MK w blk) MK.cells 3 w blk 0 n L.toArray d' os hblk hH (by simpa using hsz)
      rw [flatMap_get _ 3 (by omega) MK.len] at hu
      cases hd : d'.toList[j / 3]? with
      | none => rw [hd] at hu; cases hu
      | some x =>
        rw [hd] at hu
        have hd2 : j / 3 < d'.size := by have := (List.getElem?_eq_some_iff.1 hd).1; simpa using this
        have hj : j < d'.size * 3 := by omega
        have h1 := (hh j (by rw [size_flatK]; exact hj)).1
        rw [get_flatK _ _ _ _ hj, Nat.zero_add, getElem!_pos d' _ hd2] at h1
        have e3 : d'[j / 3] = x := by
          have := (List.getElem?_eq_some_iff.1 hd).2
          simpa using this
        rw [e3] at h1
        have e2 : j % 3 < x.cells.length := by rw [MK.len]; omega
        have hu' : x.cells[j % 3]? = some u := hu
        rw [h1, List.getElem!_eq_getElem?_getD, hu']
        rfl
end Go.Proofs.YtngifhngangpeaaGreatDoor
