/- The reader's parseObject: the state of its loop. -/
import Derived.Test.YtngifhngangpeaaGreatDoorN5
import Derived.Test.YtngifhngangpeaaGreatDoorK2
import Derived.Test.YtngifhngangpeaaGreatDoorK3
import Derived.Test.YtngifhngangpeaaGreatDoorJ7
open Go Go.RowKit
namespace Go.Proofs.YtngifhngangpeaaGreatDoor

/-- A member in the making. -/
structure OMem where
  m : Mem
  key : List Nat
  g : Nat
  c : Nat
structure OMOK (w : World) (v : Value) (W : World) (x : OMem) : Prop where
  hsk : x.m.sk = .slice (some ⟨x.g, 0, none⟩) x.key.length x.c
  hkey : x.key = units x.m.name
  hk : KeyAt W x.key x.g x.c
  gP : w.heap.size + 2 ≤ x.g ∧ v.ownBlock ≠ some x.g ∧ x.g < W.heap.size
  nd : ND (fun k => w.heap.size + 2 ≤ k ∧ v.ownBlock ≠ some k) W x.m.v x.m.t
  name : NameOK x.m.name
  pP : w.heap.size + 2 ≤ x.m.p ∧ v.ownBlock ≠ some x.m.p ∧ x.m.p < W.heap.size
  pc : ∀ (i : Nat) (u : Value), x.m.v[i]? = some u → W.cell? ⟨x.m.p, i, none⟩ = some u
theorem OMOK.move {w W W' : World} {v v' : Value} {x : OMem} (h : OMOK w v W x) (hs : W.heap.size ≤ W'.heap.size) (hk : ∀ k, k < W.heap.size → w.heap.size + 2 ≤ k → v.ownBlock ≠ some k → W'.heap[k]? = W.heap[k]?)
    (hv : ∀ k, k < W.heap.size → v.ownBlock ≠ some k → v'.ownBlock ≠ some k) : OMOK w v' W' x := by
  refine ⟨h.hsk, h.hkey, h.hk.move (fun hl => hk _ hl h.gP.1 h.gP.2.1), ⟨h.gP.1, hv _ h.gP.2.2 h.gP.2.1, by have := h.gP.2.2; omega⟩, ?_, h.name, ⟨h.pP.1, hv _ h.pP.2.2 h.pP.2.1, by have := h.pP.2.2; omega⟩, fun i u hu => ?_⟩
  · have h2 := h.nd.mono (Q := fun k => (w.heap.size + 2 ≤ k ∧ v'.ownBlock ≠ some k) ∧ v.ownBlock ≠ some k) (fun k hkl hp => ⟨⟨hp.1, hv k hkl hp.2⟩, hp.2⟩)
    exact (h2.frame hs (fun k hkl hp => hk k hkl hp.1.1 hp.2)).mono (fun k _ hp => hp.1)
  · rw [World.cell?_of_block (hk _ h.pP.2.2 h.pP.1 h.pP.2.1)]; exact h.pc i u hu
def OMem.nt (x : OMem) : NT := (x.m.name.data.toList, x.m.t)
/-- The loop's relation. -/
structure ORel (w : World) (j : Nat) (A : Option Addr) (c : Nat) (D : List UInt8) (d : Nat) (L : List OMem) (r : List UInt8) (v : Value) (W : World) : Prop where
  st : AS w j A c D d r (.int .u8 0) (.string ⟨#[]⟩) (.slice none 0 0) (.slice none 0 0) W
  own : W.ownsRow (w.heap.size + 2) 156 3 v L.length (L.flatMap fun x => x.m.cells)
  ok : ∀ x ∈ L, OMOK w v W x
  nn : ∃ g cp, v = .slice (some ⟨g, 0, none⟩) L.length cp
theorem ORel.push {w wr W7 w8 : World} {j : Nat} {A : Option Addr} {c : Nat} {D : List UInt8} {d : Nat} {L : List OMem} {r r2 : List UInt8} {v v' : Value} (h : ORel w j A c D d L r v wr)
    (hf : Fr j wr W7) (hJ : JR W7 j A c D r2 (d + 1)) (x : OMem) (hsk : x.m.sk = .slice (some ⟨x.g, 0, none⟩) x.key.length x.c) (hkey : x.key = units x.m.name) (hk : KeyAt W7 x.key x.g x.c) (hg : wr.heap.size ≤ x.g ∧ x.g < W7.heap.size)
    (hnd : ND (fun k => wr.heap.size ≤ k) W7 x.m.v x.m.t) (hname : NameOK x.m.name) (hp : wr.heap.size ≤ x.m.p ∧ x.m.p < W7.heap.size) (hpc : ∀ (i : Nat) (u : Value), x.m.v[i]? = some u → W7.cell? ⟨x.m.p, i, none⟩ = some u)
    (hown' : w8.ownsRow (w.heap.size + 2) 156 3 v' (L.length + 1) (L.flatMap (fun x => x.m.cells) ++ x.m.cells)) (hgr : W7.grownBy w8 v.ownBlock)
    (hat : v'.ownBlock = v.ownBlock ∨ ∃ g, v'.ownBlock = some g ∧ W7.heap.size ≤ g) : ORel w j A c D d (L ++ [x]) r2 v' w8 := by
  have hol := ownsRow_lt h.own
  have hsz := h.st.size
  have hfs := hf.size
  have hjl := h.st.lt
  have hb : Below (w.heap.size + 2) W7 w8 := ⟨hgr.os, hgr.tape, hgr.output, hgr.size, fun k hk => hgr.block k (by omega) (fun e => by have := (hol k e.symm).1; omega)⟩
  have hat' : ∀ k, k < W7.heap.size → v.ownBlock ≠ some k → v'.ownBlock ≠ some k := by
    intro k hk hv e
    rcases hat with h1 | ⟨g, h1, h2⟩
    · exact hv (by rw [← h1]; exact e)
    · rw [h1] at e; cases e; omega
  have hkeep : ∀ k, k < W7.heap.size → v.ownBlock ≠ some k → w8.heap[k]? = W7.heap[k]? := fun k hk hv => hgr.block k hk (fun e => hv e.symm)
  have hnew : ∀ k, wr.heap.size ≤ k → v.ownBlock ≠ some k := fun k hk e => by have := (hol k e).2; omega
  refine ⟨(h.st.keep hf hJ).below (Nat.le_refl _) hb, ?_, ?_, ?_⟩
  · rw [List.length_append, List.flatMap_append]; simpa using hown'
  · intro y hy
    rcases List.mem_append.1 hy with hy | hy
    · have h1 : OMOK w v W7 y := (h.ok y hy).move hfs (fun k hk hk2 _ => hf.block k hk (by omega)) (fun k _ h => h)
      exact h1.move hgr.size (fun k hk _ hv => hkeep k hk hv) hat'
    · rw [List.mem_singleton.1 hy]
      have h1 : OMOK w v W7 x := ⟨hsk, hkey, hk, ⟨by omega, hnew _ hg.1, hg.2⟩, hnd.mono (fun k _ hp => ⟨by omega, hnew k hp⟩), hname, ⟨by omega, hnew _ hp.1, hp.2⟩, hpc⟩
      exact h1.move hgr.size (fun k hk _ hv => hkeep k hk hv) hat'
  · rcases hown'.2 with ⟨_, h0⟩ | ⟨g, cap, cur, rfl, _⟩
    · omega
    · exact ⟨g, cap, by simp⟩
theorem pMems_succ (lit : Lit) (k d : Nat) (nx : Bool) (acc : List NT) (s : List UInt8) : pMems lit (k + 1) d nx acc s = match s.dropWhile wsB with
    | [] => .err
    | x :: r => if 127 < x.toNat then .err
      else if x = 125 then finN acc r
      else if nx = true ∧ x ≠ 44 then .err
      else match (if nx = true then r else x :: r).dropWhile wsB with
        | [] => .err
        | y :: r1 => if y ≠ 34 then .err else match pStr (r1.length + 1) [] r1 with
          | none => .err
          | some (name, r2) => match r2.dropWhile wsB with
            | [] => .err
            | z :: r3 => if z ≠ 58 then .err else match pElem lit k d r3 with
              | .ok t r4 => if nameB name = true ∧ acc.length < 256 then pMems lit k d true (acc ++ [(name, t)]) r4 else .stuck
              | o => o := by rw [pMems]; rfl
def SortO (w : World) (g cp : Nat) (L : List OMem) (W : World) (e : Ending) (w' : World) : Prop :=
  e = .returned (.tuple #[]) ∧ ∃ L2 : List OMem, L2.Perm L ∧ Asc (L2.map OMem.nt) ∧ (∀ (i : Nat) (u : Value), (L2.flatMap fun x => x.m.cells)[i]? = some u → w'.cell? ⟨g, i, none⟩ = some u) ∧ FrR W.heap.size g W w' ∧
    ∀ x ∈ L2, OMOK w (.slice (some ⟨g, 0, none⟩) L.length cp) w' x
def MK.toO {W : World} {g : Nat} (y : MK W g) : OMem := ⟨y.m, y.key, y.g, y.c⟩
theorem keyN_nt {x : OMem} : keyN x.nt = units x.m.name := rfl
theorem sort_omem {w W : World} {g cp : Nat} {L : List OMem} (hown : W.ownsRow (w.heap.size + 2) 156 3 (.slice (some ⟨g, 0, none⟩) L.length cp) L.length (L.flatMap fun x => x.m.cells))
    (hok : ∀ x ∈ L, OMOK w (.slice (some ⟨g, 0, none⟩) L.length cp) W x) (hlen : L.length ≤ 4294967296) :
    Calls Tryz.prog 129 #[.slice (some ⟨g, 0, none⟩) L.length cp, .func (.func 130) #[] #[]] W (SortO w g cp L W) := by
  obtain ⟨LM, hLM⟩ : ∃ LM : List (MK W g), LM.map MK.toO = L :=
    ⟨L.attach.map fun x => MK.mk x.1.m x.1.key x.1.g x.1.c (hok _ x.2).hsk (hok _ x.2).hk (fun e => (hok _ x.2).gP.2.1 (by rw [e]; rfl)), by
      rw [List.map_map]
      exact List.attach_map_subtype_val L⟩
  have hl : LM.length = L.length := by rw [← hLM, List.length_map]
  have hc : LM.flatMap MK.cells = L.flatMap fun x => x.m.cells := by rw [← hLM, List.flatMap_map]; rfl
  have hcon := sortMem_any (R := w.heap.size + 2) (cap := cp) LM (by rw [hl, hc]; exact hown) (by omega)
  rw [hl] at hcon
  refine hcon.mono ?_
  rintro e w' ⟨rfl, L', hp, ha, hrow, hf⟩
  have hp2 : (L'.map MK.toO).Perm L := by rw [← hLM]; exact hp.map _
  refine ⟨rfl, L'.map MK.toO, hp2, ?_, ?_, hf, ?_⟩
  · have hk : ∀ y ∈ L', keyN (MK.toO y).nt = y.key := by
      intro y hy
      rw [keyN_nt]
      exact ((hok _ (hp2.mem_iff.1 (List.mem_map_of_mem hy))).hkey).symm
    unfold Asc
    rw [List.map_map, List.pairwise_map]
    refine ha.imp_of_mem fun {x y} hx hy h => ?_
    show ¬ cmpK (keyN (MK.toO y).nt) (keyN (MK.toO x).nt) < 0
    rw [hk y hy, hk x hx]; exact h
  · intro i u hu
    rw [List.flatMap_map] at hu
    exact hrow i u hu
  · intro x hx
    exact (hok x (hp2.mem_iff.1 hx)).move hf.size (fun k hk _ hv => hf.block k hk (fun e => hv (by rw [e]; rfl))) (fun _ _ h => h)
theorem obj_result {w w2 W' : World} {g cp n : Nat} {v : Value} {L2 : List OMem} (hrow : ∀ (i : Nat) (u : Value), (L2.flatMap fun x => x.m.cells)[i]? = some u → w2.cell? ⟨g, i, none⟩ = some u) (hok : ∀ x ∈ L2, OMOK w v w2 x) (hl : L2.length = n)
    (hg : w.heap.size + 2 ≤ g ∧ g < w2.heap.size) (hcp : n ≤ cp ∧ cp ≤ maxLen) (hs : w2.heap.size ≤ W'.heap.size) (hk : ∀ k, k < w2.heap.size → w.heap.size + 2 ≤ k → W'.heap[k]? = w2.heap[k]?) :
    ND (fun k => w.heap.size ≤ k) W' [.int .u8 2, .string ⟨#[]⟩, .slice none 0 0, .slice (some ⟨g, 0, none⟩) n cp] (123 :: joinC ((L2.map OMem.nt).map textN) ++ [125]) := by
  have e : (L2.map OMem.nt).map textN = (L2.map OMem.m).map Mem.text := by rw [List.map_map, List.map_map]; rfl
  rw [e]
  have hm : ∀ x ∈ L2.map OMem.m, ∃ y ∈ L2, y.m = x := fun x hx => by obtain ⟨y, hy, he⟩ := List.mem_map.1 hx; exact ⟨y, hy, he⟩
  refine .obj g n cp (L2.map OMem.m) (by omega) (by omega) (by rw [List.length_map]; exact hl) hcp.1 hcp.2 ?_ ?_ ?_ ?_ ?_
  · intro x hx
    obtain ⟨y, hy, rfl⟩ := hm x hx
    exact (((hok y hy).nd.mono (Q := fun k => w.heap.size + 2 ≤ k) (fun k _ hp => hp.1)).frame hs (fun k hkl hp => hk k hkl hp)).mono (fun k _ hp => by omega)
  · intro x hx
    obtain ⟨y, hy, rfl⟩ := hm x hx
    exact (hok y hy).name
  · intro x hx
    obtain ⟨y, hy, rfl⟩ := hm x hx
    have := (hok y hy).pP
    exact ⟨by omega, by omega⟩
  · intro x hx i u hu
    obtain ⟨y, hy, rfl⟩ := hm x hx
    have := (hok y hy).pP
    rw [World.cell?_of_block (hk _ this.2.2 this.1)]
    exact (hok y hy).pc i u hu
  · intro i u hu
    rw [World.cell?_of_block (hk g hg.2 hg.1)]
    refine hrow i u ?_
    rw [← hu, List.flatMap_map]
/-- Neighbours with one key: a double. -/
theorem dupN_of : ∀ (l : List NT) (i : Nat) (x y : NT), l[i]? = some x → l[i + 1]? = some y → cmpK (keyN x) (keyN y) = 0 → dupN l = true
  | [], i, x, y, h, _, _ => by cases h
  | [a], i, x, y, _, h, _ => by simp at h
  | a :: b :: l, 0, x, y, h1, h2, h3 => by
    simp at h1 h2; subst h1 h2
    unfold dupN; simp [h3]
  | a :: b :: l, i + 1, x, y, h1, h2, h3 => by
    unfold dupN
    rw [dupN_of (b :: l) i x y h1 h2 h3]; simp
theorem dupN_none : ∀ (l : List NT), (∀ i x y, l[i]? = some x → l[i + 1]? = some y → cmpK (keyN x) (keyN y) ≠ 0) → dupN l = false
  | [], _ => rfl
  | [a], _ => rfl
  | a :: b :: l, h => by
    unfold dupN
    rw [dupN_none (b :: l) (fun i x y h1 h2 => h (i + 1) x y h1 h2)]
    have := h 0 a b rfl rfl
    simp [this]
end Go.Proofs.YtngifhngangpeaaGreatDoor
