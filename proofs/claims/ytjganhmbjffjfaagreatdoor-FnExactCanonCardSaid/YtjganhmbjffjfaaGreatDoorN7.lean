/- The reader's parseObject: the state of its loop. The reader's parseObject. -/
import Derived.Test.YtjganhmbjffjfaaGreatDoorN5
import Derived.Test.YtjganhmbjffjfaaGreatDoorK3
import Derived.Test.YtjganhmbjffjfaaGreatDoorJ7
open Go Go.RowKit
namespace Go.Proofs.YtjganhmbjffjfaaGreatDoor

/-- A member in the making. -/
structure OMem where
  m : Mem
  key : List Nat
  g : Nat
  c : Nat
structure OMOK (w : World) (v : Value) (W : World) (x : OMem) : Prop where
  hsk : x.m.sk = .slice (some ⟨x.g, 0, none⟩) x.key.length x.c
  hkey : x.key = units x.m.name
  hk : KeyAt W x.key x.g x.c
  gP : w.heap.size + 2 ≤ x.g ∧ v.ownBlock ≠ some x.g ∧ x.g < W.heap.size
  nd : ND (fun k => w.heap.size + 2 ≤ k ∧ v.ownBlock ≠ some k) W x.m.v x.m.t
  name : NameOK x.m.name
  pP : w.heap.size + 2 ≤ x.m.p ∧ v.ownBlock ≠ some x.m.p ∧ x.m.p < W.heap.size
  pc : ∀ (i : Nat) (u : Value), x.m.v[i]? = some u → W.cell? ⟨x.m.p, i, none⟩ = some u
theorem OMOK.move {w W W' : World} {v v' : Value} {x : OMem} (h : OMOK w v W x) (hs : W.heap.size ≤ W'.heap.size) (hk : ∀ k, k < W.heap.size → w.heap.size + 2 ≤ k → v.ownBlock ≠ some k → W'.heap[k]? = W.heap[k]?)
    (hv : ∀ k, k < W.heap.size → v.ownBlock ≠ some k → v'.ownBlock ≠ some k) : OMOK w v' W' x := by
  refine ⟨h.hsk, h.hkey, h.hk.move (fun hl => hk _ hl h.gP.1 h.gP.2.1), ⟨h.gP.1, hv _ h.gP.2.2 h.gP.2.1, by have := h.gP.2.2; omega⟩, ?_, h.name, ⟨h.pP.1, hv _ h.pP.2.2 h.pP.2.1, by have := h.pP.2.2; omega⟩, fun i u hu => ?_⟩
  · have h2 := h.nd.mono (Q := fun k => (w.heap.size + 2 ≤ k ∧ v'.ownBlock ≠ some k) ∧ v.ownBlock ≠ some k) (fun k hkl hp => ⟨⟨hp.1, hv k hkl hp.2⟩, hp.2⟩)
    exact (h2.frame hs (fun k hkl hp => hk k hkl hp.1.1 hp.2)).mono (fun k _ hp => hp.1)
  · rw [World.cell?_of_block (hk _ h.pP.2.2 h.pP.1 h.pP.2.1)]; exact h.pc i u hu
def OMem.nt (x : OMem) : NT := (x.m.name.data.toList, x.m.t)
/-- The loop's relation. -/
structure ORel (w : World) (j : Nat) (A : Option Addr) (c : Nat) (D : List UInt8) (d : Nat) (L : List OMem) (r : List UInt8) (v : Value) (W : World) : Prop where
  st : AS w j A c D d r (.int .u8 0) (.string ⟨#[]⟩) (.slice none 0 0) (.slice none 0 0) W
  own : W.ownsRow (w.heap.size + 2) 257 3 v L.length (L.flatMap fun x => x.m.cells)
  ok : ∀ x ∈ L, OMOK w v W x
  nn : ∃ g cp, v = .slice (some ⟨g, 0, none⟩) L.length cp
theorem ORel.push {w wr W7 w8 : World} {j : Nat} {A : Option Addr} {c : Nat} {D : List UInt8} {d : Nat} {L : List OMem} {r r2 : List UInt8} {v v' : Value} (h : ORel w j A c D d L r v wr)
    (hf : Fr j wr W7) (hJ : JR W7 j A c D r2 (d + 1)) (x : OMem) (hsk : x.m.sk = .slice (some ⟨x.g, 0, none⟩) x.key.length x.c) (hkey : x.key = units x.m.name) (hk : KeyAt W7 x.key x.g x.c) (hg : wr.heap.size ≤ x.g ∧ x.g < W7.heap.size)
    (hnd : ND (fun k => wr.heap.size ≤ k) W7 x.m.v x.m.t) (hname : NameOK x.m.name) (hp : wr.heap.size ≤ x.m.p ∧ x.m.p < W7.heap.size) (hpc : ∀ (i : Nat) (u : Value), x.m.v[i]? = some u → W7.cell? ⟨x.m.p, i, none⟩ = some u)
    (hown' : w8.ownsRow (w.heap.size + 2) 257 3 v' (L.length + 1) (L.flatMap (fun x => x.m.cells) ++ x.m.cells)) (hgr : W7.grownBy w8 v.ownBlock)
    (hat : v'.ownBlock = v.ownBlock ∨ ∃ g, v'.ownBlock = some g ∧ W7.heap.size ≤ g) : ORel w j A c D d (L ++ [x]) r2 v' w8 := by
  have hol := ownsRow_lt h.own
  have hsz := h.st.size
  have hfs := hf.size
  have hjl := h.st.lt
  have hb : Below (w.heap.size + 2) W7 w8 := ⟨hgr.os, hgr.tape, hgr.output, hgr.size, fun k hk => hgr.block k (by omega) (fun e => by have := (hol k e.symm).1; omega)⟩
  have hat' : ∀ k, k < W7.heap.size → v.ownBlock ≠ some k → v'.ownBlock ≠ some k := by
    intro k hk hv e
    rcases hat with h1 | ⟨g, h1, h2⟩
    · exact hv (by rw [← h1]; exact e)
    · rw [h1] at e; cases e; omega
  have hkeep : ∀ k, k < W7.heap.size → v.ownBlock ≠ some k → w8.heap[k]? = W7.heap[k]? := fun k hk hv => hgr.block k hk (fun e => hv e.symm)
  have hnew : ∀ k, wr.heap.size ≤ k → v.ownBlock ≠ some k := fun k hk e => by have := (hol k e).2; omega
  refine ⟨(h.st.keep hf hJ).below (Nat.le_refl _) hb, ?_, ?_, ?_⟩
  · rw [List.length_append, List.flatMap_append]; simpa using hown'
  · intro y hy
    rcases List.mem_append.1 hy with hy | hy
    · have h1 : OMOK w v W7 y := (h.ok y hy).move hfs (fun k hk hk2 _ => hf.block k hk (by omega)) (fun k _ h => h)
      exact h1.move hgr.size (fun k hk _ hv => hkeep k hk hv) hat'
    · rw [List.mem_singleton.1 hy]
      have h1 : OMOK w v W7 x := ⟨hsk, hkey, hk, ⟨by omega, hnew _ hg.1, hg.2⟩, hnd.mono (fun k _ hp => ⟨by omega, hnew k hp⟩), hname, ⟨by omega, hnew _ hp.1, hp.2⟩, hpc⟩
      exact h1.move hgr.size (fun k hk _ hv => hkeep k hk hv) hat'
  · rcases hown'.2 with ⟨_, h0⟩ | ⟨g, cap, cur, rfl, _⟩
    · omega
    · exact ⟨g, cap, by simp⟩
theorem pMems_succ (lit : Lit) (k d : Nat) (nx : Bool) (acc : List NT) (s : List UInt8) : pMems lit (k + 1) d nx acc s = match s.dropWhile wsB with
    | [] => .err
    | x :: r => if 127 < x.toNat then .err
      else if x = 125 then finN acc r
      else if nx = true ∧ x ≠ 44 then .err
      else match (if nx = true then r else x :: r).dropWhile wsB with
        | [] => .err
        | y :: r1 => if y ≠ 34 then .err else match pStr (r1.length + 1) [] r1 with
          | none => .err
          | some (name, r2) => match r2.dropWhile wsB with
            | [] => .err
            | z :: r3 => if z ≠ 58 then .err else match pElem lit k d r3 with
              | .ok t r4 => if nameB name = true ∧ acc.length < 256 then pMems lit k d true (acc ++ [(name, t)]) r4 else .stuck
              | o => o := by rw [pMems]; rfl
def SortO (w : World) (g cp : Nat) (L : List OMem) (W : World) (e : Ending) (w' : World) : Prop :=
  e = .returned (.tuple #[]) ∧ ∃ L2 : List OMem, L2.Perm L ∧ Asc (L2.map OMem.nt) ∧ (∀ (i : Nat) (u : Value), (L2.flatMap fun x => x.m.cells)[i]? = some u → w'.cell? ⟨g, i, none⟩ = some u) ∧ FrR W.heap.size g W w' ∧
    ∀ x ∈ L2, OMOK w (.slice (some ⟨g, 0, none⟩) L.length cp) w' x
def MK.toO {W : World} {g : Nat} (y : MK W g) : OMem := ⟨y.m, y.key, y.g, y.c⟩
theorem keyN_nt {x : OMem} : keyN x.nt = units x.m.name := rfl
theorem sort_omem {w W : World} {g cp : Nat} {L : List OMem} (hown : W.ownsRow (w.heap.size + 2) 257 3 (.slice (some ⟨g, 0, none⟩) L.length cp) L.length (L.flatMap fun x => x.m.cells))
    (hok : ∀ x ∈ L, OMOK w (.slice (some ⟨g, 0, none⟩) L.length cp) W x) (hlen : L.length ≤ 4294967296) :
    Calls Tryz.prog 168 #[.slice (some ⟨g, 0, none⟩) L.length cp, .func (.func 169) #[] #[]] W (SortO w g cp L W) := by
  obtain ⟨LM, hLM⟩ : ∃ LM : List (MK W g), LM.map MK.toO = L :=
    ⟨L.attach.map fun x => MK.mk x.1.m x.1.key x.1.g x.1.c (hok _ x.2).hsk (hok _ x.2).hk (fun e => (hok _ x.2).gP.2.1 (by rw [e]; rfl)), by
      rw [List.map_map]
      exact List.attach_map_subtype_val L⟩
  have hl : LM.length = L.length := by rw [← hLM, List.length_map]
  have hc : LM.flatMap MK.cells = L.flatMap fun x => x.m.cells := by rw [← hLM, List.flatMap_map]; rfl
  have hcon := sortMem_any (R := w.heap.size + 2) (cap := cp) LM (by rw [hl, hc]; exact hown) (by omega)
  rw [hl] at hcon
  refine hcon.mono ?_
  rintro e w' ⟨rfl, L', hp, ha, hrow, hf⟩
  have hp2 : (L'.map MK.toO).Perm L := by rw [← hLM]; exact hp.map _
  refine ⟨rfl, L'.map MK.toO, hp2, ?_, ?_, hf, ?_⟩
  · have hk : ∀ y ∈ L', keyN (MK.toO y).nt = y.key := by
      intro y hy
      rw [keyN_nt]
      exact ((hok _ (hp2.mem_iff.1 (List.mem_map_of_mem hy))).hkey).symm
    unfold Asc
    rw [List.map_map, List.pairwise_map]
    refine ha.imp_of_mem fun {x y} hx hy h => ?_
    show ¬ cmpK (keyN (MK.toO y).nt) (keyN (MK.toO x).nt) < 0
    rw [hk y hy, hk x hx]; exact h
  · intro i u hu
    rw [List.flatMap_map] at hu
    exact hrow i u hu
  · intro x hx
    exact (hok x (hp2.mem_iff.1 hx)).move hf.size (fun k hk _ hv => hf.block k hk (fun e => hv (by rw [e]; rfl))) (fun _ _ h => h)
theorem obj_result {w w2 W' : World} {g cp n : Nat} {v : Value} {L2 : List OMem} (hrow : ∀ (i : Nat) (u : Value), (L2.flatMap fun x => x.m.cells)[i]? = some u → w2.cell? ⟨g, i, none⟩ = some u) (hok : ∀ x ∈ L2, OMOK w v w2 x) (hl : L2.length = n)
    (hg : w.heap.size + 2 ≤ g ∧ g < w2.heap.size) (hcp : n ≤ cp ∧ cp ≤ maxLen) (hs : w2.heap.size ≤ W'.heap.size) (hk : ∀ k, k < w2.heap.size → w.heap.size + 2 ≤ k → W'.heap[k]? = w2.heap[k]?) :
    ND (fun k => w.heap.size ≤ k) W' [.int .u8 2, .string ⟨#[]⟩, .slice none 0 0, .slice (some ⟨g, 0, none⟩) n cp] (123 :: joinC ((L2.map OMem.nt).map textN) ++ [125]) := by
  have e : (L2.map OMem.nt).map textN = (L2.map OMem.m).map Mem.text := by rw [List.map_map, List.map_map]; rfl
  rw [e]
  have hm : ∀ x ∈ L2.map OMem.m, ∃ y ∈ L2, y.m = x := fun x hx => by obtain ⟨y, hy, he⟩ := List.mem_map.1 hx; exact ⟨y, hy, he⟩
  refine .obj g n cp (L2.map OMem.m) (by omega) (by omega) (by rw [List.length_map]; exact hl) hcp.1 hcp.2 ?_ ?_ ?_ ?_ ?_
  · intro x hx
    obtain ⟨y, hy, rfl⟩ := hm x hx
    exact (((hok y hy).nd.mono (Q := fun k => w.heap.size + 2 ≤ k) (fun k _ hp => hp.1)).frame hs (fun k hkl hp => hk k hkl hp)).mono (fun k _ hp => by omega)
  · intro x hx
    obtain ⟨y, hy, rfl⟩ := hm x hx
    exact (hok y hy).name
  · intro x hx
    obtain ⟨y, hy, rfl⟩ := hm x hx
    have := (hok y hy).pP
    exact ⟨by omega, by omega⟩
  · intro x hx i u hu
    obtain ⟨y, hy, rfl⟩ := hm x hx
    have := (hok y hy).pP
    rw [World.cell?_of_block (hk _ this.2.2 this.1)]
    exact (hok y hy).pc i u hu
  · intro i u hu
    rw [World.cell?_of_block (hk g hg.2 hg.1)]
    refine hrow i u ?_
    rw [← hu, List.flatMap_map]
/-- Neighbours with one key: a double. -/
theorem dupN_of : ∀ (l : List NT) (i : Nat) (x y : NT), l[i]? = some x → l[i + 1]? = some y → cmpK (keyN x) (keyN y) = 0 → dupN l = true
  | [], i, x, y, h, _, _ => by cases h
  | [a], i, x, y, _, h, _ => by simp at h
  | a :: b :: l, 0, x, y, h1, h2, h3 => by
    simp at h1 h2; subst h1 h2
    unfold dupN; simp [h3]
  | a :: b :: l, i + 1, x, y, h1, h2, h3 => by
    unfold dupN
    rw [dupN_of (b :: l) i x y h1 h2 h3]; simp
theorem dupN_none : ∀ (l : List NT), (∀ i x y, l[i]? = some x → l[i + 1]? = some y → cmpK (keyN x) (keyN y) ≠ 0) → dupN l = false
  | [], _ => rfl
  | [a], _ => rfl
  | a :: b :: l, h => by
    unfold dupN
    rw [dupN_none (b :: l) (fun i x y h1 h2 => h (i + 1) x y h1 h2)]
    have := h 0 a b rfl rfl
    simp [this]
def mVal (lit : Lit) (k d : Nat) (acc : List NT) (name r3 : List UInt8) : Out := match pElem lit k d r3 with
  | .ok t r4 => if nameB name = true ∧ acc.length < 256 then pMems lit k d true (acc ++ [(name, t)]) r4 else .stuck
  | o => o
def mColon (lit : Lit) (k d : Nat) (acc : List NT) (name r2 : List UInt8) : Out := match r2.dropWhile wsB with
  | [] => .err
  | z :: r3 => if z ≠ 58 then .err else mVal lit k d acc name r3
def mName (lit : Lit) (k d : Nat) (acc : List NT) (r1 : List UInt8) : Out := match pStr (r1.length + 1) [] r1 with
  | none => .err
  | some (name, r2) => mColon lit k d acc name r2
def mQuote (lit : Lit) (k d : Nat) (acc : List NT) (s : List UInt8) : Out := match s.dropWhile wsB with
  | [] => .err
  | y :: r1 => if y ≠ 34 then .err else mName lit k d acc r1
theorem pMems_succ' (lit : Lit) (k d : Nat) (nx : Bool) (acc : List NT) (s : List UInt8) : pMems lit (k + 1) d nx acc s = match s.dropWhile wsB with
    | [] => .err
    | x :: r => if 127 < x.toNat then .err
      else if x = 125 then finN acc r
      else if nx = true ∧ x ≠ 44 then .err
      else mQuote lit k d acc (if nx = true then r else x :: r) := by rw [pMems_succ]; rfl
theorem mQuote_err {lit : Lit} {k d : Nat} {acc : List NT} {s : List UInt8} (h : ¬ ∃ r, s.dropWhile wsB = 34 :: r) : mQuote lit k d acc s = .err := by
  unfold mQuote
  cases hs : s.dropWhile wsB with
  | nil => rfl
  | cons y r => simp only; rw [if_pos (fun e => h ⟨r, by rw [hs, e]⟩)]
theorem mQuote_ok {lit : Lit} {k d : Nat} {acc : List NT} {s r : List UInt8} (h : s.dropWhile wsB = 34 :: r) : mQuote lit k d acc s = mName lit k d acc r := by
  unfold mQuote; rw [h]; simp
theorem mColon_err {lit : Lit} {k d : Nat} {acc : List NT} {n s : List UInt8} (h : ¬ ∃ r, s.dropWhile wsB = 58 :: r) : mColon lit k d acc n s = .err := by
  unfold mColon
  cases hs : s.dropWhile wsB with
  | nil => rfl
  | cons y r => simp only; rw [if_pos (fun e => h ⟨r, by rw [hs, e]⟩)]
theorem mColon_ok {lit : Lit} {k d : Nat} {acc : List NT} {n s r : List UInt8} (h : s.dropWhile wsB = 58 :: r) : mColon lit k d acc n s = mVal lit k d acc n r := by
  unfold mColon; rw [h]; simp
theorem KeyAt.fr {w w' : World} {a : List Nat} {g c j : Nat} (h : KeyAt w a g c) (hf : Fr j w w') (hg : g ≠ j) : KeyAt w' a g c := h.move (fun hl => hf.block g hl hg)
theorem new_cells {w : World} {T : TypeId} {x0 x1 x2 x3 : Value} : ∀ (i : Nat) (u : Value), [x0, x1, x2, x3][i]? = some u → (w.alloc (.cells #[x0, x1, x2, x3] T)).cell? ⟨w.heap.size, i, none⟩ = some u := by
  intro i u hu
  have hc := new_cells4 w T x0 x1 x2 x3
  simp only [addrAdd, Nat.zero_add] at hc
  match i, hu with
  | 0, hu => simp at hu; subst hu; exact hc.1
  | 1, hu => simp at hu; subst hu; exact hc.2.1
  | 2, hu => simp at hu; subst hu; exact hc.2.2.1
  | 3, hu => simp at hu; subst hu; exact hc.2.2.2

set_option maxRecDepth 100000 in
set_option maxHeartbeats 8000000 in
theorem object_any (lit : Lit) (k : Nat) (HE : ∀ k', k' < k → ElemOK lit k') : ObjOK lit k := by
  intro w j A c D s d hdd h hns
  have HEH := Lib.hid HE
  clear HE
  have h' := h
  obtain ⟨i, hJ, hD⟩ := h'
  have c2 := hJ.c2
  have f2 := hJ.fz 2
  have hjl := hJ.lt
  have hlen4 := hJ.len4
  have hd2 : d ≤ 20000 := hJ.dle
  have hmf : ∀ (fn : Fn) (first cap : Array Value) (w : World), (Instr.makeFunc fn first cap).run Tryz.prog w = .ok (.func fn first cap) w := fun _ _ _ _ => rfl
  clear hJ hD
  by_cases hdeep : 10000 < d + 1
  · have HE2 : Hid (objOut lit k d s = .err) := by
      show _ = _
      unfold objOut; rw [if_pos hdeep]
    have HA := Lib.hid (AS.start h (by omega))
    clear hns h
    go_enter_defers Tryz.func131, Tryz.ntmps131
    go_wp2_with (fail)
    refine (errorsNew_any _ _).mono ?_
    rintro e w1 ⟨rfl, rfl⟩
    go_wp2
    refine object_end (HA.out.alloc _) rfl rfl ?_
    intro W' _ _ hF hJ'
    exact NPost.err HE2.out ⟨_, _, rfl⟩ hF hJ'
  · have ho : Hid (objOut lit k d s = pMems lit k (d + 1) false [] s) := by
      show _ = _
      unfold objOut; rw [if_neg hdeep]
    obtain ⟨res, hres⟩ : ∃ res, res = objOut lit k d s := ⟨_, rfl⟩
    rw [← hres] at hns ⊢
    have HRES : Hid (pMems lit k (d + 1) false [] s = res) := by show _ = _; rw [hres, ho.out]
    have HNS := Lib.hid hns
    have hd1 : d + 1 ≤ 10000 := by omega
    have HA := Lib.hid (AS.start h (by omega))
    have H0 := Lib.hid h
    clear hres ho hns h hdeep
    go_enter_defers Tryz.func131, Tryz.ntmps131
    go_wp2_with (fail)
    have HR0 : Hid (ORel w j A c D d [] s (.slice (some ⟨w.heap.size + 2, 0, none⟩) 0 0) ((((w.setCell ⟨j, 2, none⟩ (.int .i64 ((d : Int) + 1))).alloc (.cells #[.pointer (some ⟨j, 0, none⟩)] 201)).alloc (.cells #[.int .u8 0, .string ⟨#[]⟩, .slice none 0 0, .slice none 0 0] 206)).alloc (.cells #[] 257))) := by
      have hA := HA.out
      have hsz : (((w.setCell ⟨j, 2, none⟩ (.int .i64 ((d : Int) + 1))).alloc (.cells #[.pointer (some ⟨j, 0, none⟩)] 201)).alloc (.cells #[.int .u8 0, .string ⟨#[]⟩, .slice none 0 0, .slice none 0 0] 206)).heap.size = w.heap.size + 2 := by
        rw [World.size_alloc, World.size_alloc, World.size_setCell']
      refine ⟨hA.alloc _, ⟨by simp, .inr ⟨w.heap.size + 2, 0, #[], rfl, Nat.le_refl _, ?_, Nat.le_refl _, by decide, rfl, rfl⟩⟩, (fun x hx => by cases hx), ⟨_, _, rfl⟩⟩
      have := alloc_at (((w.setCell ⟨j, 2, none⟩ (.int .i64 ((d : Int) + 1))).alloc (.cells #[.pointer (some ⟨j, 0, none⟩)] 201)).alloc (.cells #[.int .u8 0, .string ⟨#[]⟩, .slice none 0 0, .slice none 0 0] 206)) (.cells #[] 257)
      rw [hsz] at this; exact this
    clear HA c2 f2
    go_loopg [4, 5] (k) (fun kq v4 v5 wr => ∃ L nx r, Hid (pMems lit kq (d + 1) nx (L.map OMem.nt) r = res) ∧ v5 = .bool nx ∧ kq ≤ k ∧ L.length ≤ 256 ∧ ORel w j A c D d L r v4 wr)
    case atStart => exact ⟨[], false, s, HRES.out, rfl, Nat.le_refl _, by simp, HR0.out⟩
    case round =>
      obtain ⟨L, nx, r, HQ, rfl, hkq, hl256, hR⟩ := hrel
      clear HR0
      cases gk with
      | zero => exact absurd HQ.out.symm (by rw [pMems]; exact HNS.out)
      | succ k1 =>
      have HR := Lib.hid hR
      have hbx := hR.st.bx
      have HJ := Lib.hid hR.st.jr
      obtain ⟨g, cp, rfl⟩ := hR.nn
      have HQ2 : Hid (res = pMems lit (k1 + 1) (d + 1) nx (L.map OMem.nt) r) := by show _ = _; exact HQ.out.symm
      clear HQ hR HRES
      by_cases hpk : ∃ x ys, r.dropWhile wsB = x :: ys ∧ x.toNat ≤ 127
      · obtain ⟨x, ys, hx, hx7⟩ := hpk
        have HX := Lib.hid hx
        have hws : wsB x = false := dropWhile_head hx
        clear hx
        have HQ3 : Hid (res = if x = 125 then finN (L.map OMem.nt) ys
            else if nx = true ∧ x ≠ 44 then .err
            else mQuote lit k1 (d + 1) (L.map OMem.nt) (if nx = true then ys else x :: ys)) := by
          show _ = _
          rw [HQ2.out, pMems_succ', HX.out]
          simp only
          rw [if_neg (by omega)]
        clear HQ2
        go_wp2_with (fail)
        refine (peek_ok HJ.out HX.out hx7).mono ?_
        rintro e w1 ⟨rfl, hf1, hJ1⟩
        have HA1 := Lib.hid (HR.out.st.keep hf1 hJ1)
        have hbx1 := HA1.out.bx
        by_cases h93 : x = 125
        · subst h93
          have HQ4 : Hid (res = finN (L.map OMem.nt) ys) := by show _ = _; rw [HQ3.out, if_pos rfl]
          clear HQ3
          obtain ⟨i1, hJ1w, hD1⟩ := hJ1
          have c1 := hJ1w.c1
          have f1 := hJ1w.fz 1
          have hi1 : i1 + 1 ≤ D.length := by have := congrArg List.length hD1; simp at this; omega
          have hlen := hJ1w.len
          have hj1 := hJ1w.lt
          have HJX := Lib.hid (hJ1w.set1 (i1 + 1) hi1)
          have HDX := Lib.hid (drop_cons hD1).2
          have HFX := Lib.hid ((Fr.refl j w1).setCell (p := ⟨j, 1, none⟩) (Or.inl rfl) (.int .i64 ((i1 : Int) + 1)))
          have e1 : (((i1 + 1 : Nat) : Int)) = (i1 : Int) + 1 := by omega
          rw [e1] at HJX
          clear e1 hJ1w hD1
          have hF1W : Fr j wr (w1.setCell ⟨j, 1, none⟩ (.int .i64 ((i1 : Int) + 1))) := hf1.trans HFX.out
          have hsA := HR.out.st.size
          have HFACT : Hid (AS w j A c D d ys (.int .u8 0) (.string ⟨#[]⟩) (.slice none 0 0) (.slice none 0 0) (w1.setCell ⟨j, 1, none⟩ (.int .i64 ((i1 : Int) + 1))) ∧ (w1.setCell ⟨j, 1, none⟩ (.int .i64 ((i1 : Int) + 1))).ownsRow (w.heap.size + 2) 257 3 (.slice (some ⟨g, 0, none⟩) L.length cp) L.length (L.flatMap fun x => x.m.cells) ∧
              (∀ x ∈ L, OMOK w (.slice (some ⟨g, 0, none⟩) L.length cp) (w1.setCell ⟨j, 1, none⟩ (.int .i64 ((i1 : Int) + 1))) x)) :=
            ⟨HA1.out.keep HFX.out ⟨i1 + 1, HJX.out, HDX.out⟩, ownsRow_fr HR.out.own hF1W (by omega), fun x hx => (HR.out.ok x hx).move hF1W.size (fun k hk hk2 _ => hF1W.block k hk (by omega)) (fun _ _ h => h)⟩
          clear hf1 hF1W HJX HDX HFX
          go_wp2_with (fail)
          refine (fun (k : ∀ W, (AS w j A c D d ys (.int .u8 0) (.string ⟨#[]⟩) (.slice none 0 0) (.slice none 0 0) W ∧ W.ownsRow (w.heap.size + 2) 257 3 (.slice (some ⟨g, 0, none⟩) L.length cp) L.length (L.flatMap fun x => x.m.cells) ∧
              (∀ x ∈ L, OMOK w (.slice (some ⟨g, 0, none⟩) L.length cp) W x)) → Calls _ _ _ W _) => k _ HFACT.out) ?_
          clear HFACT c1 f1 HA1 hbx1 hbx hj1
          rintro W ⟨hA, hO, hK⟩
          have hcp : L.length ≤ cp ∧ cp ≤ maxLen := by
            rcases hO.2 with ⟨e, h0⟩ | ⟨g', cap', cur, e, _, _, h1, h2, _⟩
            · cases e
            · cases e; exact ⟨h1, h2⟩
          have hcp1 := hcp.1
          have HCP := Lib.hid hcp
          clear hcp
          have HA1 := Lib.hid hA
          have HOK := Lib.hid hK
          have hgs := ownsRow_lt hO g rfl
          refine (sort_omem hO hK (by omega)).mono ?_
          clear hA hO hK
          rintro e w2 ⟨rfl, L2, hp, ha, hrow, hfr, hok2⟩
          have HP := Lib.hid hp
          have HASC := Lib.hid ha
          have HROW := Lib.hid hrow
          have HFR := Lib.hid hfr
          have HOK2 := Lib.hid hok2
          have hl2 : L2.length = L.length := hp.length_eq
          have HL2 := Lib.hid hl2
          have HA2 : Hid (AS w j A c D d ys (.int .u8 0) (.string ⟨#[]⟩) (.slice none 0 0) (.slice none 0 0) w2) := HA1.out.below (Nat.le_refl _) (hfr.toBelow HA1.out.size hgs.1)
          have hgs2 : w.heap.size + 2 ≤ g ∧ g < w2.heap.size := ⟨hgs.1, by have := hfr.size; omega⟩
          have HSR := Lib.hid (sorted_row (hp.map OMem.nt) ha)
          clear hp ha hrow hfr hok2 hl2 HA1
          go_wp2_with (fail)
          obtain ⟨wo, rfl⟩ : ∃ wo : World, wo = wr := ⟨_, rfl⟩
          go_loopw [12] (fun i wr => ∃ k : Nat, 1 ≤ k ∧ (k ≤ L.length ∨ k = 1) ∧ i = .int .i64 k ∧ Hid (∀ i x y, i + 1 < k → L2[i]? = some x → L2[i + 1]? = some y → cmpK x.key y.key ≠ 0) ∧ Hid (∃ q, wr = w2.drewN q)) (fun i _ => L.length + 1 - (intOf i).toNat)
          case atStart => exact ⟨1, Nat.le_refl _, Or.inr rfl, rfl, (fun i x y h => by omega), 0, rfl⟩
          case round =>
            obtain ⟨k, hk1, hkn, rfl, HND, HW⟩ := hrel
            by_cases hlt : k < L.length
            · obtain ⟨m, rfl⟩ : ∃ m, k = m + 1 := ⟨k - 1, by omega⟩
              obtain ⟨x, hx⟩ : ∃ x, L2[m]? = some x := ⟨_, List.getElem?_eq_getElem (by rw [HL2.out]; omega)⟩
              obtain ⟨y, hy⟩ : ∃ y, L2[m + 1]? = some y := ⟨_, List.getElem?_eq_getElem (by rw [HL2.out]; omega)⟩
              have hX := HOK2.out x (List.mem_of_getElem? hx)
              have hY := HOK2.out y (List.mem_of_getElem? hy)
              have hcx : wr.cell? ⟨g, m * 3 + 1, none⟩ = some (.slice (some ⟨x.g, 0, none⟩) x.key.length x.c) := by
                obtain ⟨q, hq⟩ := HW.out
                rw [hq, ← hX.hsk]
                exact HROW.out _ _ (by rw [flatMap_get _ 3 (by omega) (fun _ => rfl), show (m * 3 + 1) / 3 = m by omega, show (m * 3 + 1) % 3 = 1 by omega, hx]; rfl)
              have hcy : wr.cell? ⟨g, (m + 1) * 3 + 1, none⟩ = some (.slice (some ⟨y.g, 0, none⟩) y.key.length y.c) := by
                obtain ⟨q, hq⟩ := HW.out
                rw [hq, ← hY.hsk]
                exact HROW.out _ _ (by rw [flatMap_get _ 3 (by omega) (fun _ => rfl), show ((m + 1) * 3 + 1) / 3 = m + 1 by omega, show ((m + 1) * 3 + 1) % 3 = 1 by omega, hy]; rfl)
              have HCON : Hid (∀ n, Calls Tryz.prog 170 #[.slice (some ⟨x.g, 0, none⟩) x.key.length x.c, .slice (some ⟨y.g, 0, none⟩) y.key.length y.c] (wr.drewN n) (fun e w' => e = .returned (.int .i64 (cmpK x.key y.key)) ∧ ∃ m, w' = (wr.drewN n).drewN m)) := by
                intro n
                obtain ⟨q, hq⟩ := HW.out
                rw [hq]
                exact cmpKeys_any _ _ _ _ _ _ _ hX.hk hY.hk
              have HXY := Lib.hid (And.intro hx hy)
              clear hx hy hX hY
              have w1 : IntKind.i64.wrap ((m : Int) + 1 - 1) = (m : Int) := by rw [show (m : Int) + 1 - 1 = (m : Int) by omega]; exact IntWalk.i64_in _ (by omega)
              obtain ⟨V, hV⟩ : ∃ V, V = cmpK x.key y.key := ⟨_, rfl⟩
              rw [← hV] at HCON
              have HV := Lib.hid hV
              clear hV
              by_cases hz : V = 0
              · subst hz
                go_wp2_with (fail)
                go_quiet ((go_at_call 170; exact Calls.quiet_of (HCON.out _)))
                have HAr : Hid (AS w j A c D d ys (.int .u8 0) (.string ⟨#[]⟩) (.slice none 0 0) (.slice none 0 0) wr) := by obtain ⟨q, hq⟩ := HW.out; rw [hq]; exact HA2.out.drewN q
                have HE2 : Hid (res = .err) := by
                  show _ = _
                  have hd : dupN (L2.map OMem.nt) = true := by
                    refine dupN_of _ m x.nt y.nt (by rw [List.getElem?_map, HXY.out.1]; rfl) (by rw [List.getElem?_map, HXY.out.2]; rfl) ?_
                    rw [keyN_nt, keyN_nt, ← (HOK2.out x (List.mem_of_getElem? HXY.out.1)).hkey, ← (HOK2.out y (List.mem_of_getElem? HXY.out.2)).hkey, ← HV.out]
                  rw [HQ4.out, finN, ← HSR.out.1, if_pos hd]
                clear HCON HND
                go_wp2_with (fail)
                refine (fun (k : ∀ WD, AS w j A c D d ys (.int .u8 0) (.string ⟨#[]⟩) (.slice none 0 0) (.slice none 0 0) WD → Calls _ _ _ WD _) => k _ (HAr.out.drewN _)) ?_
                intro WD hAD
                have HAD := Lib.hid hAD
                clear hAD
                refine (errorsNew_any _ _).mono ?_
                rintro e w9 ⟨rfl, rfl⟩
                obtain ⟨s0, s1, s2, s3, sf, sl⟩ := slot_cells HAD.out.slot
                have hfz0 := sf 0
                have hfz1 := sf 1
                have hfz2 := sf 2
                have hfz3 := sf 3
                clear sf
                go_wp2
                refine object_end ((HAD.out.set4 (.int .u8 0) (.string ⟨#[]⟩) (.slice none 0 0) (.slice none 0 0)).alloc _) rfl rfl ?_
                intro W' _ _ hF hJ'
                exact NPost.err HE2.out ⟨_, _, rfl⟩ hF hJ'
              · have hzb : (V == 0) = false := by rw [beq_eq_false_iff_ne]; exact hz
                go_wp2_with (fail)
                go_quiet ((go_at_call 170; exact Calls.quiet_of (HCON.out _)))
                go_wp2_with (fail)
                go_roundw
                case rel => exact ⟨m + 2, by omega, Or.inl (by omega), by go_num, (fun i x' y' h h1 h2 => by
                  rcases Nat.lt_or_ge (i + 1) (m + 1) with h3 | h3
                  · exact HND.out i x' y' h3 h1 h2
                  · obtain rfl : i = m := by omega
                    rw [HXY.out.1] at h1; rw [HXY.out.2] at h2
                    cases h1; cases h2
                    intro e; exact hz (by rw [HV.out, e])), by obtain ⟨q, hq⟩ := HW.out; rw [hq]; exact ⟨_, World.drewN_drewN _ _ _⟩⟩
                case measure => simp [intOf]; omega
            · have hn : ¬ (k : Int) < (L.length : Int) := by omega
              have HAr : Hid (AS w j A c D d ys (.int .u8 0) (.string ⟨#[]⟩) (.slice none 0 0) (.slice none 0 0) wr) := by obtain ⟨q, hq⟩ := HW.out; rw [hq]; exact HA2.out.drewN q
              have HQ5 : Hid (res = .ok (123 :: joinC ((L2.map OMem.nt).map textN) ++ [125]) ys) := by
                show _ = _
                have hd : dupN (L2.map OMem.nt) = false := by
                  refine dupN_none _ (fun i x y h1 h2 => ?_)
                  rw [List.getElem?_map] at h1 h2
                  obtain ⟨x', hx', rfl⟩ := Option.map_eq_some_iff.1 h1
                  obtain ⟨y', hy', rfl⟩ := Option.map_eq_some_iff.1 h2
                  have hl := (List.getElem?_eq_some_iff.1 hy').1
                  rw [HL2.out] at hl
                  rw [keyN_nt, keyN_nt, ← (HOK2.out x' (List.mem_of_getElem? hx')).hkey, ← (HOK2.out y' (List.mem_of_getElem? hy')).hkey]
                  exact HND.out i x' y' (by omega) hx' hy'
                rw [HQ4.out, finN, ← HSR.out.1, if_neg (by rw [hd]; exact Bool.false_ne_true), HSR.out.2 hd]
              obtain ⟨s0, s1, s2, s3, sf, sl⟩ := slot_cells HAr.out.slot
              have hfz0 := sf 0
              have hfz1 := sf 1
              have hfz2 := sf 2
              have hfz3 := sf 3
              clear sf
              go_wp2
              refine object_end (HAr.out.set4 (.int .u8 2) (.string ⟨#[]⟩) (.slice none 0 0) (.slice (some ⟨g, 0, none⟩) L.length cp)) rfl rfl ?_
              intro W' hsz ho hF hJ'
              refine NPost.ok HQ5.out hF hJ' (obj_result HROW.out HOK2.out HL2.out hgs2 HCP.out ?_ ?_)
              · obtain ⟨q, hq⟩ := HW.out
                rw [hsz, hq]; simp only [World.size_setCell']; exact Nat.le_refl _
              · intro k hk hkw
                obtain ⟨q, hq⟩ := HW.out
                rw [ho k (by omega), set4_other (by omega), hq]; rfl
        · have b93 : ((x.toNat : Int) == 125) = false := u8_ne (n := 125) (by omega) h93
          have hxw : (x :: ys).dropWhile wsB = x :: ys := List.dropWhile_cons_of_neg (by simpa using hws)
          have HXW := Lib.hid hxw
          have HQ4 : Hid (res = if nx = true ∧ x ≠ 44 then .err
            else mQuote lit k1 (d + 1) (L.map OMem.nt) (if nx = true then ys else x :: ys)) := by show _ = _; rw [HQ3.out, if_neg h93]
          clear HQ3 hxw
          have HJ1 := Lib.hid hJ1
          by_cases hbad : nx = true ∧ x ≠ 44
          · obtain ⟨rfl, h44⟩ := hbad
            have HE2 : Hid (res = .err) := by show _ = _; rw [HQ4.out, if_pos ⟨rfl, h44⟩]
            clear HQ4
            go_wp2_with (fail)
            refine (scanFor_err (x := 44) HJ1.out (fun r e => h44 (by rw [HXW.out] at e; injection e))).mono ?_
            rintro e w2 ⟨v, ⟨t, a, rfl⟩, rfl, hf2, r2, hJ2⟩
            have HA2 := Lib.hid (HA1.out.keep hf2 hJ2)
            obtain ⟨s0, s1, s2, s3, sf, sl⟩ := slot_cells HA2.out.slot
            have hfz0 := sf 0
            have hfz1 := sf 1
            have hfz2 := sf 2
            have hfz3 := sf 3
            clear sf
            go_wp2
            refine object_end (HA2.out.set4 (.int .u8 0) (.string ⟨#[]⟩) (.slice none 0 0) (.slice none 0 0)) rfl rfl ?_
            intro W' _ _ hF hJ'
            exact NPost.err HE2.out ⟨_, _, rfl⟩ hF hJ'
          · rw [if_neg hbad] at HQ4
            have hnx : (nx = false) ∨ (nx = true ∧ x = 44) := by
              cases nx with
              | false => exact Or.inl rfl
              | true => exact Or.inr ⟨rfl, by by_cases e : x = 44; exact e; exact absurd ⟨rfl, e⟩ hbad⟩
            clear hbad
            have HF1 := Lib.hid hf1
            clear hf1 hJ1
            rcases hnx with rfl | ⟨rfl, rfl⟩
            · go_wp2_with (fail)
              obtain ⟨S, HQ5, HJ2⟩ : ∃ S, Hid (res = mQuote lit k1 (d + 1) (L.map OMem.nt) S) ∧ Hid (JR w1 j A c D S (d + 1)) := ⟨x :: ys, HQ4, HJ1⟩
              have HA2 := HA1
              have HF2 := HF1
              clear HQ4 HA1 HJ1 HF1
              by_cases hq : ∃ r1, S.dropWhile wsB = 34 :: r1
              · obtain ⟨r1, hS⟩ := hq
                have HQ6 : Hid (res = mName lit k1 (d + 1) (L.map OMem.nt) r1) := by show _ = _; rw [HQ5.out, mQuote_ok hS]
                refine (scanFor_ok (x := 34) HJ2.out hS (by decide)).mono ?_
                rintro e w3 ⟨rfl, hf3, hJ3⟩
                have HA3 := Lib.hid (HA2.out.keep hf3 hJ3)
                have HJ3 := Lib.hid hJ3
                have HF3 := Lib.hid (HF2.out.trans hf3)
                have hbx3 := HA3.out.bx
                clear hS hf3 hJ3 HQ5 HA2 HJ2 HF2
                go_wp2_with (fail)
                have hqu := quoted_any HJ3.out
                cases hp : pStr (r1.length + 1) [] r1 with
                | none =>
                  rw [hp] at hqu
                  have HE2 : Hid (res = .err) := by show _ = _; rw [HQ6.out, mName, hp]
                  refine hqu.mono ?_
                  rintro e w4 ⟨hf4, ⟨v, ⟨t, a, rfl⟩, rfl⟩, r4, hJ4⟩
                  have HA4 := Lib.hid (HA3.out.keep hf4 hJ4)
                  clear hqu hp hf4 hJ4
                  obtain ⟨s0, s1, s2, s3, sf, sl⟩ := slot_cells HA4.out.slot
                  have hfz0 := sf 0
                  have hfz1 := sf 1
                  have hfz2 := sf 2
                  have hfz3 := sf 3
                  clear sf
                  go_wp2
                  refine object_end (HA4.out.set4 (.int .u8 0) (.string ⟨#[]⟩) (.slice none 0 0) (.slice none 0 0)) rfl rfl ?_
                  intro W' _ _ hF hJ'
                  exact NPost.err HE2.out ⟨_, _, rfl⟩ hF hJ'
                | some q =>
                  obtain ⟨name, r2⟩ := q
                  rw [hp] at hqu
                  have HQ7 : Hid (res = mColon lit k1 (d + 1) (L.map OMem.nt) name r2) := by show _ = _; rw [HQ6.out, mName, hp]
                  have hnl : name.length ≤ 4294967296 := by
                    have h1 := pStr_len _ _ _ _ _ hp
                    obtain ⟨i3, hJ3', hD3⟩ := HJ3.out
                    have h2 := congrArg List.length hD3
                    rw [List.length_drop] at h2
                    have := hJ3'.len4
                    simp at h1; omega
                  refine hqu.mono ?_
                  rintro e w4 ⟨hf4, rfl, hJ4⟩
                  have hss : (⟨name.toArray⟩ : ByteArray).size ≤ 4294967296 := by simpa [ByteArray.size] using hnl
                  have HSS := Lib.hid hss
                  have HF4 := Lib.hid (HF3.out.trans hf4)
                  have HA4 := Lib.hid (HA3.out.keep hf4 hJ4)
                  have HJ4 := Lib.hid hJ4
                  obtain ⟨cp0, hcv⟩ := conv_run w4 ⟨name.toArray⟩ hss
                  clear hqu hp hf4 hJ4 HQ6 hss HA3 HJ3 HF3
                  go_wp2_with (fail)
                  refine (encode_key w4 ⟨name.toArray⟩ cp0 HSS.out).mono ?_
                  rintro e w5 ⟨kb, kc, rfl, hk1, hk2, hb5, hkey⟩
                  have HF5 := Lib.hid (HF4.out.below hb5)
                  have HA5 := Lib.hid (HA4.out.below HA4.out.size hb5)
                  have HJ5 := Lib.hid (HJ4.out.below hb5)
                  have HK5 := Lib.hid hkey
                  have hbx5 := HA5.out.bx
                  have hkj : j < kb := by have := HA4.out.size; omega
                  have hkw : wr.heap.size ≤ kb := by have := HF4.out.size; omega
                  clear hcv hb5 hkey HA4 HJ4 hk1
                  go_wp2_with (fail)
                  by_cases hq2 : ∃ r3, r2.dropWhile wsB = 58 :: r3
                  · obtain ⟨r3, hS2⟩ := hq2
                    have HQ8 : Hid (res = mVal lit k1 (d + 1) (L.map OMem.nt) name r3) := by show _ = _; rw [HQ7.out, mColon_ok hS2]
                    refine (scanFor_ok (x := 58) HJ5.out hS2 (by decide)).mono ?_
                    rintro e w6 ⟨rfl, hf6, hJ6⟩
                    have HA6 := Lib.hid (HA5.out.keep hf6 hJ6)
                    have HJ6 := Lib.hid hJ6
                    have HF6 := Lib.hid (HF5.out.trans hf6)
                    have HK6 := Lib.hid (HK5.out.fr hf6 (by omega))
                    have hkl6 : kb < w6.heap.size := by have := hf6.size; omega
                    have hbx6 := HA6.out.bx
                    clear hS2 hf6 hJ6 HQ7 HA5 HJ5 HF5 HK5 hk2
                    go_wp2_with (fail)
                    cases ho : pElem lit k1 (d + 1) r3 with
                    | stuck => exact absurd (HQ8.out.trans (by rw [mVal, ho])) HNS.out
                    | err =>
                      have HE2 : Hid (res = .err) := by show _ = _; rw [HQ8.out, mVal, ho]
                      refine (HEH.out k1 (by omega) _ j A c D r3 (d + 1) (by omega) HJ6.out (by rw [ho]; exact fun h => by cases h)).mono ?_
                      rintro e w7 hP
                      rw [ho] at hP
                      obtain ⟨⟨v, ⟨t, a, rfl⟩, rfl⟩, hf7, r7, hJ7⟩ := hP
                      unfold zeroNode
                      have HA7 := Lib.hid (HA6.out.keep hf7 hJ7)
                      clear ho HQ8 hf7 hJ7
                      obtain ⟨s0, s1, s2, s3, sf, sl⟩ := slot_cells HA7.out.slot
                      have hfz0 := sf 0
                      have hfz1 := sf 1
                      have hfz2 := sf 2
                      have hfz3 := sf 3
                      clear sf
                      go_wp2
                      refine object_end ((HA7.out.set4 (.int .u8 0) (.string ⟨#[]⟩) (.slice none 0 0) (.slice none 0 0)).alloc _) rfl rfl ?_
                      intro W' _ _ hF hJ'
                      exact NPost.err HE2.out ⟨_, _, rfl⟩ hF hJ'
                    | ok t r4 =>
                      have HQ9 : Hid (res = if nameB name = true ∧ (L.map OMem.nt).length < 256 then pMems lit k1 (d + 1) true (L.map OMem.nt ++ [(name, t)]) r4 else .stuck) := by show _ = _; rw [HQ8.out, mVal, ho]
                      by_cases hn : nameB name = true ∧ (L.map OMem.nt).length < 256
                      · have HQ10 : Hid (pMems lit k1 (d + 1) true ((L.map OMem.nt) ++ [(name, t)]) r4 = res) := by show _ = _; rw [HQ9.out, if_pos hn]
                        refine (HEH.out k1 (by omega) _ j A c D r3 (d + 1) (by omega) HJ6.out (by rw [ho]; exact fun h => by cases h)).mono ?_
                        rintro e w7 hP
                        rw [ho] at hP
                        obtain ⟨x0, x1, x2, x3, rfl, hf7, hJ7, hnd⟩ := hP
                        obtain ⟨kd, sx, a1, n1, c1, a2, n2, c2, rfl, rfl, rfl, rfl⟩ := hnd.shape
                        have hs6 := HF6.out.size
                        have hs7 := hf7.size
                        have hsA := HA6.out.size
                        obtain ⟨W7, hW7⟩ : ∃ W7, W7 = (w7.alloc (.cells #[.int .u8 kd, .string sx, .slice a1 n1 c1, .slice a2 n2 c2] 206)).alloc (.cells #[.int .u8 kd, .string sx, .slice a1 n1 c1, .slice a2 n2 c2] 206) := ⟨_, rfl⟩
                        have hB7 : Below w7.heap.size w7 W7 := by rw [hW7]; exact ((Below.refl _ _).alloc (Nat.le_refl _) _).alloc (by rw [World.size_alloc]; omega) _
                        have hsW : W7.heap.size = w7.heap.size + 2 := by rw [hW7, World.size_alloc, World.size_alloc]
                        have HF7 := Lib.hid ((HF6.out.trans hf7).below hB7)
                        have HJ7 := Lib.hid (hJ7.below hB7)
                        have HK7 := Lib.hid ((HK6.out.fr hf7 (by omega)).move (fun hl => hB7.block kb hl))
                        have HND : Hid (ND (fun k => wr.heap.size ≤ k) W7 [.int .u8 kd, .string sx, .slice a1 n1 c1, .slice a2 n2 c2] t) := (hnd.stay hB7).mono (fun k _ hp => by omega)
                        have HPC : Hid (∀ (i : Nat) (u : Value), [Value.int .u8 kd, .string sx, .slice a1 n1 c1, .slice a2 n2 c2][i]? = some u → W7.cell? ⟨w7.heap.size + 1, i, none⟩ = some u) := by
                          intro i u hu
                          have := new_cells (w := w7.alloc (.cells #[.int .u8 kd, .string sx, .slice a1 n1 c1, .slice a2 n2 c2] 206)) (T := 206) i u hu
                          rw [World.size_alloc] at this
                          rw [hW7]; exact this
                        have HOWN : Hid (W7.ownsRow (w.heap.size + 2) 257 3 (.slice (some ⟨g, 0, none⟩) L.length cp) L.length (L.flatMap fun x => x.m.cells)) := ownsRow_fr HR.out.own HF7.out (by omega)
                        have HLN : Hid (L.length < 256 ∧ NameOK ⟨name.toArray⟩) := ⟨by simpa using hn.2, nameB_ok hn.1 hnl⟩
                        have hsB : w.heap.size + 2 ≤ W7.heap.size := by omega
                        have HPA : Hid ((wr.heap.size ≤ kb ∧ kb < W7.heap.size) ∧ wr.heap.size ≤ w7.heap.size + 1 ∧ w7.heap.size + 1 < W7.heap.size) := ⟨⟨hkw, by omega⟩, by omega, by omega⟩
                        clear ho HQ8 HQ9 hf7 hJ7 hnd hn HA6 HJ6 HF6 HK6 hB7
                        go_wp2_with (fail)
                        rw [← hW7]
                        clear hW7
                        refine (appendMember_any HOWN.out HLN.out.1 (by intro u hu; simp only [List.mem_cons, List.not_mem_nil, or_false] at hu; rcases hu with rfl | rfl | rfl <;> rfl) hsB).mono ?_
                        rintro e w8 ⟨v', rfl, hown', hgrow, hat⟩
                        have HR8 := Lib.hid (HR.out.push HF7.out HJ7.out ⟨⟨⟨name.toArray⟩, .slice (some ⟨kb, 0, none⟩) (units ⟨name.toArray⟩).length kc, w7.heap.size + 1, [.int .u8 kd, .string sx, .slice a1 n1 c1, .slice a2 n2 c2], t⟩, units ⟨name.toArray⟩, kb, kc⟩ rfl rfl HK7.out HPA.out.1 HND.out HLN.out.2 HPA.out.2 HPC.out hown' hgrow hat)
                        clear hown' hgrow hat
                        go_wp2
                        go_roundg (k1)
                        case measure => omega
                        case rel => exact ⟨_, true, r4, by show _ = _; rw [List.map_append]; exact HQ10.out, rfl, by omega, by rw [List.length_append]; have := HLN.out.1; simp; omega, HR8.out⟩
                      · exact absurd (HQ9.out.trans (by rw [if_neg hn])) HNS.out
                  · have HE2 : Hid (res = .err) := by show _ = _; rw [HQ7.out, mColon_err hq2]
                    refine (scanFor_err (x := 58) HJ5.out (fun r e => hq2 ⟨r, e⟩)).mono ?_
                    rintro e w6 ⟨v, ⟨t, a, rfl⟩, rfl, hf6, r6, hJ6⟩
                    have HA6 := Lib.hid (HA5.out.keep hf6 hJ6)
                    clear hq2 hf6 hJ6
                    obtain ⟨s0, s1, s2, s3, sf, sl⟩ := slot_cells HA6.out.slot
                    have hfz0 := sf 0
                    have hfz1 := sf 1
                    have hfz2 := sf 2
                    have hfz3 := sf 3
                    clear sf
                    go_wp2
                    refine object_end (HA6.out.set4 (.int .u8 0) (.string ⟨#[]⟩) (.slice none 0 0) (.slice none 0 0)) rfl rfl ?_
                    intro W' _ _ hF hJ'
                    exact NPost.err HE2.out ⟨_, _, rfl⟩ hF hJ'
              · have HE2 : Hid (res = .err) := by show _ = _; rw [HQ5.out, mQuote_err hq]
                refine (scanFor_err (x := 34) HJ2.out (fun r e => hq ⟨r, e⟩)).mono ?_
                rintro e w3 ⟨v, ⟨t, a, rfl⟩, rfl, hf3, r3, hJ3⟩
                have HA3 := Lib.hid (HA2.out.keep hf3 hJ3)
                clear hq hf3 hJ3
                obtain ⟨s0, s1, s2, s3, sf, sl⟩ := slot_cells HA3.out.slot
                have hfz0 := sf 0
                have hfz1 := sf 1
                have hfz2 := sf 2
                have hfz3 := sf 3
                clear sf
                go_wp2
                refine object_end (HA3.out.set4 (.int .u8 0) (.string ⟨#[]⟩) (.slice none 0 0) (.slice none 0 0)) rfl rfl ?_
                intro W' _ _ hF hJ'
                exact NPost.err HE2.out ⟨_, _, rfl⟩ hF hJ'
            · go_wp2_with (fail)
              refine (scanFor_ok (x := 44) HJ1.out HXW.out (by decide)).mono ?_
              rintro e w2 ⟨rfl, hf2, hJ2⟩
              have HA2 := Lib.hid (HA1.out.keep hf2 hJ2)
              have hbx2 := HA2.out.bx
              obtain ⟨S, HQ5, HJ2⟩ : ∃ S, Hid (res = mQuote lit k1 (d + 1) (L.map OMem.nt) S) ∧ Hid (JR w2 j A c D S (d + 1)) := ⟨ys, HQ4, hJ2⟩
              have HF2 := Lib.hid (HF1.out.trans hf2)
              clear HQ4 HA1 HJ1 HF1 hf2 hJ2
              go_wp2_with (fail)
              by_cases hq : ∃ r1, S.dropWhile wsB = 34 :: r1
              · obtain ⟨r1, hS⟩ := hq
                have HQ6 : Hid (res = mName lit k1 (d + 1) (L.map OMem.nt) r1) := by show _ = _; rw [HQ5.out, mQuote_ok hS]
                refine (scanFor_ok (x := 34) HJ2.out hS (by decide)).mono ?_
                rintro e w3 ⟨rfl, hf3, hJ3⟩
                have HA3 := Lib.hid (HA2.out.keep hf3 hJ3)
                have HJ3 := Lib.hid hJ3
                have HF3 := Lib.hid (HF2.out.trans hf3)
                have hbx3 := HA3.out.bx
                clear hS hf3 hJ3 HQ5 HA2 HJ2 HF2
                go_wp2_with (fail)
                have hqu := quoted_any HJ3.out
                cases hp : pStr (r1.length + 1) [] r1 with
                | none =>
                  rw [hp] at hqu
                  have HE2 : Hid (res = .err) := by show _ = _; rw [HQ6.out, mName, hp]
                  refine hqu.mono ?_
                  rintro e w4 ⟨hf4, ⟨v, ⟨t, a, rfl⟩, rfl⟩, r4, hJ4⟩
                  have HA4 := Lib.hid (HA3.out.keep hf4 hJ4)
                  clear hqu hp hf4 hJ4
                  obtain ⟨s0, s1, s2, s3, sf, sl⟩ := slot_cells HA4.out.slot
                  have hfz0 := sf 0
                  have hfz1 := sf 1
                  have hfz2 := sf 2
                  have hfz3 := sf 3
                  clear sf
                  go_wp2
                  refine object_end (HA4.out.set4 (.int .u8 0) (.string ⟨#[]⟩) (.slice none 0 0) (.slice none 0 0)) rfl rfl ?_
                  intro W' _ _ hF hJ'
                  exact NPost.err HE2.out ⟨_, _, rfl⟩ hF hJ'
                | some q =>
                  obtain ⟨name, r2⟩ := q
                  rw [hp] at hqu
                  have HQ7 : Hid (res = mColon lit k1 (d + 1) (L.map OMem.nt) name r2) := by show _ = _; rw [HQ6.out, mName, hp]
                  have hnl : name.length ≤ 4294967296 := by
                    have h1 := pStr_len _ _ _ _ _ hp
                    obtain ⟨i3, hJ3', hD3⟩ := HJ3.out
                    have h2 := congrArg List.length hD3
                    rw [List.length_drop] at h2
                    have := hJ3'.len4
                    simp at h1; omega
                  refine hqu.mono ?_
                  rintro e w4 ⟨hf4, rfl, hJ4⟩
                  have hss : (⟨name.toArray⟩ : ByteArray).size ≤ 4294967296 := by simpa [ByteArray.size] using hnl
                  have HSS := Lib.hid hss
                  have HF4 := Lib.hid (HF3.out.trans hf4)
                  have HA4 := Lib.hid (HA3.out.keep hf4 hJ4)
                  have HJ4 := Lib.hid hJ4
                  obtain ⟨cp0, hcv⟩ := conv_run w4 ⟨name.toArray⟩ hss
                  clear hqu hp hf4 hJ4 HQ6 hss HA3 HJ3 HF3
                  go_wp2_with (fail)
                  refine (encode_key w4 ⟨name.toArray⟩ cp0 HSS.out).mono ?_
                  rintro e w5 ⟨kb, kc, rfl, hk1, hk2, hb5, hkey⟩
                  have HF5 := Lib.hid (HF4.out.below hb5)
                  have HA5 := Lib.hid (HA4.out.below HA4.out.size hb5)
                  have HJ5 := Lib.hid (HJ4.out.below hb5)
                  have HK5 := Lib.hid hkey
                  have hbx5 := HA5.out.bx
                  have hkj : j < kb := by have := HA4.out.size; omega
                  have hkw : wr.heap.size ≤ kb := by have := HF4.out.size; omega
                  clear hcv hb5 hkey HA4 HJ4 hk1
                  go_wp2_with (fail)
                  by_cases hq2 : ∃ r3, r2.dropWhile wsB = 58 :: r3
                  · obtain ⟨r3, hS2⟩ := hq2
                    have HQ8 : Hid (res = mVal lit k1 (d + 1) (L.map OMem.nt) name r3) := by show _ = _; rw [HQ7.out, mColon_ok hS2]
                    refine (scanFor_ok (x := 58) HJ5.out hS2 (by decide)).mono ?_
                    rintro e w6 ⟨rfl, hf6, hJ6⟩
                    have HA6 := Lib.hid (HA5.out.keep hf6 hJ6)
                    have HJ6 := Lib.hid hJ6
                    have HF6 := Lib.hid (HF5.out.trans hf6)
                    have HK6 := Lib.hid (HK5.out.fr hf6 (by omega))
                    have hkl6 : kb < w6.heap.size := by have := hf6.size; omega
                    have hbx6 := HA6.out.bx
                    clear hS2 hf6 hJ6 HQ7 HA5 HJ5 HF5 HK5 hk2
                    go_wp2_with (fail)
                    cases ho : pElem lit k1 (d + 1) r3 with
                    | stuck => exact absurd (HQ8.out.trans (by rw [mVal, ho])) HNS.out
                    | err =>
                      have HE2 : Hid (res = .err) := by show _ = _; rw [HQ8.out, mVal, ho]
                      refine (HEH.out k1 (by omega) _ j A c D r3 (d + 1) (by omega) HJ6.out (by rw [ho]; exact fun h => by cases h)).mono ?_
                      rintro e w7 hP
                      rw [ho] at hP
                      obtain ⟨⟨v, ⟨t, a, rfl⟩, rfl⟩, hf7, r7, hJ7⟩ := hP
                      unfold zeroNode
                      have HA7 := Lib.hid (HA6.out.keep hf7 hJ7)
                      clear ho HQ8 hf7 hJ7
                      obtain ⟨s0, s1, s2, s3, sf, sl⟩ := slot_cells HA7.out.slot
                      have hfz0 := sf 0
                      have hfz1 := sf 1
                      have hfz2 := sf 2
                      have hfz3 := sf 3
                      clear sf
                      go_wp2
                      refine object_end ((HA7.out.set4 (.int .u8 0) (.string ⟨#[]⟩) (.slice none 0 0) (.slice none 0 0)).alloc _) rfl rfl ?_
                      intro W' _ _ hF hJ'
                      exact NPost.err HE2.out ⟨_, _, rfl⟩ hF hJ'
                    | ok t r4 =>
                      have HQ9 : Hid (res = if nameB name = true ∧ (L.map OMem.nt).length < 256 then pMems lit k1 (d + 1) true (L.map OMem.nt ++ [(name, t)]) r4 else .stuck) := by show _ = _; rw [HQ8.out, mVal, ho]
                      by_cases hn : nameB name = true ∧ (L.map OMem.nt).length < 256
                      · have HQ10 : Hid (pMems lit k1 (d + 1) true ((L.map OMem.nt) ++ [(name, t)]) r4 = res) := by show _ = _; rw [HQ9.out, if_pos hn]
                        refine (HEH.out k1 (by omega) _ j A c D r3 (d + 1) (by omega) HJ6.out (by rw [ho]; exact fun h => by cases h)).mono ?_
                        rintro e w7 hP
                        rw [ho] at hP
                        obtain ⟨x0, x1, x2, x3, rfl, hf7, hJ7, hnd⟩ := hP
                        obtain ⟨kd, sx, a1, n1, c1, a2, n2, c2, rfl, rfl, rfl, rfl⟩ := hnd.shape
                        have hs6 := HF6.out.size
                        have hs7 := hf7.size
                        have hsA := HA6.out.size
                        obtain ⟨W7, hW7⟩ : ∃ W7, W7 = (w7.alloc (.cells #[.int .u8 kd, .string sx, .slice a1 n1 c1, .slice a2 n2 c2] 206)).alloc (.cells #[.int .u8 kd, .string sx, .slice a1 n1 c1, .slice a2 n2 c2] 206) := ⟨_, rfl⟩
                        have hB7 : Below w7.heap.size w7 W7 := by rw [hW7]; exact ((Below.refl _ _).alloc (Nat.le_refl _) _).alloc (by rw [World.size_alloc]; omega) _
                        have hsW : W7.heap.size = w7.heap.size + 2 := by rw [hW7, World.size_alloc, World.size_alloc]
                        have HF7 := Lib.hid ((HF6.out.trans hf7).below hB7)
                        have HJ7 := Lib.hid (hJ7.below hB7)
                        have HK7 := Lib.hid ((HK6.out.fr hf7 (by omega)).move (fun hl => hB7.block kb hl))
                        have HND : Hid (ND (fun k => wr.heap.size ≤ k) W7 [.int .u8 kd, .string sx, .slice a1 n1 c1, .slice a2 n2 c2] t) := (hnd.stay hB7).mono (fun k _ hp => by omega)
                        have HPC : Hid (∀ (i : Nat) (u : Value), [Value.int .u8 kd, .string sx, .slice a1 n1 c1, .slice a2 n2 c2][i]? = some u → W7.cell? ⟨w7.heap.size + 1, i, none⟩ = some u) := by
                          intro i u hu
                          have := new_cells (w := w7.alloc (.cells #[.int .u8 kd, .string sx, .slice a1 n1 c1, .slice a2 n2 c2] 206)) (T := 206) i u hu
                          rw [World.size_alloc] at this
                          rw [hW7]; exact this
                        have HOWN : Hid (W7.ownsRow (w.heap.size + 2) 257 3 (.slice (some ⟨g, 0, none⟩) L.length cp) L.length (L.flatMap fun x => x.m.cells)) := ownsRow_fr HR.out.own HF7.out (by omega)
                        have HLN : Hid (L.length < 256 ∧ NameOK ⟨name.toArray⟩) := ⟨by simpa using hn.2, nameB_ok hn.1 hnl⟩
                        have hsB : w.heap.size + 2 ≤ W7.heap.size := by omega
                        have HPA : Hid ((wr.heap.size ≤ kb ∧ kb < W7.heap.size) ∧ wr.heap.size ≤ w7.heap.size + 1 ∧ w7.heap.size + 1 < W7.heap.size) := ⟨⟨hkw, by omega⟩, by omega, by omega⟩
                        clear ho HQ8 HQ9 hf7 hJ7 hnd hn HA6 HJ6 HF6 HK6 hB7
                        go_wp2_with (fail)
                        rw [← hW7]
                        clear hW7
                        refine (appendMember_any HOWN.out HLN.out.1 (by intro u hu; simp only [List.mem_cons, List.not_mem_nil, or_false] at hu; rcases hu with rfl | rfl | rfl <;> rfl) hsB).mono ?_
                        rintro e w8 ⟨v', rfl, hown', hgrow, hat⟩
                        have HR8 := Lib.hid (HR.out.push HF7.out HJ7.out ⟨⟨⟨name.toArray⟩, .slice (some ⟨kb, 0, none⟩) (units ⟨name.toArray⟩).length kc, w7.heap.size + 1, [.int .u8 kd, .string sx, .slice a1 n1 c1, .slice a2 n2 c2], t⟩, units ⟨name.toArray⟩, kb, kc⟩ rfl rfl HK7.out HPA.out.1 HND.out HLN.out.2 HPA.out.2 HPC.out hown' hgrow hat)
                        clear hown' hgrow hat
                        go_wp2
                        go_roundg (k1)
                        case measure => omega
                        case rel => exact ⟨_, true, r4, by show _ = _; rw [List.map_append]; exact HQ10.out, rfl, by omega, by rw [List.length_append]; have := HLN.out.1; simp; omega, HR8.out⟩
                      · exact absurd (HQ9.out.trans (by rw [if_neg hn])) HNS.out
                  · have HE2 : Hid (res = .err) := by show _ = _; rw [HQ7.out, mColon_err hq2]
                    refine (scanFor_err (x := 58) HJ5.out (fun r e => hq2 ⟨r, e⟩)).mono ?_
                    rintro e w6 ⟨v, ⟨t, a, rfl⟩, rfl, hf6, r6, hJ6⟩
                    have HA6 := Lib.hid (HA5.out.keep hf6 hJ6)
                    clear hq2 hf6 hJ6
                    obtain ⟨s0, s1, s2, s3, sf, sl⟩ := slot_cells HA6.out.slot
                    have hfz0 := sf 0
                    have hfz1 := sf 1
                    have hfz2 := sf 2
                    have hfz3 := sf 3
                    clear sf
                    go_wp2
                    refine object_end (HA6.out.set4 (.int .u8 0) (.string ⟨#[]⟩) (.slice none 0 0) (.slice none 0 0)) rfl rfl ?_
                    intro W' _ _ hF hJ'
                    exact NPost.err HE2.out ⟨_, _, rfl⟩ hF hJ'
              · have HE2 : Hid (res = .err) := by show _ = _; rw [HQ5.out, mQuote_err hq]
                refine (scanFor_err (x := 34) HJ2.out (fun r e => hq ⟨r, e⟩)).mono ?_
                rintro e w3 ⟨v, ⟨t, a, rfl⟩, rfl, hf3, r3, hJ3⟩
                have HA3 := Lib.hid (HA2.out.keep hf3 hJ3)
                clear hq hf3 hJ3
                obtain ⟨s0, s1, s2, s3, sf, sl⟩ := slot_cells HA3.out.slot
                have hfz0 := sf 0
                have hfz1 := sf 1
                have hfz2 := sf 2
                have hfz3 := sf 3
                clear sf
                go_wp2
                refine object_end (HA3.out.set4 (.int .u8 0) (.string ⟨#[]⟩) (.slice none 0 0) (.slice none 0 0)) rfl rfl ?_
                intro W' _ _ hF hJ'
                exact NPost.err HE2.out ⟨_, _, rfl⟩ hF hJ'
      · have HS := Lib.hid (show ∀ x ys, r.dropWhile wsB = x :: ys → 127 < x.toNat from fun x ys e => by
          rcases Nat.lt_or_ge 127 x.toNat with h | h
          · exact h
          · exact absurd ⟨x, ys, e, h⟩ hpk)
        clear hpk
        have HE2 : Hid (res = .err) := by
          show _ = _
          rw [HQ2.out, pMems_succ']
          cases hd' : r.dropWhile wsB with
          | nil => rfl
          | cons x ys => simp only; rw [if_pos (HS.out x ys hd')]
        go_wp2_with (fail)
        refine (peek_err HJ.out HS.out).mono ?_
        rintro e w1 ⟨v, ⟨t, a, rfl⟩, rfl, hf1, r1, hJ1⟩
        have HA1 := Lib.hid (HR.out.st.keep hf1 hJ1)
        obtain ⟨s0, s1, s2, s3, sf, sl⟩ := slot_cells HA1.out.slot
        have hfz0 := sf 0
        have hfz1 := sf 1
        have hfz2 := sf 2
        have hfz3 := sf 3
        clear sf
        go_wp2
        refine object_end (HA1.out.set4 (.int .u8 0) (.string ⟨#[]⟩) (.slice none 0 0) (.slice none 0 0)) rfl rfl ?_
        intro W' _ _ hF hJ'
        exact NPost.err HE2.out ⟨_, _, rfl⟩ hF hJ'
end Go.Proofs.YtjganhmbjffjfaaGreatDoor
