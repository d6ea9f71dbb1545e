/- A node as it lies in memory, with its text; the reader's work as a plain function. -/
import Derived.Test.YtjganhmbjffjfaaGreatDoorJ9
import Derived.Test.YtjganhmbjffjfaaGreatDoorP3
open Go Go.RowKit
namespace Go.Proofs.YtjganhmbjffjfaaGreatDoor

/-- Texts with commas between. -/
def joinC : List (List UInt8) → List UInt8
  | [] => []
  | t :: l => t ++ l.flatMap fun u => 44 :: u
theorem joinC_snoc (l : List (List UInt8)) (t : List UInt8) : joinC (l ++ [t]) = if l = [] then t else joinC l ++ 44 :: t := by
  cases l with
  | nil => simp [joinC]
  | cons x l => simp [joinC]
theorem flat_le : ∀ {l : List (List UInt8)} {t : List UInt8}, t ∈ l → t.length ≤ (l.flatMap fun u => 44 :: u).length
  | y :: l, t, h => by
    simp only [List.flatMap_cons, List.length_append, List.length_cons]
    rcases List.mem_cons.1 h with rfl | h
    · omega
    · have := flat_le h; omega
theorem joinC_le {l : List (List UInt8)} {t : List UInt8} (h : t ∈ l) : t.length ≤ (joinC l).length := by
  cases l with
  | nil => cases h
  | cons x l =>
    simp only [joinC, List.length_append]
    rcases List.mem_cons.1 h with rfl | h
    · omega
    · have := flat_le h; omega
/-- A name that decorateString is shown at. -/
def NameOK (s : ByteArray) : Prop := s.size ≤ 4294967296 ∧ True
/-- A member as it lies in memory: its name, its key's value, its node's block, the node's cells, its text. -/
structure Mem where
  name : ByteArray
  sk : Value
  p : Nat
  v : List Value
  t : List UInt8
def Mem.cells (m : Mem) : List Value := [.string m.name, m.sk, .pointer (some ⟨m.p, 0, none⟩)]
def Mem.text (m : Mem) : List UInt8 := deco m.name.data.toList ++ 58 :: m.t
/-- A node's four cells, laid in a world, its text. All its blocks hold P. -/
inductive ND (P : Nat → Prop) (w : World) : List Value → List UInt8 → Prop
  | scal (s : ByteArray) : ND P w [.int .u8 0, .string s, .slice none 0 0, .slice none 0 0] s.data.toList
  | arr (b n c : Nat) (L : List (List Value × List UInt8)) (hb : P b) (hlt : b < w.heap.size) (hn : L.length = n) (hc : n ≤ c) (hm : c ≤ maxLen)
      (hv : ∀ x ∈ L, ND P w x.1 x.2)
      (hcell : ∀ j u, (L.flatMap (·.1))[j]? = some u → w.cell? ⟨b, j, none⟩ = some u) :
      ND P w [.int .u8 1, .string ⟨#[]⟩, .slice (some ⟨b, 0, none⟩) n c, .slice none 0 0] (91 :: joinC (L.map (·.2)) ++ [93])
  | obj (b n c : Nat) (L : List Mem) (hb : P b) (hlt : b < w.heap.size) (hn : L.length = n) (hc : n ≤ c) (hm : c ≤ maxLen)
      (hv : ∀ x ∈ L, ND P w x.v x.t) (hname : ∀ x ∈ L, NameOK x.name) (hp : ∀ x ∈ L, P x.p ∧ x.p < w.heap.size)
      (hpc : ∀ x ∈ L, ∀ (j : Nat) (u : Value), x.v[j]? = some u → w.cell? ⟨x.p, j, none⟩ = some u)
      (hcell : ∀ j u, (L.flatMap Mem.cells)[j]? = some u → w.cell? ⟨b, j, none⟩ = some u) :
      ND P w [.int .u8 2, .string ⟨#[]⟩, .slice none 0 0, .slice (some ⟨b, 0, none⟩) n c] (123 :: joinC (L.map Mem.text) ++ [125])
theorem ND.len {P : Nat → Prop} {w : World} {v : List Value} {t : List UInt8} (h : ND P w v t) : v.length = 4 := by cases h <;> rfl
theorem ND.four {P : Nat → Prop} {w : World} {v : List Value} {t : List UInt8} (h : ND P w v t) : ∃ x0 x1 x2 x3, v = [x0, x1, x2, x3] := by cases h <;> exact ⟨_, _, _, _, rfl⟩
theorem ND.one {P : Nat → Prop} {w : World} {v : List Value} {t : List UInt8} (h : ND P w v t) : ∀ u ∈ v, u.oneCell' = true := by
  cases h <;> · intro u hu; simp only [List.mem_cons, List.not_mem_nil, or_false] at hu; rcases hu with rfl | rfl | rfl | rfl <;> rfl
theorem ND.mono {P Q : Nat → Prop} {w : World} (hPQ : ∀ k, k < w.heap.size → P k → Q k) {v : List Value} {t : List UInt8} (h : ND P w v t) : ND Q w v t := by
  induction h with
  | scal s => exact .scal s
  | arr b n c L hb hlt hn hc hm hv hcell ih => exact .arr b n c L (hPQ b hlt hb) hlt hn hc hm ih hcell
  | obj b n c L hb hlt hn hc hm hv hname hp hpc hcell ih => exact .obj b n c L (hPQ b hlt hb) hlt hn hc hm ih hname (fun x hx => ⟨hPQ _ (hp x hx).2 (hp x hx).1, (hp x hx).2⟩) hpc hcell
theorem ND.frame {P : Nat → Prop} {w w' : World} (hs : w.heap.size ≤ w'.heap.size) (hk : ∀ k, k < w.heap.size → P k → w'.heap[k]? = w.heap[k]?) {v : List Value} {t : List UInt8} (h : ND P w v t) : ND P w' v t := by
  induction h with
  | scal s => exact .scal s
  | arr b n c L hb hlt hn hc hm hv hcell ih =>
    exact .arr b n c L hb (Nat.lt_of_lt_of_le hlt hs) hn hc hm ih fun j u hj => (World.cell?_of_block (hk b hlt hb)).trans (hcell j u hj)
  | obj b n c L hb hlt hn hc hm hv hname hp hpc hcell ih =>
    exact .obj b n c L hb (Nat.lt_of_lt_of_le hlt hs) hn hc hm ih hname (fun x hx => ⟨(hp x hx).1, Nat.lt_of_lt_of_le (hp x hx).2 hs⟩)
      (fun x hx j u hj => (World.cell?_of_block (hk _ (hp x hx).2 (hp x hx).1)).trans (hpc x hx j u hj))
      fun j u hj => (World.cell?_of_block (hk b hlt hb)).trans (hcell j u hj)
theorem ND.stay {P : Nat → Prop} {w w' : World} (hb : Below w.heap.size w w') {v : List Value} {t : List UInt8} (h : ND P w v t) : ND P w' v t :=
  h.frame hb.size fun k hk _ => hb.block k hk
theorem ND.fr {P : Nat → Prop} {j : Nat} {w w' : World} (hf : Fr j w w') (hP : ∀ k, P k → k ≠ j) {v : List Value} {t : List UInt8} (h : ND P w v t) : ND P w' v t :=
  h.frame hf.size fun k hk hp => hf.block k hk (hP k hp)

/-- What reading comes to: not told here, an error, a text and what is left. -/
inductive Out where
  | stuck
  | err
  | ok (t r : List UInt8)
/-- Whether a name is told of here. -/
def nameB (_ : List UInt8) : Bool := true
theorem nameB_ok {s : List UInt8} (_ : nameB s = true) (hl : s.length ≤ 4294967296) : NameOK ⟨s.toArray⟩ := ⟨by simpa [ByteArray.size] using hl, trivial⟩
/-- The runes of a string from a place on. -/
def runeL (s : ByteArray) : Nat → Nat → List Nat
  | 0, _ => []
  | f + 1, i => if i < s.size then (Utf8.decode s i).1 :: runeL s f (i + (Utf8.decode s i).2) else []
def runes (s : ByteArray) : List Nat := runeL s s.size 0
/-- A rune's units of UTF-16. -/
def unit16 (r : Nat) : List Nat :=
  if r < 55296 ∨ (57344 ≤ r ∧ r < 65536) then [r] else if 65536 ≤ r ∧ r ≤ 1114111 then [55296 + (r - 65536) / 1024, 56320 + (r - 65536) % 1024] else [65533]
def units (s : ByteArray) : List Nat := (runes s).flatMap unit16
/-- compareSortKeys, plain. -/
def cmpK : List Nat → List Nat → Int
  | x :: a, y :: b => if x = y then cmpK a b else (x : Int) - y
  | a, b => (a.length : Int) - b.length
theorem cmpK_nil (b : List Nat) : cmpK [] b = -(b.length : Int) := by cases b <;> simp [cmpK]
theorem cmpK_nil' (a : List Nat) : cmpK a [] = (a.length : Int) := by cases a <;> simp [cmpK]
theorem cmpK_cons (x y : Nat) (a b : List Nat) : cmpK (x :: a) (y :: b) = if x = y then cmpK a b else (x : Int) - y := rfl
theorem cmpK_zero : ∀ (a b : List Nat), cmpK a b = 0 ↔ a = b
  | [], b => by rw [cmpK_nil]; cases b <;> simp <;> omega
  | x :: a, [] => by rw [cmpK_nil']; simp <;> omega
  | x :: a, y :: b => by
    rw [cmpK_cons]
    by_cases h : x = y
    · rw [if_pos h, cmpK_zero a b]; simp [h]
    · rw [if_neg h]; simp only [List.cons.injEq, h, false_and, iff_false]; omega
theorem cmpK_swap : ∀ (a b : List Nat), cmpK a b = - cmpK b a
  | [], b => by rw [cmpK_nil, cmpK_nil']
  | x :: a, [] => by rw [cmpK_nil, cmpK_nil']; simp
  | x :: a, y :: b => by
    rw [cmpK_cons, cmpK_cons]
    by_cases h : x = y
    · rw [if_pos h, if_pos h.symm, cmpK_swap a b]
    · rw [if_neg h, if_neg (fun e => h e.symm)]; omega
theorem cmpK_trans : ∀ (a b c : List Nat), cmpK a b < 0 → cmpK b c < 0 → cmpK a c < 0
  | [], b, [], h1, h2 => by rw [cmpK_nil] at h1; rw [cmpK_nil'] at h2; omega
  | [], b, z :: c, _, _ => by rw [cmpK_nil]; simp <;> omega
  | x :: a, [], c, h1, _ => by rw [cmpK_nil'] at h1; omega
  | x :: a, y :: b, [], _, h2 => by rw [cmpK_nil'] at h2; omega
  | x :: a, y :: b, z :: c, h1, h2 => by
    rw [cmpK_cons] at *
    by_cases h : x = y
    · rw [if_pos h] at h1
      subst h
      by_cases k : x = z
      · rw [if_pos k] at h2 ⊢; exact cmpK_trans a b c h1 h2
      · rw [if_neg k] at h2 ⊢; exact h2
    · rw [if_neg h] at h1
      by_cases k : y = z
      · subst k; rw [if_neg h]; exact h1
      · rw [if_neg k] at h2
        rw [if_neg (by omega)]; omega
/-- A member's name and its value's text. -/
abbrev NT := List UInt8 × List UInt8
def keyN (x : NT) : List Nat := units ⟨x.1.toArray⟩
def insN (x : NT) : List NT → List NT
  | [] => [x]
  | y :: l => if cmpK (keyN x) (keyN y) < 0 then x :: y :: l else y :: insN x l
def sortN : List NT → List NT
  | [] => []
  | x :: l => insN x (sortN l)
def dupN : List NT → Bool
  | x :: y :: l => decide (cmpK (keyN x) (keyN y) = 0) || dupN (y :: l)
  | _ => false
def textN (x : NT) : List UInt8 := deco x.1 ++ 58 :: x.2
def finN (acc : List NT) (r : List UInt8) : Out :=
  if dupN (sortN acc) = true then .err else .ok (123 :: joinC ((sortN acc).map textN) ++ [125]) r
def strOut (r : List UInt8) : Out :=
  match pStr (r.length + 1) [] r with
  | none => .err
  | some (s, r') => if nameB s = true then .ok (deco s) r' else .stuck
/-- What a token's text is: not told here, an error, a text. -/
abbrev Lit := List UInt8 → Option (Option ByteArray)
def tokOut (lit : Lit) (s : List UInt8) : Out :=
  match pTok s with
  | none => .err
  | some (t, r) => match lit t with
    | none => .stuck
    | some none => .err
    | some (some q) => .ok q.data.toList r
mutual
def pElem (lit : Lit) : Nat → Nat → List UInt8 → Out
  | 0, _, _ => .stuck
  | k + 1, d, s => match s.dropWhile wsB with
    | [] => .err
    | x :: r => if 127 < x.toNat then .err
      else if x = 123 then (if 10000 < d + 1 then .err else pMems lit k (d + 1) false [] r)
      else if x = 34 then strOut r
      else if x = 91 then (if 10000 < d + 1 then .err else pEls lit k (d + 1) false [] r)
      else tokOut lit (x :: r)
def pEls (lit : Lit) : Nat → Nat → Bool → List (List UInt8) → List UInt8 → Out
  | 0, _, _, _, _ => .stuck
  | k + 1, d, nx, acc, s => match s.dropWhile wsB with
    | [] => .err
    | x :: r => if 127 < x.toNat then .err
      else if x = 93 then .ok (91 :: joinC acc ++ [93]) r
      else if nx = true ∧ x ≠ 44 then .err
      else match pElem lit k d (if nx = true then r else x :: r) with
        | .ok t r2 => if acc.length < 256 then pEls lit k d true (acc ++ [t]) r2 else .stuck
        | o => o
def pMems (lit : Lit) : Nat → Nat → Bool → List NT → List UInt8 → Out
  | 0, _, _, _, _ => .stuck
  | k + 1, d, nx, acc, s => match s.dropWhile wsB with
    | [] => .err
    | x :: r => if 127 < x.toNat then .err
      else if x = 125 then finN acc r
      else if nx = true ∧ x ≠ 44 then .err
      else match (if nx = true then r else x :: r).dropWhile wsB with
        | [] => .err
        | y :: r1 => if y ≠ 34 then .err else match pStr (r1.length + 1) [] r1 with
          | none => .err
          | some (name, r2) => match r2.dropWhile wsB with
            | [] => .err
            | z :: r3 => if z ≠ 58 then .err else match pElem lit k d r3 with
              | .ok t r4 => if nameB name = true ∧ acc.length < 256 then pMems lit k d true (acc ++ [(name, t)]) r4 else .stuck
              | o => o
end
/-- The whole text's. -/
def pAll (lit : Lit) (k : Nat) (s : List UInt8) : Out :=
  match pElem lit k 0 s with
  | .ok t r => if r.all wsB = true then .ok t [] else .err
  | o => o
end Go.Proofs.YtjganhmbjffjfaaGreatDoor
