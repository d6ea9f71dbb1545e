/- append onto a row of the call's own, at a step of a region that draws: any number of news, none too. What the law of an object's or a list's parts puts together: plain (for FnCanonParts). -/
import Derived.Test.YtjganhmbjffjfaaGreatDoorZ9
import Derived.Maps.AppendAt
import Derived.Deep.RegionLawGrows
import Derived.Deep.AppendLies
import Derived.RegionTactic
import Derived.Test.YtjganhmbjffjfaaGreatDoorZ7
import Derived.Sort.Walk0
open Go Go.RowKit
namespace Go.Proofs.YtjganhmbjffjfaaGreatDoor
theorem step_append_at {P : Program} {w : World} {ops : Array Oper} {o : Oper} {a : Act} {K : Act → World → Prop} {Q : Exit → Act → World → Prop} {E : Prop} (hgd : o.guard = none) (s x : Operand) (t : TypeId)
    (ho : o.op = .call { callee := .builtin .append, args := #[s, x], argTypes := #[t, t] })
    (base : Nat) (e : TypeId) (i : TypeInfo) (z : Value) (size bytes : Nat) (ht : P.underlying t = some (.slice e)) (hi : P.info? e = some i) (hz : i.zero = some z)
    (hsize : i.size = size) (hby : i.bytes = bytes) (hzs : z.cells.size = size) (hsz : 0 < size)
    (v : Value) (n : Nat) (xs : List Value) (hs : a.eval s = v) (hown : w.ownsRow base e size v n xs)
    (ad : Addr) (m c : Nat) (news : List Value) (hx : a.eval x = .slice (some ad) m c) (hl : news.length = m * size) (hnews : ∀ (j : Nat) u, news[j]? = some u → w.cell? (ad.add j) = some u) (h1 : ∀ u ∈ news, u.oneCell' = true)
    (h63 : n + m ≤ maxLen) (hbytes : (n + m) * bytes ≤ 140737488355328) (hbase : base ≤ w.heap.size)
    (h : ∀ v' w', w'.ownsRow base e size v' (n + m) (xs ++ news) → w.grownBy w' v.ownBlock → (v' = .slice none 0 0 ↔ v = .slice none 0 0 ∧ m = 0) → (v'.ownBlock = v.ownBlock ∨ v'.ownBlock = some w.heap.size) → K (a.put o.dst v') w') :
    if Region.wanted o (yielded ops a.tmps) = true then Oper.wp P o a w K Q else E := by
  have hw : Region.wanted o (yielded ops a.tmps) = true := by simp [Region.wanted, hgd]
  rw [if_pos hw]
  obtain ⟨v', w', hrun, h2, h3, h4, h5⟩ := run_append_own_at (P := P) w base t o.type e i z size bytes ht hi hz hsize hby hzs hsz v n xs hown ad m c news hl hnews h1 h63 hbytes hbase
  unfold Oper.wp execOp
  simp only [ho, resolve, invoke, builtin, Sem.run_bind, Sem.run_pure, Result.andThen_ok, List.map_toArray, List.map_cons, List.map_nil, hs, hx, hrun]
  exact h v' w' h2 h3 h4 h5
/-- The indices as they lie. -/
def intsOf (σ : List Nat) : List Value := σ.map fun (i : Nat) => Value.int .i64 (i : Int)
theorem intsOf_one (σ : List Nat) : ∀ u ∈ intsOf σ, u.oneCell' = true := by
  intro u hu
  obtain ⟨i, _, rfl⟩ := List.mem_map.1 hu
  rfl
theorem intsOf_ins (σ : List Nat) (p i : Nat) : intsOf (insAt σ p i) = intsOf (σ.take p) ++ (.int .i64 (i : Int) :: intsOf (σ.drop p)) := by
  unfold intsOf insAt
  rw [List.map_append, List.map_cons]
/-- The head of FnCanonParts's first loop. -/
def OrdR (A : List (List UInt8)) (ob : Bool) (R : Nat) (w : World) (j : Nat) (v : Value) (wr : World) : Prop :=
  ∃ (σ : List Nat) (g cap : Nat), v = .slice (some ⟨g, 0, none⟩) j cap ∧ wr.ownsRow R 3 1 v j (intsOf σ) ∧ σ.Perm (List.range j) ∧ (ob = true → SortedS A σ) ∧ (ob = false → σ = List.range j) ∧ Below R w wr
theorem ord_step {A : List (List UInt8)} {ob : Bool} {R : Nat} {w wr w' : World} {j p : Nat} {σ : List Nat} {v' : Value} {a : List UInt8} (hσ : σ.Perm (List.range j)) (hs : ob = true → SortedS A σ) (hr : ob = false → σ = List.range j ∧ p = j) (hb : Below R w wr) (hR : R ≤ wr.heap.size)
    (ha : ob = true → A[j]? = some a ∧ (∀ b ∈ pickS A (σ.drop p), leB a b = true) ∧ (p = 0 ∨ ∃ (k i : Nat) (b : List UInt8), p = k + 1 ∧ σ[k]? = some i ∧ A[i]? = some b ∧ leB b a = true))
    (hown : w'.ownsRow R 3 1 v' (j + 1) (intsOf (σ.take p) ++ (.int .i64 (j : Int) :: intsOf (σ.drop p)))) (hg : Below wr.heap.size wr w') : OrdR A ob R w (j + 1) v' w' := by
  obtain ⟨g, cap, rfl⟩ : ∃ g cap, v' = .slice (some ⟨g, 0, none⟩) (j + 1) cap := by
    rcases hown.2 with ⟨_, h0⟩ | ⟨g, cap, cur, e, _⟩
    · cases h0
    · exact ⟨g, cap, e⟩
  refine ⟨insAt σ p j, g, cap, rfl, by rw [intsOf_ins]; exact hown, ins_perm p hσ, fun h => ?_, fun h => ?_, hb.trans (hg.mono hR)⟩
  · obtain ⟨h1, h2, h3⟩ := ha h
    exact ins_sorted (hs h) h1 h2 h3
  · obtain ⟨h1, h2⟩ := hr h
    unfold insAt
    rw [h1, h2, List.range_succ, List.take_of_length_le (by simp), List.drop_of_length_le (by simp)]
def opB (ob : Bool) : List UInt8 := if ob then [123] else [91]
def clB (ob : Bool) : List UInt8 := if ob then [125] else [93]
def kdB (ob : Bool) : List UInt8 := if ob then [111, 98, 106, 101, 99, 116] else [108, 105, 115, 116]
/-- The items in the order in which they are given. -/
def itmL (ob : Bool) (A L : List (List UInt8)) : List (List UInt8) := if ob then (A.zip L).map (fun p => encStr p.1 ++ 58 :: p.2) else L
theorem canT_parts {t : VT} {u : List UInt8} (ob : Bool) (h : CanT t u) (hk : t.kind.toList = kdB ob) : ∃ L : List (List UInt8), L.length = t.list.length ∧ L.length ≤ 65536 ∧ (∀ (j : Nat) (x : VT) (v : List UInt8), t.list[j]? = some x → L[j]? = some v → CanT x v) ∧
    (ob = false → u = 91 :: joinC L ++ [93]) ∧ (ob = true → t.keys.length = t.list.length ∧ (t.keys.map (·.data.toList)).Nodup ∧ (∀ s ∈ t.keys, s.size ≤ 4294967296) ∧ u = 123 :: joinC (itemsT ((t.keys.map (·.data.toList)).zip L)) ++ [125]) := by
  have hne : ∀ l : List UInt8, t.kind = ⟨l.toArray⟩ → l = kdB ob := by
    intro l e
    rw [← hk, e, ByteArray.toList_eq]
  cases h with
  | null _ hk' => have := hne [110, 117, 108, 108] hk'; cases ob <;> simp [kdB] at this
  | bool _ β hk' _ => have := hne [98, 111, 111, 108] hk'; cases ob <;> simp [kdB] at this
  | num _ v hk' _ _ => have := hne [110, 117, 109, 98, 101, 114] hk'; cases ob <;> simp [kdB] at this
  | str _ hk' _ => have := hne [115, 116, 114, 105, 110, 103] hk'; cases ob <;> simp [kdB] at this
  | list _ L hk' hl hn hv =>
    have := hne [108, 105, 115, 116] hk'
    cases ob with
    | true => simp [kdB] at this
    | false => exact ⟨L, hl, hn, hv, (fun _ => rfl), fun h => by cases h⟩
  | obj _ L hk' hl hn hkl hd hks hv =>
    have := hne [111, 98, 106, 101, 99, 116] hk'
    cases ob with
    | false => simp [kdB] at this
    | true => exact ⟨L, hl, hn, hv, (fun h => by cases h), fun _ => ⟨hkl, hd, hks, rfl⟩⟩
theorem itm_len {ob : Bool} {A L : List (List UInt8)} (h : ob = true → A.length = L.length) : (itmL ob A L).length = L.length := by
  unfold itmL
  cases ob with
  | false => rfl
  | true => rw [if_pos rfl, List.length_map, List.length_zip, h rfl, Nat.min_self]
theorem itm_get {ob : Bool} {A L : List (List UInt8)} {x : Nat} {a l : List UInt8} (hl : L[x]? = some l) (ha : ob = true → A[x]? = some a) : (itmL ob A L)[x]? = some (if ob then encStr a ++ 58 :: l else l) := by
  unfold itmL
  cases ob with
  | false => exact hl
  | true =>
    rw [if_pos rfl, if_pos rfl, List.getElem?_map]
    have : (A.zip L)[x]? = some (a, l) := by rw [List.getElem?_zip_eq_some]; exact ⟨ha rfl, hl⟩
    rw [this]
    rfl
theorem parts_text {ob : Bool} {A L : List (List UInt8)} {σ : List Nat} {n : Nat} {u : List UInt8} (hn : L.length = n) (hA : ob = true → A.length = n ∧ A.Nodup) (hp : σ.Perm (List.range n)) (hs : ob = true → SortedS A σ) (hr : ob = false → σ = List.range n)
    (h1 : ob = false → u = 91 :: joinC L ++ [93]) (h2 : ob = true → u = 123 :: joinC (itemsT (A.zip L)) ++ [125]) : u = opB ob ++ joinC (pickS (itmL ob A L) σ) ++ clB ob := by
  cases ob with
  | false =>
    rw [h1 rfl, hr rfl]
    have e : pickS (itmL false A L) (List.range n) = L := by
      show pickS L (List.range n) = L
      rw [pick_range, List.take_of_length_le (by omega)]
    rw [e]
    rfl
  | true =>
    obtain ⟨hl, hd⟩ := hA rfl
    rw [h2 rfl, order_items (σ := σ) (by omega) hd (by rw [hl]; exact hp) (hs rfl)]
    rfl
/-- What stands when i items are written. -/
def preW (ob : Bool) (I : List (List UInt8)) (i : Nat) : List UInt8 := opB ob ++ joinC (I.take i)
theorem preW_step {ob : Bool} {I : List (List UInt8)} {i : Nat} {x : List UInt8} (h : I[i]? = some x) : preW ob I (i + 1) = (if 0 < i then preW ob I i ++ [44] else preW ob I i) ++ x := by
  unfold preW
  have hi : i < I.length := (List.getElem?_eq_some_iff.1 h).1
  rw [List.take_add_one, h, Option.toList_some, joinC_snoc]
  by_cases h0 : i = 0
  · subst h0
    simp [joinC]
  · have h1 : I.take i ≠ [] := by
      intro e
      have := congrArg List.length e
      rw [List.length_take] at this
      simp at this
      rcases this with h | h
      · exact h0 h
      · rw [h] at hi; simp at hi
    rw [if_neg h1, if_pos (by omega)]
    simp [List.append_assoc]
theorem preW_len {ob : Bool} (I : List (List UInt8)) (i : Nat) : (preW ob I i).length ≤ (joinC I).length + 1 := by
  unfold preW
  have h := joinC_pre I i
  have h1 : (opB ob).length = 1 := by cases ob <;> rfl
  rw [List.length_append, h1]
  omega
theorem preW_all {ob : Bool} (I : List (List UInt8)) : preW ob I I.length = opB ob ++ joinC I := by
  unfold preW
  rw [List.take_length]
theorem cmp_le {s a : ByteArray} (h : Op.bytesLess s.toList a.toList = true ∨ (s.toList == a.toList) = true) : leB s.data.toList a.data.toList = true := by
  rw [data_of, data_of]
  unfold leB
  rw [bytesLess_eq] at h
  simp only [decide_eq_true_eq, beq_iff_eq] at h ⊢
  rcases h with h | h
  · exact List.le_of_lt h
  · rw [h]; exact List.le_refl _
theorem cmp_gt {s a : ByteArray} (h : Op.bytesLess s.toList a.toList = false) : leB a.data.toList s.data.toList = true := by
  rw [data_of, data_of]
  unfold leB
  rw [bytesLess_eq] at h
  simp only [decide_eq_true_eq, decide_eq_false_iff_not] at h ⊢
  exact List.not_lt.1 h
end Go.Proofs.YtjganhmbjffjfaaGreatDoor
