/- cjson.encodeCanonical at null, a bool, a string, a number: with the rows that the Builder keeps apart from. Maps of any; a value as it lies in memory, with its canonical text; lists. slices.Sort at a row of texts; cjson.encodeCanonical at a map of any; at every value. cjson.EncodeCanonical at every value. -/
import Derived.Test.YtjganhmbjffjfaaGreatDoorV0
import Derived.Test.YtjganhmbjffjfaaGreatDoorC8
import Derived.Test.YtjganhmbjffjfaaGreatDoorFI
import Derived.Test.YtjganhmbjffjfaaGreatDoorSheli
import Derived.Maps.RangeWalk
import Derived.Sort.KeysCollected
import Derived.Sort.OwnSorted
import Derived.Shelf.Slices.In.SortNone
import Derived.Shelf.Slices.In.SortNone2
import Derived.Lib.OwnBridge
open Go Go.RowKit Go.Maps
namespace Go.Proofs.YtjganhmbjffjfaaGreatDoor
/-- What encodeCanonical leaves: the Builder has t more; what it keeps apart from is as it was. -/
def EncK (R b : Nat) (l t : List UInt8) (w : World) (e : Ending) (w' : World) : Prop := e = .returned .nilIface ∧ FrR R b w w' ∧ Kp b w w' ∧ PB R b (l ++ t) w'
theorem PB.R {R b : Nat} {l : List UInt8} {w : World} (h : PB R b l w) : R ≤ w.heap.size := by obtain ⟨_, _, _, _, _, _, hR⟩ := h; exact hR
set_option maxRecDepth 100000 in
set_option maxHeartbeats 4000000 in
theorem encP_null {R b : Nat} {l : List UInt8} {w : World} (hS : PB R b l w) (hl : l.length + 4 ≤ 70368744177664) : Calls Tryz.prog 64 #[.nilIface, .pointer (some ⟨b, 0, none⟩)] w (EncK R b l [110, 117, 108, 108] w) := by
  have HW := Lib.hid (writeString_pb ⟨#[110, 117, 108, 108]⟩ hS (by simp only [ByteArray.size, List.size_toArray, List.length_cons, List.length_nil]; omega))
  clear hS
  have a1 := as_nil_s
  have a2 := as_nil_b
  have a3 := as_nil_n
  go_enter Tryz.func64, Tryz.ntmps64
  go_wp2_with (go_at_call 92; refine HW.out.mono ?_; rintro e w1 ⟨rfl, hf, hk, hp⟩; have HP := Lib.hid (And.intro hf (And.intro hk hp)); clear hf hk hp)
  go_ret
  exact ⟨rfl, HP.out⟩
theorem as_b_s (v : Value) (w : World) : (Instr.typeAssert (.iface 4 v) 20 9 true).run Tryz.prog w = .ok (.tuple #[.string ⟨#[]⟩, .bool false]) w := by kernel_rfl
theorem as_b_yes (v : Value) (w : World) : (Instr.typeAssert (.iface 4 v) 20 4 true).run Tryz.prog w = .ok (.tuple #[v, .bool true]) w := by kernel_rfl
/-- The text of a bool. -/
def boolT (b : Bool) : List UInt8 := if b then [116, 114, 117, 101] else [102, 97, 108, 115, 101]
set_option maxRecDepth 100000 in
set_option maxHeartbeats 4000000 in
theorem encP_bool (β : Bool) {R b : Nat} {l : List UInt8} {w : World} (hS : PB R b l w) (hl : l.length ≤ 70368744177664) : Calls Tryz.prog 64 #[.iface 4 (.bool β), .pointer (some ⟨b, 0, none⟩)] w (EncK R b l (boolT β) w) := by
  have HW1 := Lib.hid (writeString_pb ⟨#[116, 114, 117, 101]⟩ hS (by simp only [ByteArray.size, List.size_toArray, List.length_cons, List.length_nil]; omega))
  have HW2 := Lib.hid (writeString_pb ⟨#[102, 97, 108, 115, 101]⟩ hS (by simp only [ByteArray.size, List.size_toArray, List.length_cons, List.length_nil]; omega))
  clear hS
  have a1 := as_b_s
  have a2 := as_b_yes
  cases β with
  | true =>
    go_enter Tryz.func64, Tryz.ntmps64
    go_wp2_with (go_at_call 92; (with_reducible refine HW1.out.mono ?_); rintro e w1 ⟨rfl, hf, hk, hp⟩; have HP := Lib.hid (And.intro hf (And.intro hk hp)); clear hf hk hp)
    go_ret
    exact ⟨rfl, HP.out⟩
  | false =>
    go_enter Tryz.func64, Tryz.ntmps64
    go_wp2_with (go_at_call 92; (with_reducible refine HW2.out.mono ?_); rintro e w1 ⟨rfl, hf, hk, hp⟩; have HP := Lib.hid (And.intro hf (And.intro hk hp)); clear hf hk hp)
    go_ret
    exact ⟨rfl, HP.out⟩
set_option maxRecDepth 100000 in
set_option maxHeartbeats 4000000 in
theorem encP_str (s : ByteArray) (hs : s.size ≤ 4294967296) {R b : Nat} {l : List UInt8} {w : World} (hS : PB R b l w) (hl : l.length + (encStr s.data.toList).length ≤ 70368744177664) : Calls Tryz.prog 64 #[.iface 9 (.string s), .pointer (some ⟨b, 0, none⟩)] w (EncK R b l (encStr s.data.toList) w) := by
  have HS := Lib.hid hS
  obtain ⟨t, ht⟩ : ∃ t : ByteArray, t = ⟨(encStr s.data.toList).toArray⟩ := ⟨_, rfl⟩
  have HT : Hid (t.data.toList = encStr s.data.toList) := by rw [ht]; exact Lib.hid rfl
  have htl : t.size = (encStr s.data.toList).length := by rw [ht]; simp [ByteArray.size]
  rw [← htl] at hl
  clear hS htl
  have HE := fun w => Lib.hid (encStr_any s hs w)
  rw [← ht] at HE
  clear ht
  have a1 := as_yes_s
  go_enter Tryz.func64, Tryz.ntmps64
  go_wp2_with (first
    | (go_at_call 93; refine (HE _).out.mono ?_; rintro e w1 ⟨rfl, hb⟩; have HB := Lib.hid hb; clear hb)
    | (go_at_call 92; refine (writeString_pb t (HS.out.below HB.out) (by omega)).mono ?_; rintro e w2 ⟨rfl, hf, hk, hp⟩
       rw [HT.out] at hp
       have HP : Hid (FrR R b w w2 ∧ Kp b w w2 ∧ PB R b (l ++ encStr s.data.toList) w2) := Lib.hid ⟨((FrR.refl R b w).below HS.out.R HB.out).trans hf, (Kp.below HS.out.lt HB.out).trans hk, hp⟩
       clear hf hk hp))
  go_ret
  exact ⟨rfl, HP.out⟩
set_option maxRecDepth 100000 in
set_option maxHeartbeats 4000000 in
theorem encP_num (s : ByteArray) (hs : s.size ≤ 4294967296) (v : Int) (h : Lib.parseIntB 64 s.data.toList = .ok v) {R b : Nat} {l : List UInt8} {w : World} (hS : PB R b l w) (hl : l.length + s.data.toList.length ≤ 70368744177664) : Calls Tryz.prog 64 #[.iface 128 (.string s), .pointer (some ⟨b, 0, none⟩)] w (EncK R b l s.data.toList w) := by
  have HS := Lib.hid hS
  have hsl : s.data.toList.length = s.size := (Lib.size_eq s).symm
  rw [hsl] at hl
  have HPI := Lib.hid (parseInt_ok s hs v h)
  clear hS h hsl
  have a1 := as_n_s
  have a2 := as_n_b
  have a3 := as_n_yes
  go_enter Tryz.func64, Tryz.ntmps64
  go_wp2_with (first
    | (go_at_call 94; refine (HPI.out _).mono ?_; rintro e w1 ⟨rfl, hb⟩; have HB := Lib.hid hb; clear hb)
    | (go_at_call 92; refine (writeString_pb s (HS.out.below HB.out) (by omega)).mono ?_; rintro e w2 ⟨rfl, hf, hk, hp⟩
       have HP : Hid (FrR R b w w2 ∧ Kp b w w2 ∧ PB R b (l ++ s.data.toList) w2) := Lib.hid ⟨((FrR.refl R b w).below HS.out.R HB.out).trans hf, (Kp.below HS.out.lt HB.out).trans hk, hp⟩
       clear hf hk hp))
  go_ret
  exact ⟨rfl, HP.out⟩
/-- An element of a map of any, as it is. -/
def RA : Value → Option (DataW Value × List MemPlace)
  | .nilIface => some (.held .nilIface, [])
  | .iface T v => some (.held (.iface T v), [])
  | _ => none
theorem RA_inv {v : Value} {y : DataW Value × List MemPlace} (h : RA v = some y) : y = (.held v, []) ∧ v.oneCell' = true := by
  unfold RA at h
  split at h
  · cases h; exact ⟨rfl, rfl⟩
  · cases h; exact ⟨rfl, rfl⟩
  · cases h
theorem keyedS : Keyed Tryz.prog 9 := string_keyed Tryz.underlying9
theorem zeroAny (w : World) : (zeroValue 20).run Tryz.prog w = .ok .nilIface w := by kernel_rfl
/-- A map of any that holds just these keys and values. -/
def MA (w : World) (g : Nat) (L : List (List UInt8 × Value)) : Prop :=
  ∃ (D : DataW Value) (n : Nat), w.ownsMap Tryz.prog 9 RA g n D ∧ n ≤ 4294967296 ∧ (∀ k, Maps.has D (.string k) = true ↔ ∃ v, (k, v) ∈ L) ∧ ∀ k v, (k, v) ∈ L → ∀ z, D.atKey (.string k) z = .held v
theorem ownsMapA_at {w w' : World} {b n : Nat} {D : DataW Value} (h : w.ownsMap Tryz.prog 9 RA b n D) (hb : w'.heap[b]? = w.heap[b]?) : w'.ownsMap Tryz.prog 9 RA b n D := by
  obtain ⟨es, clock, h1, h2, h3, h4⟩ := h
  exact ⟨es, clock, hb.trans h1, h2, h3, h4⟩
theorem MA.at {w w' : World} {g : Nat} {L : List (List UInt8 × Value)} (h : MA w g L) (hb : w'.heap[g]? = w.heap[g]?) : MA w' g L := by
  obtain ⟨D, n, h1, h2, h3, h4⟩ := h
  exact ⟨D, n, ownsMapA_at h1 hb, h2, h3, h4⟩
/-- A look-up in a map of any. -/
theorem wpList_lookup_any (w : World) {ops : Array Oper} {rest : List Oper} {o : Oper} {a : Act} {Q : Exit → Act → World → Prop} (hg : o.guard = none) (m x : Operand) (hop : o.op = Op.lookup 130 m x false)
    (b n : Nat) (D : DataW Value) (hm : a.eval m = .map (some b)) (hown : w.ownsMap Tryz.prog 9 RA b n D) (s : ByteArray) (hx : a.eval x = .string s) (hs : s.size ≤ maxLen) (v : Value) (hat : ∀ z, D.atKey (.string s.data.toList) z = .held v)
    (hK : wpList Tryz.prog ops Q rest (a.put o.dst v) w) : wpList Tryz.prog ops Q (o :: rest) a w := by
  refine wpList_plain hg fun K' hK' => ?_
  obtain ⟨v', ps, hrun, hv⟩ := hown.lookup keyedS Tryz.underlying130 (zeroAny w) (show RA .nilIface = some (.held .nilIface, []) from rfl) (WideMaps.keyOf_string_mk Tryz.underlying9 hs)
  rw [hat] at hv
  have := (RA_inv hv).1
  simp only [Prod.mk.injEq, DataW.held.injEq] at this
  obtain ⟨rfl, _⟩ := this
  unfold Oper.wp
  simp [execOp, hop, hm, hx, hrun, Result.andThen]
  exact hK' _ _ hK
/-- The step of a range over a map of any. -/
theorem wpList_next_any (w : World) {ops : Array Oper} {rest : List Oper} {o : Oper} {a : Act} {Q : Exit → Act → World → Prop} (hg : o.guard = none) (it : Operand) (hop : o.op = Op.next it false)
    (b r n : Nat) (D : DataW Value) (left : Go.Lit → Bool) (cnt : Nat) (hit : a.eval it = .pointer (some ⟨r, 0, none⟩)) (h : w.ranges Tryz.prog 9 RA b r n D left cnt)
    (hDone : (∀ kl, left kl = false) → wpList Tryz.prog ops Q rest (a.put o.dst (.tuple #[.bool false])) w)
    (hMore : ∀ (s : ByteArray) (v : Value) (w' : World) (cnt' : Nat), left (.string s.data.toList) = true → (∀ zd, D.atKey (.string s.data.toList) zd = .held v) → w'.ranges Tryz.prog 9 RA b r n D (fun z => left z && !z.sameKey (.string s.data.toList)) cnt' → cnt' < cnt →
      s.size ≤ maxLen → w.grownBy w' (some r) → (Instr.entry (.pointer (some ⟨r, 0, none⟩))).run Tryz.prog w' = .ok (.tuple #[.string s, v]) w' → wpList Tryz.prog ops Q rest (a.put o.dst (.tuple #[.bool true, .string s, v])) w') :
    wpList Tryz.prog ops Q (o :: rest) a w :=
  wpList_next_ranges w hg it hop 9 keyedS RA (fun s : ByteArray => Value.string s) (fun v : Value => v)
    (fun key kl hk => by obtain ⟨x, hx, _⟩ := Maps.keyOf_str Tryz.underlying9 hk; exact ⟨_, hx⟩)
    (fun v y _ => ⟨v, rfl⟩)
    b r n D left cnt hit h (fun _ hl => hDone hl) (fun s v kl y w' cnt' hkey hlk hv hat hrg hlt hgr _ hen => by
      obtain ⟨x, ex, rfl, hxl⟩ := Maps.keyOf_str Tryz.underlying9 hkey
      have e1 : s.data.toList = x := by
        have e0 : s = ⟨x.toArray⟩ := Value.string.inj ex
        rw [e0]
      subst e1
      exact hMore s v w' cnt' hlk (fun zd => by rw [hat zd, (RA_inv hv).1]) hrg hlt (by rw [Lib.size_eq]; exact hxl) hgr hen)
/-- The text of a key. -/
def lookT (L : List (List UInt8 × List UInt8)) (k : List UInt8) : List UInt8 := ((L.find? fun p => p.1 == k).map (·.2)).getD []
/-- The texts of an object's members, in order. -/
def itemsT (L : List (List UInt8 × List UInt8)) : List (List UInt8) := ((L.map (·.1)).mergeSort leB).map fun k => encStr k ++ 58 :: lookT L k
/-- A value as it lies in memory, with its canonical text. -/
inductive CX (P : Nat → Prop) (w : World) : Value → List UInt8 → Prop
  | null : CX P w .nilIface [110, 117, 108, 108]
  | bool (β : Bool) : CX P w (.iface 4 (.bool β)) (boolT β)
  | str (s : ByteArray) (hs : s.size ≤ 4294967296) : CX P w (.iface 9 (.string s)) (encStr s.data.toList)
  | num (s : ByteArray) (hs : s.size ≤ 4294967296) (v : Int) (h : Lib.parseIntB 64 s.data.toList = .ok v) : CX P w (.iface 128 (.string s)) s.data.toList
  | list (g n c : Nat) (L : List (Value × List UInt8)) (hb : P g) (hlt : g < w.heap.size) (hn : L.length = n) (hc : n ≤ c) (hm : c ≤ maxLen) (hv : ∀ x ∈ L, CX P w x.1 x.2)
      (hcell : ∀ (j : Nat) (x : Value × List UInt8), L[j]? = some x → w.cell? ⟨g, j, none⟩ = some x.1) :
      CX P w (.iface 129 (.slice (some ⟨g, 0, none⟩) n c)) (91 :: joinC (L.map (·.2)) ++ [93])
  | obj (g : Nat) (K : List (List UInt8 × Value × List UInt8)) (hb : P g) (hlt : g < w.heap.size) (hm : MA w g (K.map fun x => (x.1, x.2.1))) (hd : (K.map (·.1)).Nodup) (hk : ∀ x ∈ K, x.1.length ≤ 4294967296) (hK : K.length ≤ 65536) (hv : ∀ x ∈ K, CX P w x.2.1 x.2.2) :
      CX P w (.iface 130 (.map (some g))) (123 :: joinC (itemsT (K.map fun x => (x.1, x.2.2))) ++ [125])
theorem CX.one {P : Nat → Prop} {w : World} {x : Value} {t : List UInt8} (h : CX P w x t) : x.oneCell' = true := by cases h <;> rfl
/-- What the memory wants, to be written: the blocks of P as they were, and apart from the Builder. -/
def PX (P : Nat → Prop) (w0 : World) (b : Nat) (w : World) : Prop := ∀ i, P i → i < w0.heap.size → i < w.heap.size ∧ w.heap[i]? = w0.heap[i]? ∧ i ≠ b ∧ bRow w b ≠ some i
theorem PX.keep {P : Nat → Prop} {w0 w w' : World} {b : Nat} (h : PX P w0 b w) (k : Kp b w w') : PX P w0 b w' := fun i hi hi2 => by
  obtain ⟨h1, h2, h3, h4⟩ := h i hi hi2
  obtain ⟨k1, k2⟩ := k.2 i h1 h3 h4
  exact ⟨Nat.lt_of_lt_of_le h1 k.1, k1.trans h2, h3, k2⟩
/-- What stands when k members of a list are written. -/
structure LX (P : Nat → Prop) (w0 : World) (R b : Nat) (l T0 : List UInt8) (T : List (List UInt8)) (w : World) (k : Nat) (wr : World) : Prop where
  fr : FrR R b w wr
  kp : Kp b w wr
  pb : PB R b (l ++ T0 ++ listTo T k) wr
/-- A value that is written. -/
def EncX (P : Nat → Prop) (w0 : World) (x : Value) (t : List UInt8) : Prop := ∀ (R b : Nat) (l : List UInt8) (w : World), PX P w0 b w → PB R b l w → l.length + t.length ≤ 70368744177664 → Calls Tryz.prog 64 #[x, .pointer (some ⟨b, 0, none⟩)] w (EncK R b l t w)
set_option maxRecDepth 100000 in
set_option maxHeartbeats 4000000 in
theorem encX_list {P : Nat → Prop} {w0 : World} {g c : Nat} {L : List (Value × List UInt8)} (hb : P g) (hlt : g < w0.heap.size) (hc : L.length ≤ c) (hm : c ≤ maxLen)
    (hcell : ∀ (j : Nat) (x : Value × List UInt8), L[j]? = some x → w0.cell? ⟨g, j, none⟩ = some x.1) (ih : ∀ x ∈ L, EncX P w0 x.1 x.2) :
    EncX P w0 (.iface 129 (.slice (some ⟨g, 0, none⟩) L.length c)) (91 :: joinC (L.map (·.2)) ++ [93]) := by
  intro R b l w hpx hS hl
  obtain ⟨T, hT⟩ : ∃ T, T = L.map (·.2) := ⟨_, rfl⟩
  have hTl : T.length = L.length := by rw [hT, List.length_map]
  have HT := Lib.hid hT
  have HTL := Lib.hid hTl
  rw [← hT] at hl ⊢
  have HIH := Lib.hid ih
  have HPX := Lib.hid hpx
  have HCELL := Lib.hid hcell
  have HG := Lib.hid (And.intro hb hlt)
  have HS := Lib.hid hS
  simp only [List.length_append, List.length_cons, List.length_nil] at hl
  have HL := Lib.hid hl
  unfold maxLen at hm
  clear hT hTl ih hpx hcell hb hlt hS
  have a1 := as_l_s
  have a2 := as_l_b
  have a3 := as_l_n
  have a4 := as_l_yes
  have HW0 := Lib.hid (writeString_pb ⟨#[91]⟩ HS.out (by simp only [ByteArray.size, List.size_toArray, List.length_cons, List.length_nil]; omega))
  go_enter Tryz.func64, Tryz.ntmps64
  go_wp2_with (go_at_call 92; (with_reducible refine HW0.out.mono ?_); rintro e w1 ⟨rfl, hf, hk, hp⟩; have HL1 : Hid (LX P w0 R b l [91] T w 0 w1) := (by refine Lib.hid ⟨hf, hk, ?_⟩; unfold listTo; rw [if_pos rfl, List.append_nil]; exact hp); clear hf hk hp)
  go_loopg [64] L.length (fun gk2 i wr => ∃ k : Nat, k + gk2 = L.length ∧ i = .int .i64 k ∧ Hid (LX P w0 R b l [91] T w k wr))
  case atStart => exact ⟨0, by omega, rfl, HL1⟩
  case round =>
    obtain ⟨k, hk, rfl, HR⟩ := hrel
    cases gk with
    | zero =>
      have hkn : ¬ (k : Int) < (L.length : Int) := by omega
      have hSB := HR.out.pb
      rw [show k = T.length by rw [HTL.out]; omega, listTo_end] at hSB
      have HSB := Lib.hid hSB
      have HW := Lib.hid (writeString_pb ⟨#[93]⟩ hSB (by simp only [ByteArray.size, List.size_toArray, List.length_append, List.length_cons, List.length_nil]; omega))
      clear hk hSB
      go_wp2_with (go_at_call 92; (with_reducible refine HW.out.mono ?_); rintro e w3 ⟨rfl, hf, hk, hp⟩; have HE : Hid (FrR R b w w3 ∧ Kp b w w3 ∧ PB R b (l ++ (91 :: joinC T ++ [93])) w3) := (by refine Lib.hid ⟨HR.out.fr.trans hf, HR.out.kp.trans hk, ?_⟩; simpa only [List.append_assoc, List.cons_append, List.nil_append] using hp); clear hf hk hp)
      go_ret
      exact ⟨rfl, HE.out⟩
    | succ g2 =>
      have hlt : k < L.length := by omega
      have hk1 : k + 1 + g2 = L.length := by omega
      have HK1 := Lib.hid hk1
      have hki : (k : Int) < (L.length : Int) := by omega
      obtain ⟨y, hx⟩ : ∃ y, L[k]? = some y := ⟨_, List.getElem?_eq_getElem hlt⟩
      have hmem : y ∈ L := List.mem_of_getElem? hx
      obtain ⟨v, t⟩ := y
      have HPR := Lib.hid (HPX.out.keep HR.out.kp)
      have hcl : wr.cell? ⟨g, k, none⟩ = some v := (World.cell?_of_block (HPR.out g HG.out.1 HG.out.2).2.1).trans (HCELL.out k _ hx)
      have ht : T[k]? = some t := by rw [HT.out, List.getElem?_map, hx]; rfl
      have hle2 := listTo_le T (k + 1)
      have HST := Lib.hid (listTo_step T k t ht)
      have hle3 : (listTo T k).length + t.length ≤ (listTo T (k + 1)).length := by
        rw [HST.out, List.length_append, List.length_append]; omega
      have HCALL := Lib.hid (HIH.out (v, t) hmem R b (l ++ [91] ++ listTo T k) wr HPR.out HR.out.pb (by simp only [List.length_append, List.length_cons, List.length_nil]; omega))
      unfold EncK at HCALL
      clear hk hk1 hx hmem ht
      by_cases hlast : k + 1 = L.length
      · have hn1 : ¬ ((k : Int) < (L.length : Int) - 1) := by omega
        rw [if_pos (by rw [HTL.out]; exact hlast), List.append_nil] at HST
        clear hlast
        go_wp2_with (go_at_call 64; (with_reducible refine HCALL.out.mono ?_); rintro e w2 ⟨rfl, hf, hk, hp⟩; have HL2 : Hid (LX P w0 R b l [91] T w (k + 1) w2) := (by refine Lib.hid ⟨HR.out.fr.trans hf, HR.out.kp.trans hk, ?_⟩; rw [HST.out, ← List.append_assoc]; exact hp); clear hf hk hp)
        go_roundg g2
        case measure => omega
        case rel => exact ⟨k + 1, HK1.out, by first | rfl | go_num, HL2⟩
      · have hn1 : (k : Int) < (L.length : Int) - 1 := by omega
        rw [if_neg (by rw [HTL.out]; exact hlast)] at HST
        have hle4 : (listTo T k).length + t.length + 1 ≤ (listTo T (k + 1)).length := by rw [HST.out, List.length_append, List.length_append]; simp
        clear hlast
        go_wp2_with (first
          | (go_at_call 64; (with_reducible refine HCALL.out.mono ?_); rintro e w2 ⟨rfl, hf, hk, hp⟩
             have HF2 := Lib.hid (And.intro (HR.out.fr.trans hf) (HR.out.kp.trans hk))
             have HW := Lib.hid (writeString_pb ⟨#[44]⟩ hp (by simp only [ByteArray.size, List.size_toArray, List.length_append, List.length_cons, List.length_nil]; omega))
             clear hf hk hp)
          | (go_at_call 92; (with_reducible refine HW.out.mono ?_); rintro e w3 ⟨rfl, hf, hk, hp⟩
             have HL2 : Hid (LX P w0 R b l [91] T w (k + 1) w3) := (by refine Lib.hid ⟨HF2.out.1.trans hf, HF2.out.2.trans hk, ?_⟩; rw [HST.out]; simpa only [List.append_assoc] using hp)
             clear hf hk hp))
        go_roundg g2
        case measure => omega
        case rel => exact ⟨k + 1, HK1.out, by first | rfl | go_num, HL2⟩
theorem bs_enc (l : List (List UInt8)) : (l.map fun a => Value.string (bs a)) = l.map Go.Proofs.encStr := by
  apply List.map_congr_left
  intro a _
  rfl
/-- slices.Sort at a row of texts of one's own. -/
theorem sortS_any {w : World} {B : Nat} {v : Value} {ss : List (List UInt8)} (h : OwnS w B v ss) (hB : B ≤ w.heap.size) (hl : ss.length ≤ 4294967296) :
    Calls Tryz.prog 95 #[v] w fun e w' => e = .returned (.tuple #[]) ∧ OwnS w' B v (ss.mergeSort leB) ∧ Below B w w' := by
  have hlen : (ss.mergeSort leB).length = ss.length := List.length_mergeSort ss
  rcases h.2 with ⟨rfl, h0⟩ | ⟨g, cap, cur, rfl, hb, hg, h1, h2, h3, h4⟩
  · have : ss = [] := List.length_eq_zero_iff.1 h0
    subst this
    refine (Any.slices_Sort_string_none Tryz.lays190 none 0 w).mono ?_
    rintro e w' ⟨rfl, rfl⟩
    exact ⟨rfl, by simpa using h, Below.refl _ _⟩
  · have hlt : g < w.heap.size := by
      rcases Nat.lt_or_ge g w.heap.size with h' | h'
      · exact h'
      · rw [Array.getElem?_eq_none h'] at hg; cases hg
    have hown : w.ownsRow B 9 1 (.slice (some ⟨g, 0, none⟩) ss.length cap) ss.length (ss.map Go.Proofs.encStr) := by rw [← bs_enc]; exact h
    obtain ⟨g0, cap0, e0, _, _, _, _, _, hH⟩ := Lib.holds_of_ownsRow hown (by simp)
    simp only [Value.slice.injEq, Option.some.injEq, Addr.mk.injEq, and_true, true_and] at e0
    obtain ⟨rfl, rfl⟩ := e0
    refine (Tryz.slices_Sort_string g 0 cap ss w hH hlt (by omega)).mono ?_
    rintro e w' ⟨rfl, n, os, rfl⟩
    have hs := ownsRow_sorted (n := n) (os := os) (ts := ss.mergeSort leB) hlen hb hg h1 h2 h3
    refine ⟨rfl, ?_, ?_⟩
    · unfold OwnS
      rw [bs_enc, hlen]
      exact hs
    · exact (Below.refl B w).grown (grownBy_sorted (n := n) (os := os) (ss.mergeSort leB).toArray) hB (fun k hk => by cases hk; exact hb)
theorem lookT_mem {K : List (List UInt8 × Value × List UInt8)} (hd : (K.map (·.1)).Nodup) : ∀ x ∈ K, lookT (K.map fun x => (x.1, x.2.2)) x.1 = x.2.2 := by
  intro x hx
  induction K with
  | nil => cases hx
  | cons y K ih =>
    rw [List.map_cons, List.nodup_cons] at hd
    unfold lookT
    rw [List.map_cons, List.find?_cons]
    rcases List.mem_cons.1 hx with rfl | hx
    · simp
    · have hne : (y.1 == x.1) = false := by
        rw [beq_eq_false_iff_ne]
        intro e
        exact hd.1 (List.mem_map.2 ⟨x, hx, e.symm⟩)
      simp only [hne]
      exact ih hd.2 hx
theorem rangesA_at {w w' : World} {b r n : Nat} {D : DataW Value} {left : Go.Lit → Bool} {cnt : Nat} (h : w.ranges Tryz.prog 9 RA b r n D left cnt) (hb : w'.heap[b]? = w.heap[b]?) (hr : w'.heap[r]? = w.heap[r]?) : w'.ranges Tryz.prog 9 RA b r n D left cnt := by
  obtain ⟨es, clock, since, seen, c0, h1, F, hs, hD, h2, rest⟩ := h
  exact ⟨es, clock, since, seen, c0, hb.trans h1, F, hs, hD, hr.trans h2, rest⟩
theorem as_m_s (v : Value) (w : World) : (Instr.typeAssert (.iface 130 v) 20 9 true).run Tryz.prog w = .ok (.tuple #[.string ⟨#[]⟩, .bool false]) w := by kernel_rfl
theorem as_m_b (v : Value) (w : World) : (Instr.typeAssert (.iface 130 v) 20 4 true).run Tryz.prog w = .ok (.tuple #[.bool false, .bool false]) w := by kernel_rfl
theorem as_m_n (v : Value) (w : World) : (Instr.typeAssert (.iface 130 v) 20 128 true).run Tryz.prog w = .ok (.tuple #[.string ⟨#[]⟩, .bool false]) w := by kernel_rfl
theorem as_m_l (v : Value) (w : World) : (Instr.typeAssert (.iface 130 v) 20 129 true).run Tryz.prog w = .ok (.tuple #[.slice none 0 0, .bool false]) w := by kernel_rfl
theorem as_m_yes (v : Value) (w : World) : (Instr.typeAssert (.iface 130 v) 20 130 true).run Tryz.prog w = .ok (.tuple #[v, .bool true]) w := by kernel_rfl
/-- The head of the loop over the keys. -/
def KsR (D : DataW Value) (w1 : World) (g n : Nat) (v : Value) (wr : World) : Prop :=
  ∃ (left : Go.Lit → Bool) (cnt : Nat) (ss : List (List UInt8)), OwnS wr (w1.heap.size + 1) v ss ∧ wr.ranges Tryz.prog 9 RA g w1.heap.size n D left cnt ∧ Collected D left ss ∧ Below w1.heap.size w1 wr ∧ w1.heap.size + 1 ≤ wr.heap.size ∧ ss.length + cnt ≤ 4294967296
theorem keys_perm {D : DataW Value} {left : Go.Lit → Bool} {ss : List (List UInt8)} (hC : Collected D left ss) (hl : ∀ kl, left kl = false) {K : List (List UInt8 × Value × List UInt8)} (hd : (K.map (·.1)).Nodup) (hh : ∀ k, Maps.has D (.string k) = true ↔ ∃ v, (k, v) ∈ K.map fun x => (x.1, x.2.1)) : ss.Perm (K.map (·.1)) := by
  refine (List.perm_ext_iff_of_nodup hC.1 hd).2 fun x => ?_
  rw [hC.2 x, hl, hh]
  simp only [and_true, List.mem_map]
  constructor
  · rintro ⟨v, y, hy, e⟩
    cases e
    exact ⟨y, hy, rfl⟩
  · rintro ⟨y, hy, rfl⟩
    exact ⟨y.2.1, y, hy, rfl⟩
set_option maxRecDepth 100000 in
set_option maxHeartbeats 8000000 in
theorem encX_obj {P : Nat → Prop} {w0 : World} {g : Nat} {K : List (List UInt8 × Value × List UInt8)} (hb : P g) (hlt : g < w0.heap.size) (hm : MA w0 g (K.map fun x => (x.1, x.2.1))) (hd : (K.map (·.1)).Nodup) (hk : ∀ x ∈ K, x.1.length ≤ 4294967296) (hK : K.length ≤ 65536) (ih : ∀ x ∈ K, EncX P w0 x.2.1 x.2.2) :
    EncX P w0 (.iface 130 (.map (some g))) (123 :: joinC (itemsT (K.map fun x => (x.1, x.2.2))) ++ [125]) := by
  intro R b l w hpx hS hl
  obtain ⟨T, hT⟩ : ∃ T, T = itemsT (K.map fun x => (x.1, x.2.2)) := ⟨_, rfl⟩
  obtain ⟨S, hSS⟩ : ∃ S, S = (K.map (·.1)).mergeSort leB := ⟨_, rfl⟩
  have hTS : T = S.map fun k => encStr k ++ 58 :: lookT (K.map fun x => (x.1, x.2.2)) k := by rw [hT, hSS, itemsT, List.map_map]; rfl
  have hTl : T.length = S.length := by rw [hTS, List.length_map]
  have hSl : S.length ≤ 65536 := by rw [hSS, List.length_mergeSort, List.length_map]; exact hK
  have HTS := Lib.hid hTS
  have HTL := Lib.hid hTl
  rw [← hT] at hl ⊢
  have HIH := Lib.hid ih
  have HKS := Lib.hid hk
  have HPX := Lib.hid hpx
  have HSK := Lib.hid hSS
  have HD := Lib.hid hd
  have HG := Lib.hid (And.intro hb hlt)
  have HS := Lib.hid hS
  obtain ⟨D, nn, hown, hnn, hhas, hat⟩ := hm
  have HOW : Hid (∀ W, PX P w0 b W → W.ownsMap Tryz.prog 9 RA g nn D) := Lib.hid fun W hp => ownsMapA_at hown (hp g hb hlt).2.1
  have HSZ : Hid (Maps.size D ≤ nn) := Lib.hid hown.size_le
  have HHAS := Lib.hid hhas
  have HAT := Lib.hid hat
  simp only [List.length_append, List.length_cons, List.length_nil] at hl
  have HL := Lib.hid hl
  clear hT hTl hTS hSS ih hk hpx hd hb hlt hS hown hhas hat hK
  have a1 := as_m_s
  have a2 := as_m_b
  have a3 := as_m_n
  have a4 := as_m_l
  have a5 := as_m_yes
  have HW0 := Lib.hid (writeString_pb ⟨#[123]⟩ HS.out (by simp only [ByteArray.size, List.size_toArray, List.length_cons, List.length_nil]; omega))
  go_enter Tryz.func64, Tryz.ntmps64
  go_upto_region 38 with (go_at_call 92; (with_reducible refine HW0.out.mono ?_); rintro e w1 ⟨rfl, hf, hk, hp⟩; have HL1 : Hid (LX P w0 R b l [123] T w 0 w1) := (by refine Lib.hid ⟨hf, hk, ?_⟩; unfold listTo; rw [if_pos rfl, List.append_nil]; exact hp); clear hf hk hp)
  have HPX1 := Lib.hid (HPX.out.keep HL1.out.kp)
  have HOW1 := Lib.hid (HOW.out w1 HPX1.out)
  clear a1 a2 a3 a4 a5
  go_wp2_with (at_range; refine wpList_range_own _ rfl _ 130 rfl 9 20 keyedS Tryz.underlying130 RA g nn D rfl HOW1.out ?_; intro w2 hrg0 hg0 hs0)
  have HK0 : Hid (KsR D w1 g nn (.slice none 0 0) w2) := Lib.hid ⟨_, _, [], OwnS.nil _ _, hrg0, Collected.start D, ⟨hg0.os, hg0.tape, hg0.output, hg0.size, fun k hk => hg0.block k hk (by simp)⟩, by omega, by have := HSZ.out; simp only [List.length_nil]; omega⟩
  clear hrg0 hg0 hs0
  go_frame
  go_loopw [16] (fun v wr => Hid (KsR D w1 g nn v wr)) (fun _ wr => wr.rangeLeft g w1.heap.size)
  case atStart => exact HK0
  case round =>
    obtain ⟨left, cnt, ss, hown, hrg, hC, hbw, hsz, hcn⟩ := hrel.out
    have HOWN := Lib.hid hown
    have HRG := Lib.hid hrg
    have HC := Lib.hid hC
    have HB := Lib.hid hbw
    clear hrel hown hrg hC hbw
    go_wp2_with (at_next; refine wpList_next_any _ rfl _ rfl g w1.heap.size nn D left cnt rfl HRG.out ?_ ?_)
    · intro hl0
      have HPM : Hid (ss.mergeSort leB = S) := Lib.hid (by rw [HSK.out]; exact mergeSort_of_perm (keys_perm HC.out hl0 HD.out HHAS.out))
      clear hl0
      have hsl2 : ss.length ≤ 4294967296 := by omega
      have HSO := Lib.hid (sortS_any HOWN.out hsz hsl2)
      obtain ⟨ka, kc, rfl, -⟩ := HOWN.out.slice
      obtain ⟨q, hq⟩ : ∃ q, q = ss.length := ⟨_, rfl⟩
      have HQ : Hid (q = S.length) := Lib.hid (by rw [hq, ← HPM.out, List.length_mergeSort])
      have hq6 : q ≤ 65536 := by rw [HQ.out]; exact hSl
      rw [HPM.out, ← hq] at HSO
      rw [← hq]
      clear hq hcn HOWN
      go_upto_region 43 with (go_at_call 95; (with_reducible refine HSO.out.mono ?_); rintro e w4 ⟨rfl, ho4, hb4⟩)
      have HB4 : Hid (Below w1.heap.size w1 w4) := Lib.hid (HB.out.trans (hb4.mono (by omega)))
      have HKP4 := Lib.hid (Kp.below HL1.out.pb.lt HB4.out)
      have HL4 : Hid (LX P w0 R b l [123] T w 0 w4) := Lib.hid ⟨HL1.out.fr.below HL1.out.pb.R HB4.out, HL1.out.kp.trans HKP4.out, HL1.out.pb.below HB4.out⟩
      have HCS : Hid (∀ W, Kp b w4 W → ∀ (j : Nat) (a : List UInt8), S[j]? = some a → ∃ ad, ka = some ad ∧ W.cell? (ad.add j) = some (.string (bs a))) := Lib.hid (by
        intro W hkp j a hj
        obtain ⟨ka', kc', e, hc⟩ := ho4.slice
        injection e with e1 _ _
        subst e1
        obtain ⟨ad, rfl, hcell⟩ := hc j a hj
        refine ⟨ad, rfl, ?_⟩
        obtain ⟨hl1, hl2⟩ := World.ownsRow.lt ho4 ad.block rfl
        have hbl := HL1.out.pb.lt
        have hne := HL1.out.pb.rowlt ad.block (by omega)
        have hrow : bRow w4 b = bRow w1 b := by unfold bRow; rw [HB4.out.block b hbl]
        have h3 := (hkp.2 ad.block hl2 (by omega) (by rw [hrow]; exact hne)).1
        have hbk : (ad.add j).block = ad.block := by unfold Addr.add; split <;> rfl
        exact (World.cell?_of_block (by rw [hbk]; exact h3)).trans hcell)
      clear ho4 hb4 HSO hsl2 HRG HC HK0 HPM
      go_wp2_with (fail)
      go_loopg [104] q (fun g3 v wr => ∃ k : Nat, k + g3 = q ∧ v = .int .i64 k ∧ Hid (LX P w0 R b l [123] T w k wr) ∧ Hid (Kp b w4 wr))
      case atStart => exact ⟨0, by omega, rfl, HL4, Lib.hid (Kp.refl _ _)⟩
      case round =>
        obtain ⟨k, hk, rfl, HR, HKP⟩ := hrel
        cases gk with
        | zero =>
          have hkn : ¬ (k : Int) < (q : Int) := by omega
          have hSB := HR.out.pb
          rw [show k = T.length by rw [HTL.out, ← HQ.out]; omega, listTo_end] at hSB
          have HSB := Lib.hid hSB
          have HW := Lib.hid (writeString_pb ⟨#[125]⟩ hSB (by simp only [ByteArray.size, List.size_toArray, List.length_append, List.length_cons, List.length_nil]; omega))
          clear hk hSB
          go_wp2_with (go_at_call 92; (with_reducible refine HW.out.mono ?_); rintro e w9 ⟨rfl, hf, hk, hp⟩; have HE : Hid (FrR R b w w9 ∧ Kp b w w9 ∧ PB R b (l ++ (123 :: joinC T ++ [125])) w9) := (by refine Lib.hid ⟨HR.out.fr.trans hf, HR.out.kp.trans hk, ?_⟩; simpa only [List.append_assoc, List.cons_append, List.nil_append] using hp); clear hf hk hp)
          go_ret
          exact ⟨rfl, HE.out⟩
        | succ g3 =>
          have hlt : k < q := by omega
          have hk1 : k + 1 + g3 = q := by omega
          have HK1 := Lib.hid hk1
          have hki : (k : Int) < (q : Int) := by omega
          obtain ⟨a, ha⟩ : ∃ a, S[k]? = some a := ⟨_, List.getElem?_eq_getElem (by rw [← HQ.out]; exact hlt)⟩
          obtain ⟨ad, rfl, c0⟩ := HCS.out wr HKP.out k a ha
          obtain ⟨x, hx, rfl⟩ : ∃ x ∈ K, x.1 = a := by
            have h1 : a ∈ K.map (·.1) := by
              have := List.mem_of_getElem? ha
              rw [HSK.out] at this
              exact (List.mergeSort_perm _ _).mem_iff.1 this
            obtain ⟨x, h2, h3⟩ := List.mem_map.1 h1
            exact ⟨x, h2, h3⟩
          have ht : T[k]? = some (encStr x.1 ++ 58 :: x.2.2) := by rw [HTS.out, List.getElem?_map, ha]; simp only [Option.map_some]; rw [lookT_mem HD.out x hx]
          have hle2 := listTo_le T (k + 1)
          have HST := Lib.hid (listTo_step T k _ ht)
          have hle3 : (listTo T k).length + ((encStr x.1).length + (1 + x.2.2.length)) ≤ (listTo T (k + 1)).length := by
            rw [HST.out, List.length_append, List.length_append, List.length_append, List.length_cons]; omega
          have hkx := HKS.out x hx
          obtain ⟨sk, hsk⟩ : ∃ sk, sk = bs x.1 := ⟨_, rfl⟩
          have HSKD : Hid (sk.data.toList = x.1) := Lib.hid (by rw [hsk, bs_data])
          have hsks : sk.size ≤ 4294967296 := by rw [hsk, bs_size]; exact hkx
          have hskm : sk.size ≤ maxLen := by unfold maxLen; omega
          have HA1 := Lib.hid (encP_str sk hsks HR.out.pb (by rw [HSKD.out]; simp only [List.length_append, List.length_cons, List.length_nil]; omega))
          unfold EncK at HA1
          rw [HSKD.out] at HA1
          rw [← hsk] at c0
          obtain ⟨xv, hxv⟩ : ∃ xv, xv = x.2.1 := ⟨_, rfl⟩
          have HLA : Hid (∀ z, D.atKey (.string sk.data.toList) z = .held xv) := Lib.hid (by rw [HSKD.out, hxv]; exact HAT.out x.1 x.2.1 (List.mem_map.2 ⟨x, hx, rfl⟩))
          have HC2 : Hid (∀ W, PX P w0 b W → PB R b (l ++ [123] ++ listTo T k ++ encStr x.1 ++ [58]) W → Calls Tryz.prog 64 #[xv, .pointer (some ⟨b, 0, none⟩)] W (EncK R b (l ++ [123] ++ listTo T k ++ encStr x.1 ++ [58]) x.2.2 W)) := Lib.hid fun W h1 h2 => by
            rw [hxv]
            exact HIH.out x hx R b _ W h1 h2 (by simp only [List.length_append, List.length_cons, List.length_nil]; omega)
          unfold EncK at HC2
          have hwl : (l ++ [123] ++ listTo T k ++ encStr x.1).length + 1 ≤ 140737488355328 := by simp only [List.length_append, List.length_cons, List.length_nil]; omega
          have hwm : (l ++ [123] ++ listTo T k ++ encStr x.1 ++ [58] ++ x.2.2).length + 1 ≤ 140737488355328 := by simp only [List.length_append, List.length_cons, List.length_nil]; omega
          have HWL := Lib.hid hwl
          have HWM := Lib.hid hwm
          clear hk hk1 ha ht hx hsk hxv hle2 hle3 hkx hwl hwm hsks
          by_cases hlast : k + 1 = q
          · have hn1 : ¬ ((k : Int) < (q : Int) - 1) := by omega
            rw [if_pos (by rw [HTL.out, ← HQ.out]; exact hlast), List.append_nil] at HST
            clear hlast
            go_wp2_with (first
              | (go_at_call 64; (with_reducible refine HA1.out.mono ?_); rintro e u1 ⟨rfl, hf, hk, hp⟩
                 have HF1 := Lib.hid (And.intro (HR.out.fr.trans hf) (And.intro (HR.out.kp.trans hk) (HKP.out.trans hk)))
                 have HW1 := Lib.hid (writeString_pb ⟨#[58]⟩ hp HWL.out)
                 clear hf hk hp HA1)
              | (go_at_call 92; (with_reducible refine HW1.out.mono ?_); rintro e u2 ⟨rfl, hf, hk, hp⟩
                 have HF2 := Lib.hid (And.intro (HF1.out.1.trans hf) (And.intro (HF1.out.2.1.trans hk) (HF1.out.2.2.trans hk)))
                 have HPU := Lib.hid (HPX.out.keep HF2.out.2.1)
                 have HOU := Lib.hid (HOW.out u2 HPU.out)
                 have HC3 := Lib.hid (HC2.out u2 HPU.out hp)
                 clear hf hk hp HW1)
              | (at_lookup; refine wpList_lookup_any _ rfl _ _ rfl g nn D rfl HOU.out sk rfl hskm xv HLA.out ?_)
              | (go_at_call 64; (with_reducible refine HC3.out.mono ?_); rintro e u3 ⟨rfl, hf, hk, hp⟩
                 have HLL : Hid (LX P w0 R b l [123] T w (k + 1) u3) := (by refine Lib.hid ⟨HF2.out.1.trans hf, HF2.out.2.1.trans hk, ?_⟩; rw [HST.out]; simpa only [List.append_assoc, List.cons_append, List.nil_append] using hp)
                 have HKL := Lib.hid (HF2.out.2.2.trans hk)
                 clear hf hk hp))
            go_roundg g3
            case measure => omega
            case rel => exact ⟨k + 1, HK1.out, by first | rfl | go_num, HLL, HKL⟩
          · have hn1 : (k : Int) < (q : Int) - 1 := by omega
            rw [if_neg (by rw [HTL.out, ← HQ.out]; exact hlast)] at HST
            clear hlast
            go_wp2_with (first
              | (go_at_call 64; (with_reducible refine HA1.out.mono ?_); rintro e u1 ⟨rfl, hf, hk, hp⟩
                 have HF1 := Lib.hid (And.intro (HR.out.fr.trans hf) (And.intro (HR.out.kp.trans hk) (HKP.out.trans hk)))
                 have HW1 := Lib.hid (writeString_pb ⟨#[58]⟩ hp HWL.out)
                 clear hf hk hp HA1)
              | (go_at_call 92; (with_reducible refine HW1.out.mono ?_); rintro e u2 ⟨rfl, hf, hk, hp⟩
                 have HF2 := Lib.hid (And.intro (HF1.out.1.trans hf) (And.intro (HF1.out.2.1.trans hk) (HF1.out.2.2.trans hk)))
                 have HPU := Lib.hid (HPX.out.keep HF2.out.2.1)
                 have HOU := Lib.hid (HOW.out u2 HPU.out)
                 have HC3 := Lib.hid (HC2.out u2 HPU.out hp)
                 clear hf hk hp HW1)
              | (at_lookup; refine wpList_lookup_any _ rfl _ _ rfl g nn D rfl HOU.out sk rfl hskm xv HLA.out ?_)
              | (go_at_call 64; (with_reducible refine HC3.out.mono ?_); rintro e u3 ⟨rfl, hf, hk, hp⟩
                 have HF3 := Lib.hid (And.intro (HF2.out.1.trans hf) (And.intro (HF2.out.2.1.trans hk) (HF2.out.2.2.trans hk)))
                 have HW3 := Lib.hid (writeString_pb ⟨#[44]⟩ hp HWM.out)
                 clear hf hk hp HC3)
              | (go_at_call 92; (with_reducible refine HW3.out.mono ?_); rintro e u4 ⟨rfl, hf, hk, hp⟩
                 have HLL : Hid (LX P w0 R b l [123] T w (k + 1) u4) := (by refine Lib.hid ⟨HF3.out.1.trans hf, HF3.out.2.1.trans hk, ?_⟩; rw [HST.out]; simpa only [List.append_assoc, List.cons_append, List.nil_append] using hp)
                 have HKL := Lib.hid (HF3.out.2.2.trans hk)
                 clear hf hk hp))
            go_roundg g3
            case measure => omega
            case rel => exact ⟨k + 1, HK1.out, by first | rfl | go_num, HLL, HKL⟩
    · intro s v' w3 cnt2 hlk hat hrg2 hlt hszs hgr hen
      have hsl : ss.length + 1 ≤ 4294967300 := by omega
      have hl3 : w1.heap.size + 1 ≤ w3.heap.size := Nat.le_trans hsz hgr.size
      have HO3 : Hid (OwnS w3 (w1.heap.size + 1) _ ss) := Lib.hid (World.ownsRow.kept HOWN.out hgr (.inr (fun e => by have := (World.ownsRow.lt HOWN.out _ e).1; omega)))
      have HC3 := Lib.hid (HC.out.step hlk hat)
      have HB3 : Hid (Below w1.heap.size w1 w3) := Lib.hid (HB.out.grown hgr HB.out.size (fun k hk => by cases hk; exact Nat.le_refl _))
      have HRG3 := Lib.hid hrg2
      have HLT := Lib.hid hlt
      have HGL : Hid (g < w1.heap.size) := Lib.hid (HPX1.out g HG.out.1 HG.out.2).1
      have hcn2 : (ss ++ [s.data.toList]).length + cnt2 ≤ 4294967296 := by rw [List.length_append, List.length_singleton]; omega
      have HCN := Lib.hid hcn2
      clear hlk hat hrg2 hlt hszs hgr hcn hcn2
      go_wp2_with (at_builtin; refine wpList_appS1 rfl _ _ rfl (w1.heap.size + 1) w3 ss s s.data.toList (bs_of s).symm HO3.out hl3 hsl rfl rfl ?_)
      intro v4 w4 hown4 hb4
      have HR4 : Hid (KsR D w1 g nn v4 w4) := Lib.hid ⟨_, cnt2, _, hown4, rangesA_at HRG3.out (hb4.block g (by have := HGL.out; omega)) (hb4.block _ (by omega)), HC3.out, HB3.out.trans (hb4.mono (by omega)), Nat.le_trans hl3 hb4.size, HCN.out⟩
      have HM4 : Hid (w4.rangeLeft g w1.heap.size < wr.rangeLeft g w1.heap.size) := by
        have e1 : w4.rangeLeft g w1.heap.size = cnt2 := (rangesA_at HRG3.out (hb4.block g (by have := HGL.out; omega)) (hb4.block _ (by omega))).left_eq
        rw [e1, HRG.out.left_eq]; exact HLT
      clear hown4 hb4
      go_wp2_with (fail)
      go_roundw
      case rel => exact HR4
      case measure => exact HM4.out
/-- Every value is written. -/
theorem encX_any {P : Nat → Prop} {w0 : World} {x : Value} {t : List UInt8} (h : CX P w0 x t) : EncX P w0 x t := by
  induction h with
  | null => intro R b l w _ hS hl; exact encP_null hS hl
  | bool β => intro R b l w _ hS hl; exact encP_bool β hS (by omega)
  | str s hs => intro R b l w _ hS hl; exact encP_str s hs hS hl
  | num s hs v h => intro R b l w _ hS hl; exact encP_num s hs v h hS hl
  | list g n c L hb hlt hn hc hm hv hcell ih => subst hn; exact encX_list hb hlt hc hm hcell ih
  | obj g K hb hlt hm hd hk hK hv ih => exact encX_obj hb hlt hm hd hk hK ih
set_option maxRecDepth 100000 in
set_option maxHeartbeats 8000000 in
theorem encodeCanonical_x {P : Nat → Prop} {w : World} {x : Value} {t : List UInt8} (h : CX P w x t) (hP : ∀ i, P i → i < w.heap.size) (hl : t.length ≤ 4294967296) :
    Calls Tryz.prog 35 #[x] w fun e w' => ∃ v, e = .returned (.tuple #[v, .nilIface]) ∧ BSrc w' v t ∧ Below w.heap.size w w' := by
  have hmf : ∀ (fn : Fn) (first cap : Array Value) (w : World), (Instr.makeFunc fn first cap).run Tryz.prog w = .ok (.func fn first cap) w := fun _ _ _ _ => rfl
  have H := Lib.hid h
  have HP := Lib.hid hP
  obtain ⟨s, hs⟩ : ∃ s : ByteArray, s = ⟨t.toArray⟩ := ⟨_, rfl⟩
  have HSD : Hid (s.data.toList = t) := by rw [hs]; exact Lib.hid rfl
  have HSS : Hid (s.size = t.length) := by rw [hs]; exact Lib.hid (by simp [ByteArray.size])
  have HSE := Lib.hid hs
  have hcv := fun w => Lib.run_convert_string_bytes (P := Tryz.prog) w 9 31 5 s (u := .string) Tryz.underlying9 Tryz.underlying31 Tryz.underlying5
  obtain ⟨W2, hW2⟩ : ∃ W2, W2 = (w.alloc (.cells #[.nilIface] 85)).alloc (.cells #[.pointer none, .slice none 0 0] 134) := ⟨_, rfl⟩
  have hs2 : W2.heap.size = w.heap.size + 2 := by rw [hW2, World.size_alloc, World.size_alloc]
  have hcb : W2.heap[w.heap.size + 1]? = some (.cells #[.pointer none, .slice none 0 0] 134 (0, 0)) := by
    have := alloc_at (w.alloc (.cells #[.nilIface] 85)) (.cells #[.pointer none, .slice none 0 0] 134)
    rw [World.size_alloc] at this
    rw [hW2]; exact this
  have HRW : Hid (∀ i, bRow W2 (w.heap.size + 1) ≠ some i) := Lib.hid fun i e => by unfold bRow at e; rw [hcb] at e; simp [Value.ownBlock] at e
  have HSB : Hid (PB (w.heap.size + 2) (w.heap.size + 1) [] W2) := by
    refine PB.new ?_ (by omega)
    have := alloc_at (w.alloc (.cells #[.nilIface] 85)) (.cells #[.pointer none, .slice none 0 0] 134)
    rw [World.size_alloc] at this
    rw [hW2]; exact this
  have HB2 : Hid (Below w.heap.size w W2) := by
    show Below _ _ _
    rw [hW2]; exact ((Below.refl _ _).alloc (Nat.le_refl _) _).alloc (by rw [World.size_alloc]; omega) _
  have HE2 : Hid (W2.heap[w.heap.size]? = some (.cells #[.nilIface] 85 (0, 0))) := by
    show _ = _
    rw [hW2, Below.heap_alloc _ _ _ (by rw [World.size_alloc]; omega)]
    exact alloc_at _ _
  have HW2 := Lib.hid hW2
  have HPX : Hid (PX P w (w.heap.size + 1) W2) := Lib.hid fun i hi hi2 => ⟨by omega, HB2.out.block i hi2, by omega, HRW.out i⟩
  have HEN := Lib.hid (encX_any H.out (w.heap.size + 2) (w.heap.size + 1) [] W2 HPX.out HSB.out (by simp only [List.length_nil]; omega))
  unfold EncK at HEN
  clear h hP hs hW2 hcb
  go_enter_defers Tryz.func35, Tryz.ntmps35
  go_wp2_with (fail)
  rw [← HW2.out]
  clear HW2
  refine HEN.out.mono ?_
  rintro e w3 ⟨rfl, hf, -, hp⟩
  rw [List.nil_append] at hp
  have hS := hp.to
  have HS3 := Lib.hid hS
  have HB3 : Hid (Below w.heap.size w w3) := HB2.out.trans (hf.toBelow (by omega) (by omega))
  have HE3 : Hid (w3.heap[w.heap.size]? = some (.cells #[.nilIface] 85 (0, 0))) := by
    show _ = _
    rw [hf.block _ (by omega) (by omega)]; exact HE2.out
  clear hf hS hp HSB HB2 HE2 HPX HRW HEN
  go_wp2_with (fail)
  refine (bString_any HS3.out).mono ?_
  rintro e w4 ⟨rfl, hb⟩
  rw [← HSE.out]
  have hm : min (w.heap.size + 2) (w.heap.size + 1) = w.heap.size + 1 := by omega
  rw [hm] at hb
  have HB4 : Hid (Below w.heap.size w w4) := HB3.out.trans (hb.mono (by omega))
  have HE4 : Hid (w4.heap[w.heap.size]? = some (.cells #[.nilIface] 85 (0, 0))) := by
    show _ = _
    rw [hb.block _ (by omega)]; exact HE3.out
  have hs4 : w.heap.size < w4.heap.size := by
    rcases Nat.lt_or_ge w.heap.size w4.heap.size with h | h
    · exact h
    · have := HE4.out; rw [Array.getElem?_eq_none h] at this; cases this
  have hb4 := hcv w4
  have hbel := Lib.bytesWorld_below w4 5 s
  have hcell : ∀ j, j < s.size → (Lib.bytesWorld w4 5 s).cell? ⟨w4.heap.size, j, none⟩ = some (.int .u8 (s.data.toList.getD j 0).toNat) := fun j hj => Lib.bytesWorld_cell w4 5 s j hj
  obtain ⟨W5, hW5⟩ : ∃ W5, W5 = Lib.bytesWorld w4 5 s := ⟨_, rfl⟩
  rw [← hW5] at hb4 hbel hcell
  have HB5 : Hid (Below w.heap.size w W5) := HB4.out.trans (hbel.mono (by omega))
  have e5 : W5.heap[w.heap.size]? = some (.cells #[.nilIface] 85 (0, 0)) := by rw [hbel.block _ (by omega)]; exact HE4.out
  have r0 : W5.cell? ⟨w.heap.size, 0, none⟩ = some .nilIface := by simp [World.cell?, e5]
  have z0 : W5.frozen? ⟨w.heap.size, 0, none⟩ = false := by simp [World.frozen?, e5]
  obtain ⟨cp, hcp⟩ : ∃ cp, cp = grownCap w4 s.size 0 5 := ⟨_, rfl⟩
  rw [← hcp] at hb4
  have HSRC : Hid (BSrc (W5.setCell ⟨w.heap.size, 0, none⟩ .nilIface) (.slice (some ⟨w4.heap.size, 0, none⟩) s.size cp) t) := by
    refine .inr ⟨⟨w4.heap.size, 0, none⟩, cp, by rw [HSS.out], by unfold maxLen; omega, fun j y hj => ?_⟩
    rw [addrAdd, Nat.zero_add, World.cell?_of_block (Below.heap_setCell _ _ _ _ (by simp only; omega)), hcell j (by rw [HSS.out]; exact (List.getElem?_eq_some_iff.1 hj).1), HSD.out]
    congr 2
    rw [List.getD_eq_getElem?_getD, hj]; rfl
  clear hcell hbel hb hcv hW5 hcp e5 HB3 HE3 HE4 HS3
  go_wp2
  refine leaves_cons (f := 62) (args := #[.pointer (some ⟨w.heap.size, 0, none⟩)]) (by simp) (by simp [go_sem]) ?_
  refine (encD_idle _ _).mono ?_
  rintro e u' w9 ⟨rfl, rfl, rfl⟩
  simp [Leaves, settle, results, Tryz.results35, go_sem, r0]
  exact ⟨HSRC.out, HB5.out.setCell (Nat.le_refl _) _⟩
end Go.Proofs.YtjganhmbjffjfaaGreatDoor
