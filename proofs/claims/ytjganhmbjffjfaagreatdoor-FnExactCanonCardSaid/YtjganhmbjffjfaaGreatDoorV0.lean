/- cjson.zzIndex at one byte; zzReplaceAll at one byte. cjson.zzReplaceAll at one byte; encodeCanonicalString. cjson.encodeCanonical at null, at a string, at a list of two such. cjson.encodeCanonical at nested lists. cjson.EncodeCanonical. impl.value at null, at a string, at a list of both. impl.Canon at the closed list. Appending one byte to a row of one's own. -/
import Derived.Test.YtjganhmbjffjfaaGreatDoorD2
import Derived.LoopN
import Derived.Lib.AppendStr
import Derived.Test.YtjganhmbjffjfaaGreatDoorB3
import Derived.Test.YtjganhmbjffjfaaGreatDoorN1
import Derived.Recover
import Derived.Deep.RegionLaw
import Derived.Lib.ConvBytes
open Go Go.RowKit
namespace Go.Proofs.YtjganhmbjffjfaaGreatDoor
def idxB (c : UInt8) : List UInt8 → Option Nat
  | [] => none
  | x :: l => if x = c then some 0 else (idxB c l).map (· + 1)
def idxV (o : Option Nat) : Value := match o with
  | some i => .int .i64 i
  | none => .int .i64 (-1)
theorem drop_get {α : Type} {l : List α} {k : Nat} {x : α} (h : l[k]? = some x) : l.drop k = x :: l.drop (k + 1) := by
  obtain ⟨hk, rfl⟩ := List.getElem?_eq_some_iff.1 h
  exact List.drop_eq_getElem_cons hk
theorem ext_list (s : ByteArray) (i j : Nat) : (s.extract i j).toList = (s.data.toList.drop i).take (j - i) := by
  rw [ByteArray.toList_eq, ByteArray.data_extract, Array.toList_extract]
theorem ext1 (s : ByteArray) (k : Nat) (x : UInt8) (h : s.data.toList[k]? = some x) : (s.extract k (k + 1)).toList = [x] := by
  rw [ext_list, drop_get h, show k + 1 - k = 1 by omega]
  rfl
set_option maxRecDepth 100000 in
set_option maxHeartbeats 1000000 in
theorem zzIndex_byte (s : ByteArray) (c : UInt8) (hs : s.size ≤ 9223372036854775806) (w : World) :
    Calls Tryz.prog 140 #[.string s, .string ⟨#[c]⟩] w fun e w' => e = .returned (idxV (idxB c s.data.toList)) ∧ w' = w := by
  have hsl : s.data.toList.length = s.size := (Lib.size_eq s).symm
  go_enter Tryz.func140, Tryz.ntmps140
  go_wp2
  go_loopw [5] (fun i wr => ∃ k : Nat, k ≤ s.size ∧ i = .int .i64 k ∧ Hid (idxB c s.data.toList = (idxB c (s.data.toList.drop k)).map (· + k)) ∧ wr = w) (fun i _ => s.size - (intOf i).toNat)
  case atStart => exact ⟨0, Nat.zero_le _, rfl, by show _ = _; rw [List.drop_zero]; cases idxB c s.data.toList <;> rfl, rfl⟩
  case round =>
    obtain ⟨k, hk, rfl, HK, rfl⟩ := hrel
    by_cases hlt : k < s.size
    · have hx : s.data.toList[k]? = some (s.data.toList[k]'(by omega)) := List.getElem?_eq_getElem _
      obtain ⟨x, hxx⟩ : ∃ x, x = s.data.toList[k]'(by omega) := ⟨_, rfl⟩
      rw [← hxx] at hx
      have HE := ext1 s k x hx
      have HS : Hid (idxB c s.data.toList = (if x = c then some 0 else (idxB c (s.data.toList.drop (k + 1))).map (· + 1)).map (· + k)) := by
        show _ = _
        rw [HK.out, drop_get hx, idxB]
      clear hxx
      by_cases hxc : x = c
      · have hq : ((s.extract k (k + 1)).toList == [c]) = true := by rw [HE, hxc]; simp
        rw [if_pos hxc] at HS
        clear hx HE HK hxc
        go_wp2
        go_ret
        exact ⟨by rw [HS.out]; simp [idxV], rfl⟩
      · have hq : ((s.extract k (k + 1)).toList == [c]) = false := by rw [HE]; simp [hxc]
        rw [if_neg hxc] at HS
        clear hx HE HK hxc
        go_wp2
        go_roundw
        case rel => exact ⟨k + 1, by omega, by go_num, by show _ = _; rw [HS.out, Option.map_map]; congr 1; funext y; show y + 1 + k = y + (k + 1); omega, trivial⟩
        case measure => simp [intOf]; omega
    · have hn : ¬ ((k : Int) + 1 ≤ (s.size : Int)) := by omega
      have HN : Hid (idxB c s.data.toList = none) := by show _ = _; rw [HK.out, List.drop_of_length_le (by omega)]; rfl
      clear HK
      go_wp2
      go_ret
      exact ⟨by rw [HN.out]; rfl, rfl⟩
theorem idxB_some {c : UInt8} : ∀ {l : List UInt8} {i : Nat}, idxB c l = some i → i < l.length ∧ l.drop i = c :: l.drop (i + 1) ∧ ∀ x ∈ l.take i, x ≠ c
  | x :: l, i, h => by
    unfold idxB at h
    split at h
    · rename_i e
      cases h
      exact ⟨by simp, by simp [e], by simp⟩
    · rename_i e
      cases h2 : idxB c l with
      | none => rw [h2] at h; cases h
      | some j =>
        rw [h2] at h
        cases h
        obtain ⟨h3, h4, h5⟩ := idxB_some h2
        refine ⟨by simp; omega, by simpa using h4, ?_⟩
        intro y hy
        rw [List.take_succ_cons] at hy
        rcases List.mem_cons.1 hy with rfl | hy
        · exact e
        · exact h5 y hy
theorem idxB_none {c : UInt8} : ∀ {l : List UInt8}, idxB c l = none → ∀ x ∈ l, x ≠ c
  | [], _, _, hx => by cases hx
  | y :: l, h, x, hx => by
    unfold idxB at h
    split at h
    · cases h
    · rename_i e
      have h2 : idxB c l = none := by simpa using h
      rcases List.mem_cons.1 hx with rfl | hx
      · exact e
      · exact idxB_none h2 x hx
/-- Each c turned into new. -/
def repB (c : UInt8) (new l : List UInt8) : List UInt8 := l.flatMap fun x => if x = c then new else [x]
theorem repB_none {c : UInt8} {new : List UInt8} : ∀ {l : List UInt8}, (∀ x ∈ l, x ≠ c) → repB c new l = l
  | [], _ => rfl
  | x :: l, h => by
    have := repB_none (new := new) (l := l) fun y hy => h y (List.mem_cons_of_mem _ hy)
    unfold repB at this ⊢
    rw [List.flatMap_cons, if_neg (h x List.mem_cons_self), this]
    rfl
theorem repB_cut {c : UInt8} {new l : List UInt8} {i : Nat} (h : idxB c l = some i) : repB c new l = l.take i ++ new ++ repB c new (l.drop (i + 1)) := by
  obtain ⟨h1, h2, h3⟩ := idxB_some h
  have e : l = l.take i ++ c :: l.drop (i + 1) := by rw [← h2, List.take_append_drop]
  conv => lhs; rw [e]
  have := repB_none (new := new) h3
  unfold repB at this ⊢
  rw [List.flatMap_append, this, List.flatMap_cons, if_pos rfl, List.append_assoc]
structure RRel (c : UInt8) (new l : List UInt8) (w : World) (cur : ByteArray) (v : Value) (wr : World) : Prop where
  acc : ∃ acc : List UInt8, repB c new l = acc ++ repB c new cur.data.toList ∧ wr.ownsRow w.heap.size 5 1 v acc.length (Lib.byteCells acc)
  below : Below w.heap.size w wr
  size : cur.size ≤ l.length
theorem RRel.below' {c : UInt8} {new l : List UInt8} {w : World} {cur : ByteArray} {v : Value} {wr : World} (h : RRel c new l w cur v wr) : w.heap.size ≤ wr.heap.size := h.below.size
theorem grown_below {B : Nat} {w w' w2 : World} {v : Value} {n : Nat} {e : TypeId} {xs : List Value} (h : Below B w w') (ho : w'.ownsRow B e 1 v n xs) (hs : B ≤ w'.heap.size) (hg : w'.grownBy w2 v.ownBlock) : Below B w w2 := by
  refine h.trans ⟨hg.os, hg.tape, hg.output, hg.size, fun k hk => hg.block k (by omega) fun e => ?_⟩
  rcases ho.2 with ⟨rfl, _⟩ | ⟨g, cap, cur, rfl, hb, _⟩
  · simp [Value.ownBlock] at e
  · simp [Value.ownBlock] at e; omega
theorem strCells_eq (s : ByteArray) : Lib.strCells s = Lib.byteCells s.data.toList := rfl
theorem ext_data (s : ByteArray) (i j : Nat) : (s.extract i j).data.toList = (s.data.toList.drop i).take (j - i) := by
  rw [← ByteArray.toList_eq, ext_list]
theorem rep_long {c : UInt8} {new : List UInt8} (hn : 0 < new.length) : ∀ l : List UInt8, l.length ≤ (repB c new l).length
  | [] => Nat.zero_le _
  | x :: l => by
    have := rep_long (c := c) hn l
    unfold repB at this ⊢
    rw [List.flatMap_cons, List.length_append, List.length_cons]
    split
    · omega
    · simp only [List.length_singleton]; omega
set_option maxRecDepth 100000 in
set_option maxHeartbeats 4000000 in
theorem zzReplace_byte (s : ByteArray) (c : UInt8) (new : ByteArray) (hn : 0 < new.size) (hs : (repB c new.data.toList s.data.toList).length ≤ 140737488355328) (w : World) :
    Calls Tryz.prog 116 #[.string s, .string ⟨#[c]⟩, .string new] w fun e w' => e = .returned (.string ⟨(repB c new.data.toList s.data.toList).toArray⟩) ∧ Below w.heap.size w w' := by
  obtain ⟨i0, hi, hz0, hz1, hz2⟩ := info_parts info_u8
  have HSZ := Lib.hid hs
  have HN := Lib.hid hn
  have HNL : Hid (new.data.toList.length = new.size) := (Lib.size_eq new).symm
  have HSL : Hid (s.size ≤ 140737488355328) := by
    show _ ≤ _
    have := rep_long (c := c) (new := new.data.toList) (by rw [HNL.out]; exact hn) s.data.toList
    rw [show s.data.toList.length = s.size from (Lib.size_eq s).symm] at this
    omega
  clear hs hn
  go_enter Tryz.func116, Tryz.ntmps116
  go_wp2
  go_loopg [0, 7, 10] (s.size + 1) (fun kq v0 v7 v10 wr => ∃ cur : ByteArray, v0 = .string cur ∧ cur.size < kq ∧ RRel c new.data.toList s.data.toList w cur v7 wr)
  case atStart => exact ⟨s, rfl, Nat.lt_succ_self _, ⟨[], rfl, World.ownsRow_nil _ _ _ _⟩, Below.refl _ _, by rw [show s.data.toList.length = s.size from (Lib.size_eq s).symm]; exact Nat.le_refl _⟩
  case round =>
    obtain ⟨cur, rfl, hk, HR⟩ := hrel
    have HR := Lib.hid HR
    obtain ⟨⟨acc, hacc, hown⟩, hbel, hsz⟩ := HR.out
    have HACC := Lib.hid hacc
    have HB := Lib.hid hbel
    have HOWN := Lib.hid hown
    have hcl : cur.size ≤ 140737488355328 := by have := HSL.out; rw [show s.data.toList.length = s.size from (Lib.size_eq s).symm] at hsz; omega
    have HCL : Hid (cur.data.toList.length = cur.size) := (Lib.size_eq cur).symm
    have hbs := hbel.size
    clear hacc hbel hown hsz
    cases hix : idxB c cur.data.toList with
    | none =>
      have HRES : Hid (repB c new.data.toList s.data.toList = acc ++ cur.data.toList) := by show _ = _; rw [HACC.out, repB_none (idxB_none hix)]
      have hlen : acc.length + cur.size ≤ 140737488355328 := by have h1 := HSZ.out; rw [HRES.out, List.length_append, HCL.out] at h1; exact h1
      have HIX := Lib.hid hix
      clear hix HACC
      go_wp2_with (fail)
      refine (zzIndex_byte cur c (by omega) _).mono ?_
      rw [HIX.out]
      unfold idxV
      rintro e w' ⟨rfl, rfl⟩
      go_wp2_with (at_builtin; refine Lib.wpList_append_own_string _ rfl _ _ 31 9 rfl w.heap.size 5 i0 Tryz.underlying31 Tryz.underlying9 hi hz0 hz1 hz2 _ _ _ rfl HOWN.out cur rfl (by unfold maxLen; omega) (by omega) (by omega) ?_)
      intro v' w2 hown' hgrow _
      have HB2 : Hid (Below w.heap.size w w2) := grown_below HB.out HOWN.out hbs hgrow
      have hcv : (convert 31 9 v').run Tryz.prog w2 = .ok (.string ⟨(repB c new.data.toList s.data.toList).toArray⟩) w2 := by
        rw [HRES.out]
        refine (BSrc.of_row (B := w.heap.size) ?_).conv
        rw [byteCells_append, List.length_append, HCL.out, ← strCells_eq]
        exact hown'
      clear hown' hgrow HOWN
      go_wp2
      go_ret
      exact ⟨rfl, HB2.out⟩
    | some i => 
      obtain ⟨hi1, hi2, hi3⟩ := idxB_some hix
      have hi1' : i < cur.size := by rw [HCL.out] at hi1; exact hi1
      have HRES : Hid (repB c new.data.toList s.data.toList = (acc ++ (cur.data.toList.take i ++ new.data.toList)) ++ repB c new.data.toList (cur.data.toList.drop (i + 1))) := by
        show _ = _; rw [HACC.out, repB_cut hix]; simp only [List.append_assoc]
      have hlen : acc.length + i + new.size ≤ 140737488355328 := by
        have h1 := HSZ.out
        rw [HRES.out] at h1
        simp only [List.length_append, List.length_take, HCL.out, HNL.out] at h1
        omega
      have HIX := Lib.hid hix
      have hes : (cur.extract 0 i).size = i := by rw [ByteArray.size_extract]; omega
      have hes2 : (cur.extract (i + 1) cur.size).size = cur.size - (i + 1) := by rw [ByteArray.size_extract]; omega
      have HE1 : Hid (Lib.strCells (cur.extract 0 i) = Lib.byteCells (cur.data.toList.take i)) := by
        show _ = _; rw [strCells_eq, ext_data, List.drop_zero, Nat.sub_zero]
      have HE2 : Hid ((cur.extract (i + 1) cur.size).data.toList = cur.data.toList.drop (i + 1)) := by
        show _ = _
        rw [ext_data, List.take_of_length_le]
        rw [List.length_drop, HCL.out]; omega
      clear hix HACC hi1 hi2 hi3
      have HES := Lib.hid hes
      have HES2 := Lib.hid hes2
      clear hes hes2
      go_wp2_with (fail)
      refine (zzIndex_byte cur c (by omega) _).mono ?_
      rw [HIX.out]
      unfold idxV
      rintro e w' ⟨rfl, rfl⟩
      go_wp2_with (at_builtin; refine Lib.wpList_append_own_string _ rfl _ _ 31 9 rfl w.heap.size 5 i0 Tryz.underlying31 Tryz.underlying9 hi hz0 hz1 hz2 _ _ _ rfl HOWN.out (cur.extract 0 i) rfl (by rw [HES.out]; unfold maxLen; omega) (by rw [HES.out]; omega) (by omega) ?_)
      intro v' w2 hown' hgrow _
      have HB2 : Hid (Below w.heap.size w w2) := grown_below HB.out HOWN.out hbs hgrow
      have HOWN2 := Lib.hid hown'
      have hbs2 := HB2.out.size
      clear hown' hgrow HOWN
      go_wp2_with (at_builtin; refine Lib.wpList_append_own_string _ rfl _ _ 31 9 rfl w.heap.size 5 i0 Tryz.underlying31 Tryz.underlying9 hi hz0 hz1 hz2 _ _ _ rfl HOWN2.out new rfl (by unfold maxLen; first | omega | (rw [HES.out]; omega)) (by first | omega | (rw [HES.out]; omega)) (by omega) ?_)
      intro v3 w3 hown' hgrow _
      have HB3 : Hid (Below w.heap.size w w3) := grown_below HB2.out HOWN2.out hbs2 hgrow
      have HREL : Hid (RRel c new.data.toList s.data.toList w (cur.extract (i + 1) cur.size) v3 w3) := by
        refine ⟨⟨acc ++ (cur.data.toList.take i ++ new.data.toList), by rw [HE2.out]; exact HRES.out, ?_⟩, HB3.out, ?_⟩
        · have : (acc ++ (cur.data.toList.take i ++ new.data.toList)).length = acc.length + (cur.extract 0 i).size + new.size := by
            simp only [List.length_append, List.length_take, HCL.out, HNL.out, HES.out]; omega
          have hmin : min i cur.size = (cur.extract 0 i).size := by rw [HES.out]; omega
          rw [this, byteCells_append, byteCells_append, ← HE1.out, ← strCells_eq]
          rw [hmin] at hown'
          exact hown'
        · have h1 := HR.out.size
          rw [HES2.out]; omega
      clear hown' hgrow HOWN2
      go_wp2
      go_roundg (cur.size)
      case measure => omega
      case rel => exact ⟨cur.extract (i + 1) cur.size, rfl, by rw [HES2.out]; omega, HREL.out⟩
/-- A string as the canonical form writes it. -/
def encStr (l : List UInt8) : List UInt8 := 34 :: repB 34 [92, 34] (repB 92 [92, 92] l) ++ [34]
theorem rep_le2 (c : UInt8) (x y : UInt8) : ∀ l : List UInt8, (repB c [x, y] l).length ≤ 2 * l.length
  | [] => Nat.zero_le _
  | z :: l => by
    have := rep_le2 c x y l
    unfold repB at this ⊢
    rw [List.flatMap_cons, List.length_append, List.length_cons]
    split
    · simp only [List.length_cons, List.length_nil]; omega
    · simp only [List.length_singleton]; omega
set_option maxRecDepth 100000 in
set_option maxHeartbeats 4000000 in
theorem encStr_any (s : ByteArray) (hs : s.size ≤ 4294967296) (w : World) :
    Calls Tryz.prog 93 #[.string s] w fun e w' => e = .returned (.string ⟨(encStr s.data.toList).toArray⟩) ∧ Below w.heap.size w w' := by
  have hsl : s.data.toList.length = s.size := (Lib.size_eq s).symm
  have h1 := rep_le2 92 92 92 s.data.toList
  have h2 := rep_le2 34 92 34 (repB 92 [92, 92] s.data.toList)
  have H1 := Lib.hid h1
  have H2 := Lib.hid h2
  have HL := Lib.hid hsl
  clear hsl h1 h2
  obtain ⟨t, ht⟩ : ∃ t : ByteArray, t = ⟨(repB 92 [92, 92] s.data.toList).toArray⟩ := ⟨_, rfl⟩
  have HT : Hid (t.data.toList = repB 92 [92, 92] s.data.toList) := by rw [ht]; exact Lib.hid rfl
  obtain ⟨u, hu⟩ : ∃ u : ByteArray, u = ⟨(repB 34 [92, 34] t.data.toList).toArray⟩ := ⟨_, rfl⟩
  have HU := Lib.hid hu
  go_enter Tryz.func93, Tryz.ntmps93
  go_wp2_with (fail)
  refine (zzReplace_byte s 92 ⟨#[92, 92]⟩ (by decide) (by show (repB 92 [92, 92] s.data.toList).length ≤ _; have := H1.out; have := HL.out; omega) _).mono ?_
  rintro e w1 ⟨rfl, hb⟩
  have HB1 := Lib.hid hb
  have e1 : (⟨(repB 92 (⟨#[92, 92]⟩ : ByteArray).data.toList s.data.toList).toArray⟩ : ByteArray) = t := ht.symm
  rw [e1]
  clear hb ht hu e1
  go_wp2_with (fail)
  refine (zzReplace_byte t 34 ⟨#[92, 34]⟩ (by decide) (by show (repB 34 [92, 34] t.data.toList).length ≤ _; rw [HT.out]; have := H2.out; have := H1.out; have := HL.out; omega) _).mono ?_
  rintro e w2 ⟨rfl, hb⟩
  have HB2 := Lib.hid (HB1.out.trans (hb.mono HB1.out.size))
  have e1 : (⟨(repB 34 (⟨#[92, 34]⟩ : ByteArray).data.toList t.data.toList).toArray⟩ : ByteArray) = u := HU.out.symm
  rw [e1]
  have hul : u.size ≤ 17179869184 := by
    have h3 : u.size = (repB 34 [92, 34] t.data.toList).length := by rw [HU.out]; simp [ByteArray.size]
    rw [h3, HT.out]
    have := H2.out
    have := H1.out
    have := HL.out
    omega
  clear hb e1
  go_wp2_with (fail)
  go_ret
  refine ⟨?_, HB2.out⟩
  have he : (⟨#[34]⟩ ++ u ++ ⟨#[34]⟩ : ByteArray) = ⟨(encStr s.data.toList).toArray⟩ := by
    rw [HU.out, HT.out]
    apply ByteArray.ext
    simp [encStr, ByteArray.data_append]
  rw [← he]
  rfl
/-- What encodeCanonical writes of a value, whatever the memory. -/
def EncAt (x : Value) (t : List UInt8) : Prop := ∀ (R b : Nat) (l : List UInt8) (w : World), SB R b l w → l.length + t.length ≤ 70368744177664 →
  Calls Tryz.prog 64 #[x, .pointer (some ⟨b, 0, none⟩)] w fun e w' => e = .returned .nilIface ∧ FrR R b w w' ∧ SB R b (l ++ t) w'
theorem as_yes_s (v : Value) (w : World) : (Instr.typeAssert (.iface 9 v) 20 9 true).run Tryz.prog w = .ok (.tuple #[v, .bool true]) w := by kernel_rfl
theorem as_nil_s (w : World) : (Instr.typeAssert .nilIface 20 9 true).run Tryz.prog w = .ok (.tuple #[.string ⟨#[]⟩, .bool false]) w := by kernel_rfl
theorem as_nil_b (w : World) : (Instr.typeAssert .nilIface 20 4 true).run Tryz.prog w = .ok (.tuple #[.bool false, .bool false]) w := by kernel_rfl
theorem as_nil_n (w : World) : (Instr.typeAssert .nilIface 20 128 true).run Tryz.prog w = .ok (.tuple #[.string ⟨#[]⟩, .bool false]) w := by kernel_rfl
theorem as_l_s (v : Value) (w : World) : (Instr.typeAssert (.iface 129 v) 20 9 true).run Tryz.prog w = .ok (.tuple #[.string ⟨#[]⟩, .bool false]) w := by kernel_rfl
theorem as_l_b (v : Value) (w : World) : (Instr.typeAssert (.iface 129 v) 20 4 true).run Tryz.prog w = .ok (.tuple #[.bool false, .bool false]) w := by kernel_rfl
theorem as_l_n (v : Value) (w : World) : (Instr.typeAssert (.iface 129 v) 20 128 true).run Tryz.prog w = .ok (.tuple #[.string ⟨#[]⟩, .bool false]) w := by kernel_rfl
theorem as_l_yes (v : Value) (w : World) : (Instr.typeAssert (.iface 129 v) 20 129 true).run Tryz.prog w = .ok (.tuple #[v, .bool true]) w := by kernel_rfl
set_option maxRecDepth 100000 in
set_option maxHeartbeats 4000000 in
theorem enc_null : EncAt .nilIface [110, 117, 108, 108] := by
  intro R b l w hS hl
  have HS := Lib.hid hS
  simp only [List.length_cons, List.length_nil] at hl
  clear hS
  have a1 := as_nil_s
  have a2 := as_nil_b
  have a3 := as_nil_n
  go_enter Tryz.func64, Tryz.ntmps64
  go_wp2_with (fail)
  refine (writeString_any ⟨#[110, 117, 108, 108]⟩ HS.out (by simp only [ByteArray.size, List.size_toArray, List.length_cons, List.length_nil]; omega)).mono ?_
  rintro e w1 ⟨rfl, hf, hS⟩
  have HP := Lib.hid (And.intro hf hS)
  clear hf hS
  go_wp2_with (fail)
  go_ret
  exact ⟨rfl, HP.out⟩
set_option maxRecDepth 100000 in
set_option maxHeartbeats 4000000 in
theorem enc_str (s : ByteArray) (hs : s.size ≤ 4294967296) : EncAt (.iface 9 (.string s)) (encStr s.data.toList) := by
  intro R b l w hS hl
  have HS := Lib.hid hS
  obtain ⟨t, ht⟩ : ∃ t : ByteArray, t = ⟨(encStr s.data.toList).toArray⟩ := ⟨_, rfl⟩
  have HT : Hid (t.data.toList = encStr s.data.toList) := by rw [ht]; exact Lib.hid rfl
  have htl : t.size = (encStr s.data.toList).length := by rw [ht]; simp [ByteArray.size]
  rw [← htl] at hl
  clear hS htl
  have HTE := Lib.hid ht
  clear ht
  have a1 := as_yes_s
  go_enter Tryz.func64, Tryz.ntmps64
  go_wp2_with (fail)
  refine (encStr_any s hs _).mono ?_
  rintro e w1 ⟨rfl, hb⟩
  rw [← HTE.out]
  have HB := Lib.hid hb
  clear hb
  go_wp2_with (fail)
  refine (writeString_any t (HS.out.below HB.out) (by omega)).mono ?_
  rintro e w2 ⟨rfl, hf, hS⟩
  rw [HT.out] at hS
  have HP : Hid (FrR R b w w2 ∧ SB R b (l ++ encStr s.data.toList) w2) := ⟨((FrR.refl R b w).below (by obtain ⟨_, _, _, _, _, _, hR⟩ := HS.out; exact hR) HB.out).trans hf, hS⟩
  clear hf hS
  go_wp2_with (fail)
  go_ret
  exact ⟨rfl, HP.out⟩
/-- A value as it lies in memory, with its canonical form. -/
inductive CV (P : Nat → Prop) (w : World) : Value → List UInt8 → Prop
  | null : CV P w .nilIface [110, 117, 108, 108]
  | str (s : ByteArray) (hs : s.size ≤ 4294967296) : CV P w (.iface 9 (.string s)) (encStr s.data.toList)
  | list (g n c : Nat) (L : List (Value × List UInt8)) (hb : P g) (hlt : g < w.heap.size) (hn : L.length = n) (hc : n ≤ c) (hm : c ≤ maxLen) (hv : ∀ x ∈ L, CV P w x.1 x.2)
      (hcell : ∀ (j : Nat) (x : Value × List UInt8), L[j]? = some x → w.cell? ⟨g, j, none⟩ = some x.1) :
      CV P w (.iface 129 (.slice (some ⟨g, 0, none⟩) n c)) (91 :: joinC (L.map (·.2)) ++ [93])
theorem CV.one {P : Nat → Prop} {w : World} {x : Value} {t : List UInt8} (h : CV P w x t) : x.oneCell' = true := by cases h <;> rfl
theorem CV.isIface {P : Nat → Prop} {w : World} {x : Value} {t : List UInt8} (h : CV P w x t) : x = .nilIface ∨ ∃ T y, x = .iface T y := by
  cases h
  · exact .inl rfl
  · exact .inr ⟨_, _, rfl⟩
  · exact .inr ⟨_, _, rfl⟩
/-- What is written of a list when k of its members are. -/
def listTo (L : List (List UInt8)) (k : Nat) : List UInt8 := if k = 0 then [] else if k = L.length then joinC L else joinC (L.take k) ++ [44]
theorem joinC_len_le (L : List (List UInt8)) (t : List UInt8) : (joinC L).length ≤ (joinC (L ++ [t])).length := by
  rw [joinC_snoc]
  split
  · rename_i h; subst h; simp [joinC]
  · simp
theorem listTo_step (L : List (List UInt8)) (k : Nat) (t : List UInt8) (h : L[k]? = some t) : listTo L (k + 1) = listTo L k ++ t ++ (if k + 1 = L.length then [] else [44]) := by
  obtain ⟨hk, rfl⟩ := List.getElem?_eq_some_iff.1 h
  unfold listTo
  rw [if_neg (Nat.succ_ne_zero k), if_neg (show ¬ k = L.length by omega)]
  have hj : joinC (L.take (k + 1)) = (if k = 0 then [] else joinC (L.take k) ++ [44]) ++ L[k] := by
    rw [List.take_succ_eq_append_getElem hk, joinC_snoc]
    by_cases h0 : k = 0
    · subst h0; simp
    · rw [if_neg h0, if_neg (by intro e; have := congrArg List.length e; rw [List.length_take, List.length_nil] at this; omega)]; simp
  by_cases he : k + 1 = L.length
  · rw [if_pos he, if_pos he, List.append_nil, ← hj, he, List.take_length]
  · rw [if_neg he, if_neg he, hj]
theorem listTo_end (L : List (List UInt8)) : listTo L L.length = joinC L := by
  unfold listTo
  split
  · rename_i h; rw [List.length_eq_zero_iff.1 h]; rfl
  · rw [if_pos rfl]
theorem flat_take (L : List (List UInt8)) (k : Nat) : ((L.take k).flatMap fun u => 44 :: u).length ≤ (L.flatMap fun u => 44 :: u).length := by
  conv => rhs; rw [← List.take_append_drop k L, List.flatMap_append, List.length_append]
  omega
theorem joinC_pre (L : List (List UInt8)) (k : Nat) : (joinC (L.take k)).length ≤ (joinC L).length := by
  cases L with
  | nil => simp
  | cons x L =>
    cases k with
    | zero => simp [joinC]
    | succ k =>
      simp only [List.take_succ_cons, joinC, List.length_append]
      have := flat_take L k
      omega
theorem listTo_le (L : List (List UInt8)) (k : Nat) : (listTo L k).length ≤ (joinC L).length + 1 := by
  unfold listTo
  split
  · simp
  · split
    · omega
    · have := joinC_pre L k
      simp; omega
structure LRel (P : Nat → Prop) (w0 : World) (R b : Nat) (l : List UInt8) (L : List (List UInt8)) (w : World) (k : Nat) (wr : World) : Prop where
  fr : FrR R b w wr
  sb : SB R b (l ++ 91 :: listTo L k) wr
  keep : ∀ i, P i → i < w0.heap.size → wr.heap[i]? = w0.heap[i]?
set_option maxRecDepth 100000 in
set_option maxHeartbeats 4000000 in
theorem enc_any {P : Nat → Prop} {w0 : World} {x : Value} {t : List UInt8} (h : CV P w0 x t) : ∀ (R b : Nat) (l : List UInt8) (w : World), (∀ i, P i → i < w0.heap.size → w.heap[i]? = w0.heap[i]?) → (∀ i, P i → i < R ∧ i ≠ b) → SB R b l w → l.length + t.length ≤ 70368744177664 →
    Calls Tryz.prog 64 #[x, .pointer (some ⟨b, 0, none⟩)] w fun e w' => e = .returned .nilIface ∧ FrR R b w w' ∧ SB R b (l ++ t) w' := by
  induction h with
  | null => intro R b l w _ _ hS hl; exact enc_null R b l w hS hl
  | str s hs => intro R b l w _ _ hS hl; exact enc_str s hs R b l w hS hl
  | list g n c L hb hlt hn hc hm hv hcell ih =>
    intro R b l w hkeep hP hS hl
    subst hn
    obtain ⟨T, hT⟩ : ∃ T, T = L.map (·.2) := ⟨_, rfl⟩
    have hTl : T.length = L.length := by rw [hT, List.length_map]
    have HT := Lib.hid hT
    have HTL := Lib.hid hTl
    rw [← hT] at hl ⊢
    have HIH := Lib.hid ih
    have HP := Lib.hid hP
    have HV := Lib.hid hv
    have HCELL := Lib.hid hcell
    have HG := Lib.hid (And.intro hb hlt)
    have HR : Hid (R ≤ w.heap.size) := by obtain ⟨_, _, _, _, _, _, hR⟩ := hS; exact hR
    have HS := Lib.hid hS
    have HK := Lib.hid hkeep
    simp only [List.length_append, List.length_cons, List.length_nil] at hl
    unfold maxLen at hm
    clear hT hTl ih hP hv hcell hb hlt hS hkeep
    have a1 := as_l_s
    have a2 := as_l_b
    have a3 := as_l_n
    have a4 := as_l_yes
    go_enter Tryz.func64, Tryz.ntmps64
    go_wp2_with (fail)
    refine (writeString_any ⟨#[91]⟩ HS.out (by simp only [ByteArray.size, List.size_toArray, List.length_cons, List.length_nil]; omega)).mono ?_
    rintro e w1 ⟨rfl, hf, hS⟩
    have HL1 : Hid (LRel P w0 R b l T w 0 w1) := by
      refine ⟨hf, ?_, fun i hi hi2 => (hf.block i (HP.out i hi).1 (HP.out i hi).2).trans (HK.out i hi hi2)⟩
      unfold listTo; rw [if_pos rfl]; exact hS
    clear hf hS
    go_wp2_with (fail)
    go_loopw [64] (fun i wr => ∃ k : Nat, k ≤ L.length ∧ i = .int .i64 k ∧ LRel P w0 R b l T w k wr) (fun i _ => L.length - (intOf i).toNat)
    case atStart => exact ⟨0, Nat.zero_le _, rfl, HL1.out⟩
    case round =>
      obtain ⟨k, hk, rfl, HR⟩ := hrel
      have HR := Lib.hid HR
      by_cases hlt : k < L.length
      · have hx : L[k]? = some L[k] := List.getElem?_eq_getElem hlt
        obtain ⟨y, hy⟩ : ∃ y, y = L[k] := ⟨_, rfl⟩
        rw [← hy] at hx
        have hmem : y ∈ L := by rw [hy]; exact List.getElem_mem _
        obtain ⟨v, t⟩ := y
        have HX := Lib.hid hx
        have HM := Lib.hid hmem
        have hcl : wr.cell? ⟨g, k, none⟩ = some v := (World.cell?_of_block (HR.out.keep g HG.out.1 HG.out.2)).trans (HCELL.out k _ hx)
        clear hx hmem hy
        have hle := listTo_le T k
        have ht : T[k]? = some t := by rw [HT.out, List.getElem?_map, HX.out]; rfl
        have HST := Lib.hid (listTo_step T k t ht)
        have hle2 := listTo_le T (k + 1)
        have hle3 : (listTo T k).length + t.length ≤ (listTo T (k + 1)).length := by
          rw [HST.out, List.length_append, List.length_append]; omega
        clear ht
        go_wp2_with (fail)
        refine (HIH.out (v, t) HM.out R b (l ++ 91 :: listTo T k) wr HR.out.keep HP.out HR.out.sb (by simp only [List.length_append, List.length_cons]; omega)).mono ?_
        rintro e w2 ⟨rfl, hf, hS⟩
        have HF2 := Lib.hid (HR.out.fr.trans hf)
        have HS2 := Lib.hid hS
        have HK2 : Hid (∀ i, P i → i < w0.heap.size → w2.heap[i]? = w0.heap[i]?) := fun i hi hi2 => (hf.block i (HP.out i hi).1 (HP.out i hi).2).trans (HR.out.keep i hi hi2)
        clear hf hS
        by_cases hlast : k + 1 = L.length
        · have hn1 : ¬ ((k : Int) < (L.length : Int) - 1) := by omega
          rw [if_pos (by rw [HTL.out]; exact hlast), List.append_nil] at HST
          have HL2 : Hid (LRel P w0 R b l T w (k + 1) w2) := ⟨HF2.out, by rw [HST.out]; simpa only [List.append_assoc, List.cons_append] using HS2.out, HK2.out⟩
          go_wp2_with (fail)
          go_roundw
          case rel => exact ⟨k + 1, by omega, by go_num, HL2.out⟩
          case measure => simp [intOf]; omega
        · have hn1 : (k : Int) < (L.length : Int) - 1 := by omega
          rw [if_neg (by rw [HTL.out]; exact hlast)] at HST
          have hle4 : (listTo T k).length + t.length + 1 ≤ (listTo T (k + 1)).length := by rw [HST.out, List.length_append, List.length_append]; simp
          go_wp2_with (fail)
          refine (writeString_any ⟨#[44]⟩ HS2.out (by simp only [ByteArray.size, List.size_toArray, List.length_append, List.length_cons, List.length_nil]; omega)).mono ?_
          rintro e w3 ⟨rfl, hf, hS⟩
          have HL2 : Hid (LRel P w0 R b l T w (k + 1) w3) := by
            refine ⟨HF2.out.trans hf, ?_, fun i hi hi2 => (hf.block i (HP.out i hi).1 (HP.out i hi).2).trans (HK2.out i hi hi2)⟩
            rw [HST.out]
            have hS' : SB R b (l ++ 91 :: listTo T k ++ t ++ [44]) w3 := hS
            simpa only [List.append_assoc, List.cons_append] using hS'
          clear hf hS
          go_wp2_with (fail)
          go_roundw
          case rel => exact ⟨k + 1, by omega, by go_num, HL2.out⟩
          case measure => simp [intOf]; omega
      · have hkl : k = T.length := by rw [HTL.out]; omega
        have hSB := HR.out.sb
        rw [hkl, listTo_end] at hSB
        have HSB := Lib.hid hSB
        clear hSB
        go_wp2_with (fail)
        refine (writeString_any ⟨#[93]⟩ HSB.out (by simp only [ByteArray.size, List.size_toArray, List.length_append, List.length_cons, List.length_nil]; omega)).mono ?_
        rintro e w3 ⟨rfl, hf, hS⟩
        have HE : Hid (FrR R b w w3 ∧ SB R b (l ++ (91 :: joinC T ++ [93])) w3) := ⟨HR.out.fr.trans hf, by
          have hS' : SB R b (l ++ 91 :: joinC T ++ [93]) w3 := hS
          simpa only [List.append_assoc, List.cons_append] using hS'⟩
        clear hf hS
        go_wp2_with (fail)
        go_ret
        exact ⟨rfl, HE.out⟩
theorem encD_idle (p : Addr) (w : World) :
    CallsD Tryz.prog 62 #[.pointer (some p)] .returning w fun e u' w' => e = .returned (.tuple #[]) ∧ u' = .returning ∧ w' = w := by
  refine callsD_of_wpS Tryz.func62 rfl fun c₀ cs hu => ?_
  apply wpS_seq
  apply wpS_region
  simp [wpOpsS, go_sem, recoverD, hu, Tryz.ntmps62, Exit.thenS]
  apply wpS_seq
  apply wpS_region
  simp [wpOpsS, go_sem, Act.eval, Exit.thenS]
  refine wpS_cond (t := false) (by simp [Act.eval, Array.replicate]) ?_
  simp only [Bool.false_eq_true, if_false]
  refine wpS_of_wp (wp_skip ?_)
  cases c₀
  simp_all [bodyPostS, results, Tryz.results62]
set_option maxRecDepth 100000 in
set_option maxHeartbeats 8000000 in
theorem encodeCanonical_any {P : Nat → Prop} {w : World} {x : Value} {t : List UInt8} (h : CV P w x t) (hP : ∀ i, P i → i < w.heap.size) (hl : t.length ≤ 4294967296) :
    Calls Tryz.prog 35 #[x] w fun e w' => ∃ v, e = .returned (.tuple #[v, .nilIface]) ∧ BSrc w' v t ∧ Below w.heap.size w w' := by
  have hmf : ∀ (fn : Fn) (first cap : Array Value) (w : World), (Instr.makeFunc fn first cap).run Tryz.prog w = .ok (.func fn first cap) w := fun _ _ _ _ => rfl
  have H := Lib.hid h
  have HP := Lib.hid hP
  obtain ⟨s, hs⟩ : ∃ s : ByteArray, s = ⟨t.toArray⟩ := ⟨_, rfl⟩
  have HSD : Hid (s.data.toList = t) := by rw [hs]; exact Lib.hid rfl
  have HSS : Hid (s.size = t.length) := by rw [hs]; exact Lib.hid (by simp [ByteArray.size])
  have HSE := Lib.hid hs
  have hcv := fun w => Lib.run_convert_string_bytes (P := Tryz.prog) w 9 31 5 s (u := .string) Tryz.underlying9 Tryz.underlying31 Tryz.underlying5
  obtain ⟨W2, hW2⟩ : ∃ W2, W2 = (w.alloc (.cells #[.nilIface] 85)).alloc (.cells #[.pointer none, .slice none 0 0] 134) := ⟨_, rfl⟩
  have hs2 : W2.heap.size = w.heap.size + 2 := by rw [hW2, World.size_alloc, World.size_alloc]
  have HSB : Hid (SB (w.heap.size + 2) (w.heap.size + 1) [] W2) := by
    refine SB.new ?_ (by omega)
    have := alloc_at (w.alloc (.cells #[.nilIface] 85)) (.cells #[.pointer none, .slice none 0 0] 134)
    rw [World.size_alloc] at this
    rw [hW2]; exact this
  have HB2 : Hid (Below w.heap.size w W2) := by
    show Below _ _ _
    rw [hW2]; exact ((Below.refl _ _).alloc (Nat.le_refl _) _).alloc (by rw [World.size_alloc]; omega) _
  have HE2 : Hid (W2.heap[w.heap.size]? = some (.cells #[.nilIface] 85 (0, 0))) := by
    show _ = _
    rw [hW2, Below.heap_alloc _ _ _ (by rw [World.size_alloc]; omega)]
    exact alloc_at _ _
  have HW2 := Lib.hid hW2
  clear h hP hs hW2
  go_enter_defers Tryz.func35, Tryz.ntmps35
  go_wp2_with (fail)
  rw [← HW2.out]
  clear HW2
  refine (enc_any H.out (w.heap.size + 2) (w.heap.size + 1) [] W2 (fun i hi hi2 => HB2.out.block i hi2) (fun i hi => by have := HP.out i hi; omega) HSB.out (by simp only [List.length_nil]; omega)).mono ?_
  rintro e w3 ⟨rfl, hf, hS⟩
  rw [List.nil_append] at hS
  have HS3 := Lib.hid hS
  have HB3 : Hid (Below w.heap.size w w3) := HB2.out.trans (hf.toBelow (by omega) (by omega))
  have HE3 : Hid (w3.heap[w.heap.size]? = some (.cells #[.nilIface] 85 (0, 0))) := by
    show _ = _
    rw [hf.block _ (by omega) (by omega)]; exact HE2.out
  clear hf hS HSB HB2 HE2
  go_wp2_with (fail)
  refine (bString_any HS3.out).mono ?_
  rintro e w4 ⟨rfl, hb⟩
  rw [← HSE.out]
  have hm : min (w.heap.size + 2) (w.heap.size + 1) = w.heap.size + 1 := by omega
  rw [hm] at hb
  have HB4 : Hid (Below w.heap.size w w4) := HB3.out.trans (hb.mono (by omega))
  have HE4 : Hid (w4.heap[w.heap.size]? = some (.cells #[.nilIface] 85 (0, 0))) := by
    show _ = _
    rw [hb.block _ (by omega)]; exact HE3.out
  have hs4 : w.heap.size < w4.heap.size := by
    rcases Nat.lt_or_ge w.heap.size w4.heap.size with h | h
    · exact h
    · have := HE4.out; rw [Array.getElem?_eq_none h] at this; cases this
  have hb4 := hcv w4
  have hbel := Lib.bytesWorld_below w4 5 s
  have hcell : ∀ j, j < s.size → (Lib.bytesWorld w4 5 s).cell? ⟨w4.heap.size, j, none⟩ = some (.int .u8 (s.data.toList.getD j 0).toNat) := fun j hj => Lib.bytesWorld_cell w4 5 s j hj
  obtain ⟨W5, hW5⟩ : ∃ W5, W5 = Lib.bytesWorld w4 5 s := ⟨_, rfl⟩
  rw [← hW5] at hb4 hbel hcell
  have HB5 : Hid (Below w.heap.size w W5) := HB4.out.trans (hbel.mono (by omega))
  have e5 : W5.heap[w.heap.size]? = some (.cells #[.nilIface] 85 (0, 0)) := by rw [hbel.block _ (by omega)]; exact HE4.out
  have r0 : W5.cell? ⟨w.heap.size, 0, none⟩ = some .nilIface := by simp [World.cell?, e5]
  have z0 : W5.frozen? ⟨w.heap.size, 0, none⟩ = false := by simp [World.frozen?, e5]
  obtain ⟨cp, hcp⟩ : ∃ cp, cp = grownCap w4 s.size 0 5 := ⟨_, rfl⟩
  rw [← hcp] at hb4
  have HSRC : Hid (BSrc (W5.setCell ⟨w.heap.size, 0, none⟩ .nilIface) (.slice (some ⟨w4.heap.size, 0, none⟩) s.size cp) t) := by
    refine .inr ⟨⟨w4.heap.size, 0, none⟩, cp, by rw [HSS.out], by unfold maxLen; omega, fun j y hj => ?_⟩
    rw [addrAdd, Nat.zero_add, World.cell?_of_block (Below.heap_setCell _ _ _ _ (by simp only; omega)), hcell j (by rw [HSS.out]; exact (List.getElem?_eq_some_iff.1 hj).1), HSD.out]
    congr 2
    rw [List.getD_eq_getElem?_getD, hj]; rfl
  clear hcell hbel hb hcv hW5 hcp e5 HB3 HE3 HE4 HS3
  go_wp2
  refine leaves_cons (f := 62) (args := #[.pointer (some ⟨w.heap.size, 0, none⟩)]) (by simp) (by simp [go_sem]) ?_
  refine (encD_idle _ _).mono ?_
  rintro e u' w9 ⟨rfl, rfl, rfl⟩
  simp [Leaves, settle, results, Tryz.results35, go_sem, r0]
  exact ⟨HSRC.out, HB5.out.setCell (Nat.le_refl _) _⟩
set_option maxRecDepth 100000 in
set_option maxHeartbeats 4000000 in
theorem value_null (w : World) : Calls Tryz.prog 34 #[.agg #[.string ⟨#[110, 117, 108, 108]⟩, .string ⟨#[]⟩, .slice none 0 0, .slice none 0 0]] w fun e w' => e = .returned (.tuple #[.nilIface, .bool true]) ∧ Below w.heap.size w w' := by
  go_enter Tryz.func34, Tryz.ntmps34
  go_wp2_with (fail)
  go_ret2
  exact ⟨rfl, (Below.refl _ _).alloc (Nat.le_refl _) _⟩
set_option maxRecDepth 100000 in
set_option maxHeartbeats 4000000 in
theorem value_str (s : ByteArray) (w : World) : Calls Tryz.prog 34 #[.agg #[.string ⟨#[115, 116, 114, 105, 110, 103]⟩, .string s, .slice none 0 0, .slice none 0 0]] w fun e w' => e = .returned (.tuple #[.iface 9 (.string s), .bool true]) ∧ Below w.heap.size w w' := by
  go_enter Tryz.func34, Tryz.ntmps34
  go_wp2_with (fail)
  go_ret2
  exact ⟨rfl, (Below.refl _ _).alloc (Nat.le_refl _) _⟩
theorem own_below {w w' : World} {R k n : Nat} {T : TypeId} {v : Value} {xs : List Value} (h : w.ownsRow R T k v n xs) (hb : Below w.heap.size w w') : w'.ownsRow R T k v n xs := by
  refine ⟨h.1, ?_⟩
  rcases h.2 with hn | ⟨g, cap, cur, rfl, h1, hg, rest⟩
  · exact .inl hn
  · have hl : g < w.heap.size := by
      rcases Nat.lt_or_ge g w.heap.size with hl | hl
      · exact hl
      · rw [Array.getElem?_eq_none hl] at hg; cases hg
    exact .inr ⟨g, cap, cur, rfl, h1, by rw [hb.block g hl]; exact hg, rest⟩
theorem info_any : (Tryz.prog.info? 20).map (fun i => (i.zero, i.size, i.bytes)) = some (some .nilIface, 1, 16) := by kernel_rfl
set_option maxRecDepth 100000 in
set_option maxHeartbeats 8000000 in
theorem value_list2 (s : ByteArray) (g : Nat) (w : World) (hg : w.heap[g]? = some (.cells #[.string ⟨#[110, 117, 108, 108]⟩, .string ⟨#[]⟩, .slice none 0 0, .slice none 0 0, .string ⟨#[115, 116, 114, 105, 110, 103]⟩, .string s, .slice none 0 0, .slice none 0 0] 25 (0, 0))) :
    Calls Tryz.prog 34 #[.agg #[.string ⟨#[108, 105, 115, 116]⟩, .string ⟨#[]⟩, .slice none 0 0, .slice (some ⟨g, 0, none⟩) 2 2]] w fun e w' =>
      ∃ b cp, e = .returned (.tuple #[.iface 129 (.slice (some ⟨b, 0, none⟩) 2 cp), .bool true]) ∧ Below w.heap.size w w' ∧ 2 ≤ cp ∧ cp ≤ maxLen ∧ w.heap.size ≤ b ∧ b < w'.heap.size ∧
        w'.cell? ⟨b, 0, none⟩ = some .nilIface ∧ w'.cell? ⟨b, 1, none⟩ = some (.iface 9 (.string s)) := by
  obtain ⟨i0, hi, hz0, hz1, hz2⟩ := info_parts info_any
  have hgl : g < w.heap.size := by
    rcases Nat.lt_or_ge g w.heap.size with h | h
    · exact h
    · rw [Array.getElem?_eq_none h] at hg; cases hg
  have HG := Lib.hid hg
  clear hg
  obtain ⟨W, hW⟩ : ∃ W, W = (w.alloc (.cells #[.string ⟨#[108, 105, 115, 116]⟩, .string ⟨#[]⟩, .slice none 0 0, .slice (some ⟨g, 0, none⟩) 2 2] 25)).alloc (.cells #[] 20) := ⟨_, rfl⟩
  have hs2 : W.heap.size = w.heap.size + 2 := by rw [hW, World.size_alloc, World.size_alloc]
  have HB : Hid (Below w.heap.size w W) := by
    show Below _ _ _
    rw [hW]; exact ((Below.refl _ _).alloc (Nat.le_refl _) _).alloc (by rw [World.size_alloc]; omega) _
  have HOWN : Hid (W.ownsRow (w.heap.size + 1) 20 1 (.slice (some ⟨w.heap.size + 1, 0, none⟩) 0 0) 0 []) := by
    refine ⟨rfl, .inr ⟨w.heap.size + 1, 0, #[], rfl, Nat.le_refl _, ?_, Nat.le_refl _, by decide, rfl, rfl⟩⟩
    have := alloc_at (w.alloc (.cells #[.string ⟨#[108, 105, 115, 116]⟩, .string ⟨#[]⟩, .slice none 0 0, .slice (some ⟨g, 0, none⟩) 2 2] 25)) (.cells #[] 20)
    rw [World.size_alloc] at this
    rw [hW]; exact this
  have HC : Hid (∀ W', Below w.heap.size w W' → W'.cell? ⟨g, 0, none⟩ = some (.string ⟨#[110, 117, 108, 108]⟩) ∧ W'.cell? ⟨g, 1, none⟩ = some (.string ⟨#[]⟩) ∧ W'.cell? ⟨g, 2, none⟩ = some (.slice none 0 0) ∧ W'.cell? ⟨g, 3, none⟩ = some (.slice none 0 0) ∧
      W'.cell? ⟨g, 4, none⟩ = some (.string ⟨#[115, 116, 114, 105, 110, 103]⟩) ∧ W'.cell? ⟨g, 5, none⟩ = some (.string s) ∧ W'.cell? ⟨g, 6, none⟩ = some (.slice none 0 0) ∧ W'.cell? ⟨g, 7, none⟩ = some (.slice none 0 0)) := by
    intro W' hb
    have := (hb.block g hgl).trans HG.out
    refine ⟨?_, ?_, ?_, ?_, ?_, ?_, ?_, ?_⟩ <;> simp [World.cell?, this]
  have HW := Lib.hid hW
  clear hW
  go_enter Tryz.func34, Tryz.ntmps34
  go_wp2_with (fail)
  rw [← HW.out]
  clear HW HG
  refine wp_loop_rounds 4 ?_
  rw [rounds_succ]
  obtain ⟨c0, c1, c2, c3, _, _, _, _⟩ := HC.out W HB.out
  go_wp2_with (fail)
  refine (value_null _).mono ?_
  rintro e w1a ⟨rfl, hb⟩
  have hbe1 : Below W.heap.size W w1a := ((Below.refl _ _).alloc (Nat.le_refl _) _).trans (hb.mono (by rw [World.size_alloc]; omega))
  have HB1a : Hid (Below w.heap.size w w1a) := HB.out.trans (hbe1.mono HB.out.size)
  have HO1a := Lib.hid (own_below HOWN.out hbe1)
  have hsz1a : w.heap.size + 2 ≤ w1a.heap.size := by have := hbe1.size; omega
  clear hb hbe1
  obtain ⟨w1b, hw1b⟩ : ∃ w1b, w1b = w1a.alloc (.cells #[.nilIface] 20) := ⟨_, rfl⟩
  have hbf1 : Below w1a.heap.size w1a w1b := by rw [hw1b]; exact (Below.refl _ _).alloc (Nat.le_refl _) _
  have HB1b : Hid (Below w.heap.size w w1b) := HB1a.out.trans (hbf1.mono HB1a.out.size)
  have HO1b := Lib.hid (own_below HO1a.out hbf1)
  have HN1 : Hid (∀ (j : Nat) (u : Value), [.nilIface][j]? = some u → w1b.cell? ((⟨w1a.heap.size, 0, none⟩ : Addr).add j) = some u) := by
    intro j u hu
    match j, hu with
    | 0, hu =>
      cases hu
      rw [hw1b, addrAdd, World.cell?, alloc_at]
      rfl
    | j + 1, hu => cases hu
  have hsz1b : w.heap.size + 3 ≤ w1b.heap.size := by rw [hw1b, World.size_alloc]; omega
  have HW1b := Lib.hid hw1b
  clear hbf1 hw1b
  go_wp2_with (at_builtin; rw [← HW1b.out]; refine wpList_append_own_at _ rfl _ _ 129 rfl (w.heap.size + 1) 20 i0 .nilIface 1 16 Tryz.underlying129 hi hz0 hz1 hz2 rfl (by decide) _ _ _ rfl HO1b.out ⟨w1a.heap.size, 0, none⟩ 1 1 [.nilIface] rfl rfl HN1.out (by intro u hu; rw [List.mem_singleton.1 hu]; rfl) (by unfold maxLen; omega) (by omega) (by omega) ?_)
  intro v1 w1c hown hgr _ _
  have HB1c : Hid (Below (w.heap.size + 1) w1b w1c) := grown_below (Below.refl _ _) HO1b.out (by omega) hgr
  have HB1d : Hid (Below w.heap.size w w1c) := HB1b.out.trans (HB1c.out.mono (by omega))
  have HO1c := Lib.hid hown
  have hsz1c : w.heap.size + 3 ≤ w1c.heap.size := by have := HB1c.out.size; omega
  clear hown hgr
  go_wp2_with (fail)
  clear c0 c1 c2 c3
  rw [rounds_succ]
  obtain ⟨_, _, _, _, c4, c5, c6, c7⟩ := HC.out w1c HB1d.out
  go_wp2_with (fail)
  refine (value_str s _).mono ?_
  rintro e w2a ⟨rfl, hb⟩
  have hbe2 : Below w1c.heap.size w1c w2a := ((Below.refl _ _).alloc (Nat.le_refl _) _).trans (hb.mono (by rw [World.size_alloc]; omega))
  have HB2a : Hid (Below w.heap.size w w2a) := HB1d.out.trans (hbe2.mono HB1d.out.size)
  have HO2a := Lib.hid (own_below HO1c.out hbe2)
  have hsz2a : w.heap.size + 2 ≤ w2a.heap.size := by have := hbe2.size; omega
  clear hb hbe2
  obtain ⟨w2b, hw2b⟩ : ∃ w2b, w2b = w2a.alloc (.cells #[.iface 9 (.string s)] 20) := ⟨_, rfl⟩
  have hbf2 : Below w2a.heap.size w2a w2b := by rw [hw2b]; exact (Below.refl _ _).alloc (Nat.le_refl _) _
  have HB2b : Hid (Below w.heap.size w w2b) := HB2a.out.trans (hbf2.mono HB2a.out.size)
  have HO2b := Lib.hid (own_below HO2a.out hbf2)
  have HN2 : Hid (∀ (j : Nat) (u : Value), [.iface 9 (.string s)][j]? = some u → w2b.cell? ((⟨w2a.heap.size, 0, none⟩ : Addr).add j) = some u) := by
    intro j u hu
    match j, hu with
    | 0, hu =>
      cases hu
      rw [hw2b, addrAdd, World.cell?, alloc_at]
      rfl
    | j + 1, hu => cases hu
  have hsz2b : w.heap.size + 3 ≤ w2b.heap.size := by rw [hw2b, World.size_alloc]; omega
  have HW2b := Lib.hid hw2b
  clear hbf2 hw2b
  go_wp2_with (at_builtin; rw [← HW2b.out]; refine wpList_append_own_at _ rfl _ _ 129 rfl (w.heap.size + 1) 20 i0 .nilIface 1 16 Tryz.underlying129 hi hz0 hz1 hz2 rfl (by decide) _ _ _ rfl HO2b.out ⟨w2a.heap.size, 0, none⟩ 1 1 [.iface 9 (.string s)] rfl rfl HN2.out (by intro u hu; rw [List.mem_singleton.1 hu]; rfl) (by unfold maxLen; omega) (by omega) (by omega) ?_)
  intro v2 w2c hown hgr _ _
  have HB2c : Hid (Below (w.heap.size + 1) w2b w2c) := grown_below (Below.refl _ _) HO2b.out (by omega) hgr
  have HB2d : Hid (Below w.heap.size w w2c) := HB2b.out.trans (HB2c.out.mono (by omega))
  have HO2c := Lib.hid hown
  have hsz2c : w.heap.size + 3 ≤ w2c.heap.size := by have := HB2c.out.size; omega
  clear hown hgr
  go_wp2_with (fail)
  clear c4 c5 c6 c7
  rw [rounds_succ]
  obtain ⟨b, cp, rfl, hb1, hb2, hb3, hb4⟩ : ∃ b cp, v2 = .slice (some ⟨b, 0, none⟩) 2 cp ∧ w.heap.size ≤ b ∧ b < w2c.heap.size ∧ 2 ≤ cp ∧ cp ≤ maxLen := by
    rcases HO2c.out.2 with ⟨_, h0⟩ | ⟨b, cap, cur, rfl, h1, h2, h3, h4, _⟩
    · cases h0
    · refine ⟨b, cap, rfl, by omega, ?_, h3, h4⟩
      rcases Nat.lt_or_ge b w2c.heap.size with h | h
      · exact h
      · rw [Array.getElem?_eq_none h] at h2; cases h2
  have HR : Hid (w2c.cell? ⟨b, 0, none⟩ = some .nilIface ∧ w2c.cell? ⟨b, 1, none⟩ = some (.iface 9 (.string s))) := ⟨HO2c.out.cells (g := b) rfl 0 _ rfl, HO2c.out.cells (g := b) rfl 1 _ rfl⟩
  go_wp2_with (fail)
  go_ret2
  exact ⟨b, cp, rfl, HB2d.out, hb3, hb4, hb1, hb2, HR.out⟩
def canT (s : ByteArray) : List UInt8 := 91 :: joinC [[110, 117, 108, 108], encStr s.data.toList] ++ [93]
set_option maxRecDepth 100000 in
set_option maxHeartbeats 8000000 in
theorem canon_list2 (s : ByteArray) (g : Nat) (w : World) (hs : s.size ≤ 65536) (hg : w.heap[g]? = some (.cells #[.string ⟨#[110, 117, 108, 108]⟩, .string ⟨#[]⟩, .slice none 0 0, .slice none 0 0, .string ⟨#[115, 116, 114, 105, 110, 103]⟩, .string s, .slice none 0 0, .slice none 0 0] 25 (0, 0))) :
    Calls Tryz.prog 14 #[.agg #[.string ⟨#[108, 105, 115, 116]⟩, .string ⟨#[]⟩, .slice none 0 0, .slice (some ⟨g, 0, none⟩) 2 2]] w fun e w' => ∃ v, e = .returned (.tuple #[v, .bool true]) ∧ BSrc w' v (canT s) ∧ Below w.heap.size w w' := by
  have hgl : g < w.heap.size := by
    rcases Nat.lt_or_ge g w.heap.size with h | h
    · exact h
    · rw [Array.getElem?_eq_none h] at hg; cases hg
  obtain ⟨W, hW⟩ : ∃ W, W = w.alloc (.cells #[.string ⟨#[108, 105, 115, 116]⟩, .string ⟨#[]⟩, .slice none 0 0, .slice (some ⟨g, 0, none⟩) 2 2] 25) := ⟨_, rfl⟩
  have HB : Hid (Below w.heap.size w W) := by show Below _ _ _; rw [hW]; exact (Below.refl _ _).alloc (Nat.le_refl _) _
  have HG : Hid (W.heap[g]? = some (.cells #[.string ⟨#[110, 117, 108, 108]⟩, .string ⟨#[]⟩, .slice none 0 0, .slice none 0 0, .string ⟨#[115, 116, 114, 105, 110, 103]⟩, .string s, .slice none 0 0, .slice none 0 0] 25 (0, 0))) := (HB.out.block g hgl).trans hg
  have HW := Lib.hid hW
  have HS := Lib.hid hs
  clear hW hg hs
  go_enter Tryz.func14, Tryz.ntmps14
  go_wp2_with (fail)
  rw [← HW.out]
  clear HW
  refine (value_list2 s g W HG.out).mono ?_
  rintro e w1 ⟨b, cp, rfl, hb, h1, h2, h3, h4, h5, h6⟩
  have HB1 := Lib.hid (HB.out.trans (hb.mono HB.out.size))
  have HCV : Hid (CV (fun k => k = b) w1 (.iface 129 (.slice (some ⟨b, 0, none⟩) 2 cp)) (canT s)) := by
    refine CV.list b 2 cp [(.nilIface, [110, 117, 108, 108]), (.iface 9 (.string s), encStr s.data.toList)] rfl h4 rfl h1 h2 ?_ ?_
    · intro x hx
      simp only [List.mem_cons, List.not_mem_nil, or_false] at hx
      rcases hx with rfl | rfl
      · exact .null
      · exact .str s (by have := HS.out; omega)
    · intro j x hj
      match j, hj with
      | 0, hj => cases hj; exact h5
      | 1, hj => cases hj; exact h6
      | j + 2, hj => cases hj
  have HL : Hid ((canT s).length ≤ 4294967296) := by
    show _ ≤ _
    have h1 := rep_le2 92 92 92 s.data.toList
    have h2 := rep_le2 34 92 34 (repB 92 [92, 92] s.data.toList)
    have h3 : s.data.toList.length = s.size := (Lib.size_eq s).symm
    have := HS.out
    simp only [canT, joinC, encStr, List.flatMap_cons, List.flatMap_nil, List.length_append, List.length_cons, List.length_nil]
    omega
  clear hb h1 h2 h5 h6
  go_wp2_with (fail)
  refine (encodeCanonical_any HCV.out (fun i hi => by have : i = b := hi; omega) HL.out).mono ?_
  rintro e w2 ⟨v, rfl, hv, hb⟩
  have HV := Lib.hid hv
  have HB2 := Lib.hid (HB1.out.trans (hb.mono HB1.out.size))
  clear hv hb
  go_wp2_with (fail)
  go_quiet (fail)
  go_wp2_with (fail)
  go_ret2
  exact ⟨v, rfl, HV.out, ⟨HB2.out.os, HB2.out.tape, HB2.out.output, HB2.out.size, HB2.out.block⟩⟩
/-- A slice of bytes of the call's own (blocks from B on), that reads as l. -/
def OwnB (w : World) (B : Nat) (v : Value) (l : List UInt8) : Prop := w.ownsRow B 5 1 v l.length (Lib.byteCells l)
theorem OwnB.src {w : World} {B : Nat} {v : Value} {l : List UInt8} (h : OwnB w B v l) : BSrc w v l := .of_row h
theorem OwnB.new (w : World) (c : UInt8) : OwnB (w.alloc (.cells #[.int .u8 c.toNat] 5)) w.heap.size (.slice (some ⟨w.heap.size, 0, none⟩) 1 1) [c] :=
  ⟨rfl, .inr ⟨w.heap.size, 1, #[.int .u8 c.toNat], rfl, Nat.le_refl _, alloc_at w _, Nat.le_refl _, by decide, rfl, rfl⟩⟩
theorem OwnB.nil (w : World) (B : Nat) : OwnB w B (.slice none 0 0) [] := ⟨rfl, .inl ⟨rfl, rfl⟩⟩
theorem OwnB.stay {w w' : World} {B : Nat} {v : Value} {l : List UInt8} (h : OwnB w B v l) (hb : Below w.heap.size w w') : OwnB w' B v l := own_below h hb
theorem cell_new1 (w : World) (c : Int) : ∀ (j : Nat) (u : Value), [Value.int .u8 c][j]? = some u → (w.alloc (.cells #[.int .u8 c] 5)).cell? ((⟨w.heap.size, 0, none⟩ : Addr).add j) = some u := by
  intro j u hu
  match j, hu with
  | 0, hu =>
    cases hu
    rw [addrAdd, World.cell?, alloc_at]
    rfl
  | j + 1, hu => cases hu
set_option maxRecDepth 100000 in
/-- append(out, c). -/
theorem wpList_app1 {ops : Array Oper} {rest : List Oper} {o : Oper} {a : Act} {Q : Exit → Act → World → Prop} (hgd : o.guard = none) (x y : Operand)
    (ho : o.op = .call { callee := .builtin .append, args := #[x, y], argTypes := #[31, 31] }) (B : Nat) (w : World) (l : List UInt8) (c : Int) (d : UInt8) (hd : c = d.toNat) {v : Value} (hO : OwnB w B v l) (hB : B ≤ w.heap.size) (hl : l.length + 1 ≤ 140737488355328)
    (hx : a.eval x = v) (hy : a.eval y = .slice (some ⟨w.heap.size, 0, none⟩) 1 1)
    (h : ∀ v' w', OwnB w' B v' (l ++ [d]) → Below B w w' → wpList Tryz.prog ops Q rest (a.put o.dst v') w') :
    wpList Tryz.prog ops Q (o :: rest) a (w.alloc (.cells #[.int .u8 c] 5)) := by
  obtain ⟨i0, hi, hz0, hz1, hz2⟩ := info_parts info_u8
  refine wpList_append_own_at _ hgd x y 31 ho B 5 i0 (.int .u8 0) 1 1 Tryz.underlying31 hi hz0 hz1 hz2 rfl (by decide) v l.length (Lib.byteCells l) hx (ownsRow_alloc hO _) ⟨w.heap.size, 0, none⟩ 1 1 [.int .u8 c] hy rfl (cell_new1 w c) (by intro u hu; rw [List.mem_singleton.1 hu]; rfl) (by unfold maxLen; omega) (by omega) (by rw [World.size_alloc]; omega) ?_
  intro v' w4 hown hgr _ _
  refine h v' w4 ?_ (grown_below ((Below.refl _ _).alloc hB _) (ownsRow_alloc hO _) (by rw [World.size_alloc]; omega) hgr)
  have e1 : Lib.byteCells (l ++ [d]) = Lib.byteCells l ++ [.int .u8 c] := by rw [byteCells_append, hd]; rfl
  unfold OwnB
  rw [e1, List.length_append]
  exact hown
theorem take_snoc' (s : ByteArray) (k : Nat) (h : k < s.size) : s.data.toList.take (k + 1) = s.data.toList.take k ++ [s[k]] := by
  rw [List.take_succ_eq_append_getElem (by simpa using h)]; rfl
end Go.Proofs.YtjganhmbjffjfaaGreatDoor
