/- cjson.zzIndex at one byte; zzReplaceAll at one byte. cjson.zzReplaceAll at one byte; encodeCanonicalString. cjson.encodeCanonical at null, at a string, at a list of two such. -/
import Derived.Test.YtngifhngangpeaaGreatDoorD2
import Derived.LoopN
import Derived.Lib.AppendStr
import Derived.Test.YtngifhngangpeaaGreatDoorB1
open Go Go.RowKit
namespace Go.Proofs.YtngifhngangpeaaGreatDoor
def idxB (c : UInt8) : List UInt8 → Option Nat
  | [] => none
  | x :: l => if x = c then some 0 else (idxB c l).map (· + 1)
def idxV (o : Option Nat) : Value := match o with
  | some i => .int .i64 i
  | none => .int .i64 (-1)
theorem drop_get {α : Type} {l : List α} {k : Nat} {x : α} (h : l[k]? = some x) : l.drop k = x :: l.drop (k + 1) := by
  obtain ⟨hk, rfl⟩ := List.getElem?_eq_some_iff.1 h
  exact List.drop_eq_getElem_cons hk
theorem ext_list (s : ByteArray) (i j : Nat) : (s.extract i j).toList = (s.data.toList.drop i).take (j - i) := by
  rw [ByteArray.toList_eq, ByteArray.data_extract, Array.toList_extract]
theorem ext1 (s : ByteArray) (k : Nat) (x : UInt8) (h : s.data.toList[k]? = some x) : (s.extract k (k + 1)).toList = [x] := by
  rw [ext_list, drop_get h, show k + 1 - k = 1 by omega]
  rfl
set_option maxRecDepth 100000 in
set_option maxHeartbeats 1000000 in
theorem zzIndex_byte (s : ByteArray) (c : UInt8) (hs : s.size ≤ 9223372036854775806) (w : World) :
    Calls Tryz.prog 106 #[.string s, .string ⟨#[c]⟩] w fun e w' => e = .returned (idxV (idxB c s.data.toList)) ∧ w' = w := by
  have hsl : s.data.toList.length = s.size := (Lib.size_eq s).symm
  go_enter Tryz.func106, Tryz.ntmps106
  go_wp2
  go_loopw [5] (fun i wr => ∃ k : Nat, k ≤ s.size ∧ i = .int .i64 k ∧ Hid (idxB c s.data.toList = (idxB c (s.data.toList.drop k)).map (· + k)) ∧ wr = w) (fun i _ => s.size - (intOf i).toNat)
  case atStart => exact ⟨0, Nat.zero_le _, rfl, by show _ = _; rw [List.drop_zero]; cases idxB c s.data.toList <;> rfl, rfl⟩
  case round =>
    obtain ⟨k, hk, rfl, HK, rfl⟩ := hrel
    by_cases hlt : k < s.size
    · have hx : s.data.toList[k]? = some (s.data.toList[k]'(by omega)) := List.getElem?_eq_getElem _
      obtain ⟨x, hxx⟩ : ∃ x, x = s.data.toList[k]'(by omega) := ⟨_, rfl⟩
      rw [← hxx] at hx
      have HE := ext1 s k x hx
      have HS : Hid (idxB c s.data.toList = (if x = c then some 0 else (idxB c (s.data.toList.drop (k + 1))).map (· + 1)).map (· + k)) := by
        show _ = _
        rw [HK.out, drop_get hx, idxB]
      clear hxx
      by_cases hxc : x = c
      · have hq : ((s.extract k (k + 1)).toList == [c]) = true := by rw [HE, hxc]; simp
        rw [if_pos hxc] at HS
        clear hx HE HK hxc
        go_wp2
        go_ret
        exact ⟨by rw [HS.out]; simp [idxV], rfl⟩
      · have hq : ((s.extract k (k + 1)).toList == [c]) = false := by rw [HE]; simp [hxc]
        rw [if_neg hxc] at HS
        clear hx HE HK hxc
        go_wp2
        go_roundw
        case rel => exact ⟨k + 1, by omega, by go_num, by show _ = _; rw [HS.out, Option.map_map]; congr 1; funext y; show y + 1 + k = y + (k + 1); omega, trivial⟩
        case measure => simp [intOf]; omega
    · have hn : ¬ ((k : Int) + 1 ≤ (s.size : Int)) := by omega
      have HN : Hid (idxB c s.data.toList = none) := by show _ = _; rw [HK.out, List.drop_of_length_le (by omega)]; rfl
      clear HK
      go_wp2
      go_ret
      exact ⟨by rw [HN.out]; rfl, rfl⟩
theorem idxB_some {c : UInt8} : ∀ {l : List UInt8} {i : Nat}, idxB c l = some i → i < l.length ∧ l.drop i = c :: l.drop (i + 1) ∧ ∀ x ∈ l.take i, x ≠ c
  | x :: l, i, h => by
    unfold idxB at h
    split at h
    · rename_i e
      cases h
      exact ⟨by simp, by simp [e], by simp⟩
    · rename_i e
      cases h2 : idxB c l with
      | none => rw [h2] at h; cases h
      | some j =>
        rw [h2] at h
        cases h
        obtain ⟨h3, h4, h5⟩ := idxB_some h2
        refine ⟨by simp; omega, by simpa using h4, ?_⟩
        intro y hy
        rw [List.take_succ_cons] at hy
        rcases List.mem_cons.1 hy with rfl | hy
        · exact e
        · exact h5 y hy
theorem idxB_none {c : UInt8} : ∀ {l : List UInt8}, idxB c l = none → ∀ x ∈ l, x ≠ c
  | [], _, _, hx => by cases hx
  | y :: l, h, x, hx => by
    unfold idxB at h
    split at h
    · cases h
    · rename_i e
      have h2 : idxB c l = none := by simpa using h
      rcases List.mem_cons.1 hx with rfl | hx
      · exact e
      · exact idxB_none h2 x hx
/-- Each c turned into new. -/
def repB (c : UInt8) (new l : List UInt8) : List UInt8 := l.flatMap fun x => if x = c then new else [x]
theorem repB_none {c : UInt8} {new : List UInt8} : ∀ {l : List UInt8}, (∀ x ∈ l, x ≠ c) → repB c new l = l
  | [], _ => rfl
  | x :: l, h => by
    have := repB_none (new := new) (l := l) fun y hy => h y (List.mem_cons_of_mem _ hy)
    unfold repB at this ⊢
    rw [List.flatMap_cons, if_neg (h x List.mem_cons_self), this]
    rfl
theorem repB_cut {c : UInt8} {new l : List UInt8} {i : Nat} (h : idxB c l = some i) : repB c new l = l.take i ++ new ++ repB c new (l.drop (i + 1)) := by
  obtain ⟨h1, h2, h3⟩ := idxB_some h
  have e : l = l.take i ++ c :: l.drop (i + 1) := by rw [← h2, List.take_append_drop]
  conv => lhs; rw [e]
  have := repB_none (new := new) h3
  unfold repB at this ⊢
  rw [List.flatMap_append, this, List.flatMap_cons, if_pos rfl, List.append_assoc]
structure RRel (c : UInt8) (new l : List UInt8) (w : World) (cur : ByteArray) (v : Value) (wr : World) : Prop where
  acc : ∃ acc : List UInt8, repB c new l = acc ++ repB c new cur.data.toList ∧ wr.ownsRow w.heap.size 5 1 v acc.length (Lib.byteCells acc)
  below : Below w.heap.size w wr
  size : cur.size ≤ l.length
theorem RRel.below' {c : UInt8} {new l : List UInt8} {w : World} {cur : ByteArray} {v : Value} {wr : World} (h : RRel c new l w cur v wr) : w.heap.size ≤ wr.heap.size := h.below.size
theorem grown_below {B : Nat} {w w' w2 : World} {v : Value} {n : Nat} {e : TypeId} {xs : List Value} (h : Below B w w') (ho : w'.ownsRow B e 1 v n xs) (hs : B ≤ w'.heap.size) (hg : w'.grownBy w2 v.ownBlock) : Below B w w2 := by
  refine h.trans ⟨hg.os, hg.tape, hg.output, hg.size, fun k hk => hg.block k (by omega) fun e => ?_⟩
  rcases ho.2 with ⟨rfl, _⟩ | ⟨g, cap, cur, rfl, hb, _⟩
  · simp [Value.ownBlock] at e
  · simp [Value.ownBlock] at e; omega
theorem strCells_eq (s : ByteArray) : Lib.strCells s = Lib.byteCells s.data.toList := rfl
theorem ext_data (s : ByteArray) (i j : Nat) : (s.extract i j).data.toList = (s.data.toList.drop i).take (j - i) := by
  rw [← ByteArray.toList_eq, ext_list]
theorem rep_long {c : UInt8} {new : List UInt8} (hn : 0 < new.length) : ∀ l : List UInt8, l.length ≤ (repB c new l).length
  | [] => Nat.zero_le _
  | x :: l => by
    have := rep_long (c := c) hn l
    unfold repB at this ⊢
    rw [List.flatMap_cons, List.length_append, List.length_cons]
    split
    · omega
    · simp only [List.length_singleton]; omega
set_option maxRecDepth 100000 in
set_option maxHeartbeats 4000000 in
theorem zzReplace_byte (s : ByteArray) (c : UInt8) (new : ByteArray) (hn : 0 < new.size) (hs : (repB c new.data.toList s.data.toList).length ≤ 140737488355328) (w : World) :
    Calls Tryz.prog 86 #[.string s, .string ⟨#[c]⟩, .string new] w fun e w' => e = .returned (.string ⟨(repB c new.data.toList s.data.toList).toArray⟩) ∧ Below w.heap.size w w' := by
  obtain ⟨i0, hi, hz0, hz1, hz2⟩ := info_parts info_u8
  have HSZ := Lib.hid hs
  have HN := Lib.hid hn
  have HNL : Hid (new.data.toList.length = new.size) := (Lib.size_eq new).symm
  have HSL : Hid (s.size ≤ 140737488355328) := by
    show _ ≤ _
    have := rep_long (c := c) (new := new.data.toList) (by rw [HNL.out]; exact hn) s.data.toList
    rw [show s.data.toList.length = s.size from (Lib.size_eq s).symm] at this
    omega
  clear hs hn
  go_enter Tryz.func86, Tryz.ntmps86
  go_wp2
  go_loopg [0, 7, 10] (s.size + 1) (fun kq v0 v7 v10 wr => ∃ cur : ByteArray, v0 = .string cur ∧ cur.size < kq ∧ RRel c new.data.toList s.data.toList w cur v7 wr)
  case atStart => exact ⟨s, rfl, Nat.lt_succ_self _, ⟨[], rfl, World.ownsRow_nil _ _ _ _⟩, Below.refl _ _, by rw [show s.data.toList.length = s.size from (Lib.size_eq s).symm]; exact Nat.le_refl _⟩
  case round =>
    obtain ⟨cur, rfl, hk, HR⟩ := hrel
    have HR := Lib.hid HR
    obtain ⟨⟨acc, hacc, hown⟩, hbel, hsz⟩ := HR.out
    have HACC := Lib.hid hacc
    have HB := Lib.hid hbel
    have HOWN := Lib.hid hown
    have hcl : cur.size ≤ 140737488355328 := by have := HSL.out; rw [show s.data.toList.length = s.size from (Lib.size_eq s).symm] at hsz; omega
    have HCL : Hid (cur.data.toList.length = cur.size) := (Lib.size_eq cur).symm
    have hbs := hbel.size
    clear hacc hbel hown hsz
    cases hix : idxB c cur.data.toList with
    | none =>
      have HRES : Hid (repB c new.data.toList s.data.toList = acc ++ cur.data.toList) := by show _ = _; rw [HACC.out, repB_none (idxB_none hix)]
      have hlen : acc.length + cur.size ≤ 140737488355328 := by have h1 := HSZ.out; rw [HRES.out, List.length_append, HCL.out] at h1; exact h1
      have HIX := Lib.hid hix
      clear hix HACC
      go_wp2_with (fail)
      refine (zzIndex_byte cur c (by omega) _).mono ?_
      rw [HIX.out]
      unfold idxV
      rintro e w' ⟨rfl, rfl⟩
      go_wp2_with (at_builtin; refine Lib.wpList_append_own_string _ rfl _ _ 22 9 rfl w.heap.size 5 i0 Tryz.underlying22 Tryz.underlying9 hi hz0 hz1 hz2 _ _ _ rfl HOWN.out cur rfl (by unfold maxLen; omega) (by omega) (by omega) ?_)
      intro v' w2 hown' hgrow _
      have HB2 : Hid (Below w.heap.size w w2) := grown_below HB.out HOWN.out hbs hgrow
      have hcv : (convert 22 9 v').run Tryz.prog w2 = .ok (.string ⟨(repB c new.data.toList s.data.toList).toArray⟩) w2 := by
        rw [HRES.out]
        refine (BSrc.of_row (B := w.heap.size) ?_).conv
        rw [byteCells_append, List.length_append, HCL.out, ← strCells_eq]
        exact hown'
      clear hown' hgrow HOWN
      go_wp2
      go_ret
      exact ⟨rfl, HB2.out⟩
    | some i => 
      obtain ⟨hi1, hi2, hi3⟩ := idxB_some hix
      have hi1' : i < cur.size := by rw [HCL.out] at hi1; exact hi1
      have HRES : Hid (repB c new.data.toList s.data.toList = (acc ++ (cur.data.toList.take i ++ new.data.toList)) ++ repB c new.data.toList (cur.data.toList.drop (i + 1))) := by
        show _ = _; rw [HACC.out, repB_cut hix]; simp only [List.append_assoc]
      have hlen : acc.length + i + new.size ≤ 140737488355328 := by
        have h1 := HSZ.out
        rw [HRES.out] at h1
        simp only [List.length_append, List.length_take, HCL.out, HNL.out] at h1
        omega
      have HIX := Lib.hid hix
      have hes : (cur.extract 0 i).size = i := by rw [ByteArray.size_extract]; omega
      have hes2 : (cur.extract (i + 1) cur.size).size = cur.size - (i + 1) := by rw [ByteArray.size_extract]; omega
      have HE1 : Hid (Lib.strCells (cur.extract 0 i) = Lib.byteCells (cur.data.toList.take i)) := by
        show _ = _; rw [strCells_eq, ext_data, List.drop_zero, Nat.sub_zero]
      have HE2 : Hid ((cur.extract (i + 1) cur.size).data.toList = cur.data.toList.drop (i + 1)) := by
        show _ = _
        rw [ext_data, List.take_of_length_le]
        rw [List.length_drop, HCL.out]; omega
      clear hix HACC hi1 hi2 hi3
      have HES := Lib.hid hes
      have HES2 := Lib.hid hes2
      clear hes hes2
      go_wp2_with (fail)
      refine (zzIndex_byte cur c (by omega) _).mono ?_
      rw [HIX.out]
      unfold idxV
      rintro e w' ⟨rfl, rfl⟩
      go_wp2_with (at_builtin; refine Lib.wpList_append_own_string _ rfl _ _ 22 9 rfl w.heap.size 5 i0 Tryz.underlying22 Tryz.underlying9 hi hz0 hz1 hz2 _ _ _ rfl HOWN.out (cur.extract 0 i) rfl (by rw [HES.out]; unfold maxLen; omega) (by rw [HES.out]; omega) (by omega) ?_)
      intro v' w2 hown' hgrow _
      have HB2 : Hid (Below w.heap.size w w2) := grown_below HB.out HOWN.out hbs hgrow
      have HOWN2 := Lib.hid hown'
      have hbs2 := HB2.out.size
      clear hown' hgrow HOWN
      go_wp2_with (at_builtin; refine Lib.wpList_append_own_string _ rfl _ _ 22 9 rfl w.heap.size 5 i0 Tryz.underlying22 Tryz.underlying9 hi hz0 hz1 hz2 _ _ _ rfl HOWN2.out new rfl (by unfold maxLen; first | omega | (rw [HES.out]; omega)) (by first | omega | (rw [HES.out]; omega)) (by omega) ?_)
      intro v3 w3 hown' hgrow _
      have HB3 : Hid (Below w.heap.size w w3) := grown_below HB2.out HOWN2.out hbs2 hgrow
      have HREL : Hid (RRel c new.data.toList s.data.toList w (cur.extract (i + 1) cur.size) v3 w3) := by
        refine ⟨⟨acc ++ (cur.data.toList.take i ++ new.data.toList), by rw [HE2.out]; exact HRES.out, ?_⟩, HB3.out, ?_⟩
        · have : (acc ++ (cur.data.toList.take i ++ new.data.toList)).length = acc.length + (cur.extract 0 i).size + new.size := by
            simp only [List.length_append, List.length_take, HCL.out, HNL.out, HES.out]; omega
          have hmin : min i cur.size = (cur.extract 0 i).size := by rw [HES.out]; omega
          rw [this, byteCells_append, byteCells_append, ← HE1.out, ← strCells_eq]
          rw [hmin] at hown'
          exact hown'
        · have h1 := HR.out.size
          rw [HES2.out]; omega
      clear hown' hgrow HOWN2
      go_wp2
      go_roundg (cur.size)
      case measure => omega
      case rel => exact ⟨cur.extract (i + 1) cur.size, rfl, by rw [HES2.out]; omega, HREL.out⟩
/-- A string as the canonical form writes it. -/
def encStr (l : List UInt8) : List UInt8 := 34 :: repB 34 [92, 34] (repB 92 [92, 92] l) ++ [34]
theorem rep_le2 (c : UInt8) (x y : UInt8) : ∀ l : List UInt8, (repB c [x, y] l).length ≤ 2 * l.length
  | [] => Nat.zero_le _
  | z :: l => by
    have := rep_le2 c x y l
    unfold repB at this ⊢
    rw [List.flatMap_cons, List.length_append, List.length_cons]
    split
    · simp only [List.length_cons, List.length_nil]; omega
    · simp only [List.length_singleton]; omega
set_option maxRecDepth 100000 in
set_option maxHeartbeats 4000000 in
theorem encStr_any (s : ByteArray) (hs : s.size ≤ 4294967296) (w : World) :
    Calls Tryz.prog 72 #[.string s] w fun e w' => e = .returned (.string ⟨(encStr s.data.toList).toArray⟩) ∧ Below w.heap.size w w' := by
  have hsl : s.data.toList.length = s.size := (Lib.size_eq s).symm
  have h1 := rep_le2 92 92 92 s.data.toList
  have h2 := rep_le2 34 92 34 (repB 92 [92, 92] s.data.toList)
  have H1 := Lib.hid h1
  have H2 := Lib.hid h2
  have HL := Lib.hid hsl
  clear hsl h1 h2
  obtain ⟨t, ht⟩ : ∃ t : ByteArray, t = ⟨(repB 92 [92, 92] s.data.toList).toArray⟩ := ⟨_, rfl⟩
  have HT : Hid (t.data.toList = repB 92 [92, 92] s.data.toList) := by rw [ht]; exact Lib.hid rfl
  obtain ⟨u, hu⟩ : ∃ u : ByteArray, u = ⟨(repB 34 [92, 34] t.data.toList).toArray⟩ := ⟨_, rfl⟩
  have HU := Lib.hid hu
  go_enter Tryz.func72, Tryz.ntmps72
  go_wp2_with (fail)
  refine (zzReplace_byte s 92 ⟨#[92, 92]⟩ (by decide) (by show (repB 92 [92, 92] s.data.toList).length ≤ _; have := H1.out; have := HL.out; omega) _).mono ?_
  rintro e w1 ⟨rfl, hb⟩
  have HB1 := Lib.hid hb
  have e1 : (⟨(repB 92 (⟨#[92, 92]⟩ : ByteArray).data.toList s.data.toList).toArray⟩ : ByteArray) = t := ht.symm
  rw [e1]
  clear hb ht hu e1
  go_wp2_with (fail)
  refine (zzReplace_byte t 34 ⟨#[92, 34]⟩ (by decide) (by show (repB 34 [92, 34] t.data.toList).length ≤ _; rw [HT.out]; have := H2.out; have := H1.out; have := HL.out; omega) _).mono ?_
  rintro e w2 ⟨rfl, hb⟩
  have HB2 := Lib.hid (HB1.out.trans (hb.mono HB1.out.size))
  have e1 : (⟨(repB 34 (⟨#[92, 34]⟩ : ByteArray).data.toList t.data.toList).toArray⟩ : ByteArray) = u := HU.out.symm
  rw [e1]
  have hul : u.size ≤ 17179869184 := by
    have h3 : u.size = (repB 34 [92, 34] t.data.toList).length := by rw [HU.out]; simp [ByteArray.size]
    rw [h3, HT.out]
    have := H2.out
    have := H1.out
    have := HL.out
    omega
  clear hb e1
  go_wp2_with (fail)
  go_ret
  refine ⟨?_, HB2.out⟩
  have he : (⟨#[34]⟩ ++ u ++ ⟨#[34]⟩ : ByteArray) = ⟨(encStr s.data.toList).toArray⟩ := by
    rw [HU.out, HT.out]
    apply ByteArray.ext
    simp [encStr, ByteArray.data_append]
  rw [← he]
  rfl
/-- What encodeCanonical writes of a value, whatever the memory. -/
def EncAt (x : Value) (t : List UInt8) : Prop := ∀ (R b : Nat) (l : List UInt8) (w : World), SB R b l w → l.length + t.length ≤ 70368744177664 →
  Calls Tryz.prog 59 #[x, .pointer (some ⟨b, 0, none⟩)] w fun e w' => e = .returned .nilIface ∧ FrR R b w w' ∧ SB R b (l ++ t) w'
theorem as_yes_s (v : Value) (w : World) : (Instr.typeAssert (.iface 9 v) 20 9 true).run Tryz.prog w = .ok (.tuple #[v, .bool true]) w := by kernel_rfl
theorem as_nil_s (w : World) : (Instr.typeAssert .nilIface 20 9 true).run Tryz.prog w = .ok (.tuple #[.string ⟨#[]⟩, .bool false]) w := by kernel_rfl
theorem as_nil_b (w : World) : (Instr.typeAssert .nilIface 20 4 true).run Tryz.prog w = .ok (.tuple #[.bool false, .bool false]) w := by kernel_rfl
theorem as_nil_n (w : World) : (Instr.typeAssert .nilIface 20 117 true).run Tryz.prog w = .ok (.tuple #[.string ⟨#[]⟩, .bool false]) w := by kernel_rfl
theorem as_l_s (v : Value) (w : World) : (Instr.typeAssert (.iface 118 v) 20 9 true).run Tryz.prog w = .ok (.tuple #[.string ⟨#[]⟩, .bool false]) w := by kernel_rfl
theorem as_l_b (v : Value) (w : World) : (Instr.typeAssert (.iface 118 v) 20 4 true).run Tryz.prog w = .ok (.tuple #[.bool false, .bool false]) w := by kernel_rfl
theorem as_l_n (v : Value) (w : World) : (Instr.typeAssert (.iface 118 v) 20 117 true).run Tryz.prog w = .ok (.tuple #[.string ⟨#[]⟩, .bool false]) w := by kernel_rfl
theorem as_l_yes (v : Value) (w : World) : (Instr.typeAssert (.iface 118 v) 20 118 true).run Tryz.prog w = .ok (.tuple #[v, .bool true]) w := by kernel_rfl
set_option maxRecDepth 100000 in
set_option maxHeartbeats 4000000 in
theorem enc_null : EncAt .nilIface [110, 117, 108, 108] := by
  intro R b l w hS hl
  have HS := Lib.hid hS
  simp only [List.length_cons, List.length_nil] at hl
  clear hS
  have a1 := as_nil_s
  have a2 := as_nil_b
  have a3 := as_nil_n
  go_enter Tryz.func59, Tryz.ntmps59
  go_wp2_with (fail)
  refine (writeString_any ⟨#[110, 117, 108, 108]⟩ HS.out (by simp only [ByteArray.size, List.size_toArray, List.length_cons, List.length_nil]; omega)).mono ?_
  rintro e w1 ⟨rfl, hf, hS⟩
  have HP := Lib.hid (And.intro hf hS)
  clear hf hS
  go_wp2_with (fail)
  go_ret
  exact ⟨rfl, HP.out⟩
set_option maxRecDepth 100000 in
set_option maxHeartbeats 4000000 in
theorem enc_str (s : ByteArray) (hs : s.size ≤ 4294967296) : EncAt (.iface 9 (.string s)) (encStr s.data.toList) := by
  intro R b l w hS hl
  have HS := Lib.hid hS
  obtain ⟨t, ht⟩ : ∃ t : ByteArray, t = ⟨(encStr s.data.toList).toArray⟩ := ⟨_, rfl⟩
  have HT : Hid (t.data.toList = encStr s.data.toList) := by rw [ht]; exact Lib.hid rfl
  have htl : t.size = (encStr s.data.toList).length := by rw [ht]; simp [ByteArray.size]
  rw [← htl] at hl
  clear hS htl
  have HTE := Lib.hid ht
  clear ht
  have a1 := as_yes_s
  go_enter Tryz.func59, Tryz.ntmps59
  go_wp2_with (fail)
  refine (encStr_any s hs _).mono ?_
  rintro e w1 ⟨rfl, hb⟩
  rw [← HTE.out]
  have HB := Lib.hid hb
  clear hb
  go_wp2_with (fail)
  refine (writeString_any t (HS.out.below HB.out) (by omega)).mono ?_
  rintro e w2 ⟨rfl, hf, hS⟩
  rw [HT.out] at hS
  have HP : Hid (FrR R b w w2 ∧ SB R b (l ++ encStr s.data.toList) w2) := ⟨((FrR.refl R b w).below (by obtain ⟨_, _, _, _, _, _, hR⟩ := HS.out; exact hR) HB.out).trans hf, hS⟩
  clear hf hS
  go_wp2_with (fail)
  go_ret
  exact ⟨rfl, HP.out⟩
end Go.Proofs.YtngifhngangpeaaGreatDoor
