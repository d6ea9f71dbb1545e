/- append of one text to a row of one's own; metadata.zzIndex, metadata.zzSplit at one sign. -/
import Derived.Test.YtpanemfpipcggaaGreatDoorF3
import Derived.Test.YtpanemfpipcggaaGreatDoorV0
import Derived.Test.YtpanemfpipcggaaGreatDoorM0
open Go Go.RowKit
namespace Go.Proofs.YtpanemfpipcggaaGreatDoor
theorem info_strS : (Tryz.prog.info? 9).map (fun i => (i.zero, i.size, i.bytes)) = some (some (.string ⟨#[]⟩), 1, 16) := by kernel_rfl
/-- A row of texts of the call's own. -/
def OwnS (w : World) (B : Nat) (v : Value) (l : List (List UInt8)) : Prop := w.ownsRow B 9 1 v l.length (l.map fun a => .string (bs a))
theorem OwnS.nil (w : World) (B : Nat) : OwnS w B (.slice none 0 0) [] := ⟨rfl, .inl ⟨rfl, rfl⟩⟩
theorem OwnS.stay {w w' : World} {B : Nat} {v : Value} {l : List (List UInt8)} (h : OwnS w B v l) (hb : Below w.heap.size w w') : OwnS w' B v l := own_below h hb
theorem OwnS.slice {w : World} {B : Nat} {v : Value} {l : List (List UInt8)} (h : OwnS w B v l) : ∃ ao cp, v = .slice ao l.length cp ∧ ∀ (j : Nat) (a : List UInt8), l[j]? = some a → ∃ ad, ao = some ad ∧ w.cell? (ad.add j) = some (.string (bs a)) := by
  rcases h.2 with ⟨rfl, h0⟩ | ⟨g, cap, cur, rfl, hb, hg, h1, h2, h3, h4⟩
  · refine ⟨none, 0, by rw [h0], fun j a hj => ?_⟩
    rw [List.length_eq_zero_iff.1 h0] at hj; cases hj
  · refine ⟨_, _, rfl, fun j a hj => ⟨_, rfl, ?_⟩⟩
    exact h.cells (g := g) rfl j _ (by rw [List.getElem?_map, hj]; rfl)
set_option maxRecDepth 100000 in
/-- append(out, s). -/
theorem wpList_appS1 {ops : Array Oper} {rest : List Oper} {o : Oper} {a : Act} {Q : Exit → Act → World → Prop} (hgd : o.guard = none) (x y : Operand)
    (ho : o.op = .call { callee := .builtin .append, args := #[x, y], argTypes := #[22, 22] }) (B : Nat) (w : World) (l : List (List UInt8)) (s : ByteArray) (t : List UInt8) (hs : s = bs t) {v : Value} (hO : OwnS w B v l) (hB : B ≤ w.heap.size) (hl : l.length + 1 ≤ 4294967300)
    (hx : a.eval x = v) (hy : a.eval y = .slice (some ⟨w.heap.size, 0, none⟩) 1 1)
    (h : ∀ v' w', OwnS w' B v' (l ++ [t]) → Below B w w' → wpList Tryz.prog ops Q rest (a.put o.dst v') w') :
    wpList Tryz.prog ops Q (o :: rest) a (w.alloc (.cells #[.string s] 9)) := by
  obtain ⟨i0, hi, hz0, hz1, hz2⟩ := info_parts info_strS
  refine wpList_append_own_at _ hgd x y 22 ho B 9 i0 (.string ⟨#[]⟩) 1 16 Tryz.underlying22 hi hz0 hz1 hz2 rfl (by decide) v l.length (l.map fun a => .string (bs a)) hx (ownsRow_alloc hO _) ⟨w.heap.size, 0, none⟩ 1 1 [.string s] hy rfl (cell_one_new w (.string s) 9) (by intro u hu; rw [List.mem_singleton.1 hu]; rfl) (by unfold maxLen; omega) (by omega) (by rw [World.size_alloc]; omega) ?_
  intro v' w4 hown hgr _ _
  refine h v' w4 ?_ (grown_below ((Below.refl _ _).alloc hB _) (ownsRow_alloc hO _) (by rw [World.size_alloc]; omega) hgr)
  unfold OwnS
  rw [List.map_append, List.length_append, List.map_singleton, ← hs]
  exact hown
set_option maxRecDepth 100000 in
set_option maxHeartbeats 1000000 in
theorem mdIndex_byte (s : ByteArray) (c : UInt8) (hs : s.size ≤ 9223372036854775806) (w : World) :
    Calls Tryz.prog 117 #[.string s, .string ⟨#[c]⟩] w fun e w' => e = .returned (idxV (idxB c s.data.toList)) ∧ w' = w := by
  have hsl : s.data.toList.length = s.size := (Lib.size_eq s).symm
  go_enter Tryz.func117, Tryz.ntmps117
  go_wp2
  go_loopw [5] (fun i wr => ∃ k : Nat, k ≤ s.size ∧ i = .int .i64 k ∧ Hid (idxB c s.data.toList = (idxB c (s.data.toList.drop k)).map (· + k)) ∧ wr = w) (fun i _ => s.size - (intOf i).toNat)
  case atStart => exact ⟨0, Nat.zero_le _, rfl, by show _ = _; rw [List.drop_zero]; cases idxB c s.data.toList <;> rfl, rfl⟩
  case round =>
    obtain ⟨k, hk, rfl, HK, rfl⟩ := hrel
    by_cases hlt : k < s.size
    · have hx : s.data.toList[k]? = some (s.data.toList[k]'(by omega)) := List.getElem?_eq_getElem _
      obtain ⟨x, hxx⟩ : ∃ x, x = s.data.toList[k]'(by omega) := ⟨_, rfl⟩
      rw [← hxx] at hx
      have HE := ext1 s k x hx
      have HS : Hid (idxB c s.data.toList = (if x = c then some 0 else (idxB c (s.data.toList.drop (k + 1))).map (· + 1)).map (· + k)) := by
        show _ = _
        rw [HK.out, drop_get hx, idxB]
      clear hxx
      by_cases hxc : x = c
      · have hq : ((s.extract k (k + 1)).toList == [c]) = true := by rw [HE, hxc]; simp
        rw [if_pos hxc] at HS
        clear hx HE HK hxc
        go_wp2
        go_ret
        exact ⟨by rw [HS.out]; simp [idxV], rfl⟩
      · have hq : ((s.extract k (k + 1)).toList == [c]) = false := by rw [HE]; simp [hxc]
        rw [if_neg hxc] at HS
        clear hx HE HK hxc
        go_wp2
        go_roundw
        case rel => exact ⟨k + 1, by omega, by go_num, by show _ = _; rw [HS.out, Option.map_map]; congr 1; funext y; show y + 1 + k = y + (k + 1); omega, trivial⟩
        case measure => simp [intOf]; omega
    · have hn : ¬ ((k : Int) + 1 ≤ (s.size : Int)) := by omega
      have HN : Hid (idxB c s.data.toList = none) := by show _ = _; rw [HK.out, List.drop_of_length_le (by omega)]; rfl
      clear HK
      go_wp2
      go_ret
      exact ⟨by rw [HN.out]; rfl, rfl⟩
/-- The head of zzSplit's loop. -/
structure SpR (l : List UInt8) (R : Nat) (w : World) (cur : ByteArray) (v : Value) (wr : World) : Prop where
  acc : ∃ acc : List (List UInt8), splitB l = acc ++ splitB cur.data.toList ∧ OwnS wr R v acc
  below : Below R w wr
  size : cur.size ≤ l.length
/-- What zzSplit leaves. -/
def SpP (l : List UInt8) (w : World) (e : Ending) (w' : World) : Prop := ∃ v, e = .returned v ∧ OwnS w' w.heap.size v (splitB l) ∧ Below w.heap.size w w'
set_option maxRecDepth 100000 in
set_option maxHeartbeats 4000000 in
theorem mdSplit_any (s : ByteArray) (hs : s.size ≤ 4294967296) (w : World) : Calls Tryz.prog 91 #[.string s, .string ⟨#[47]⟩] w (SpP s.data.toList w) := by
  have HSL : Hid (s.data.toList.length = s.size) := bs_size_eq s
  go_enter Tryz.func91, Tryz.ntmps91
  go_wp2_with (fail)
  go_loopg [0, 5, 8] (s.size + 1) (fun kq v0 v1 v2 wr => ∃ cur : ByteArray, v0 = .string cur ∧ cur.size < kq ∧ SpR s.data.toList w.heap.size w cur v1 wr)
  case atStart => exact ⟨s, rfl, Nat.lt_succ_self _, ⟨[], rfl, OwnS.nil _ _⟩, Below.refl _ _, by rw [HSL.out]; exact Nat.le_refl _⟩
  case round =>
    obtain ⟨cur, rfl, hk, HR⟩ := hrel
    obtain ⟨⟨acc, hacc, hown⟩, hbel, hsz⟩ := HR
    have HACC := Lib.hid hacc
    have HB := Lib.hid hbel
    have HOWN := Lib.hid hown
    have hcl : cur.size ≤ 4294967296 := by have := HSL.out; omega
    have hcs : cur.size ≤ s.size := by have := HSL.out; omega
    have HCL : Hid (cur.data.toList.length = cur.size) := bs_size_eq cur
    have hbs := hbel.size
    have HAL : Hid (acc.length + 1 ≤ 4294967300) := by
      show _ ≤ _
      have h1 := split_len s.data.toList
      rw [hacc, List.length_append] at h1
      have := HSL.out
      omega
    clear hacc hbel hown hsz
    cases hix : idxB 47 cur.data.toList with
    | none =>
      have HRES : Hid (splitB s.data.toList = acc ++ [cur.data.toList]) := by show _ = _; rw [HACC.out, split_none (idxB_none hix)]
      have HIX := Lib.hid hix
      clear hix HACC
      go_wp2_with (first
        | (go_at_call 117; refine (mdIndex_byte cur 47 (by omega) _).mono ?_; rw [HIX.out]; unfold idxV; rintro e w' ⟨rfl, rfl⟩)
        | (at_builtin; refine wpList_appS1 rfl _ _ rfl w.heap.size _ acc cur _ (bs_of cur).symm HOWN.out hbs HAL.out rfl rfl ?_))
      intro v' w2 hown' hgrow
      rw [← HRES.out] at hown'
      have HO := Lib.hid hown'
      have HB2 := Lib.hid (HB.out.trans hgrow)
      clear hown' hgrow
      go_wp2_with (fail)
      go_ret
      exact ⟨_, rfl, HO.out, HB2.out⟩
    | some i =>
      obtain ⟨hi1, hi2, hi3⟩ := idxB_some hix
      have hi1' : i < cur.size := by rw [HCL.out] at hi1; exact hi1
      have HRES : Hid (splitB s.data.toList = (acc ++ [cur.data.toList.take i]) ++ splitB (cur.data.toList.drop (i + 1))) := by
        show _ = _
        rw [HACC.out, List.append_assoc]
        congr 1
        conv => lhs; rw [← List.take_append_drop i cur.data.toList, hi2]
        rw [split_cut _ hi3]; rfl
      have HIX := Lib.hid hix
      have HE1 : Hid (cur.extract 0 i = bs (cur.data.toList.take i)) := bs_head cur i
      have HE2 : Hid ((cur.extract (i + 1) cur.size).data.toList = cur.data.toList.drop (i + 1)) := by show _ = _; rw [bs_tail, bs_data]
      have hes2 : (cur.extract (i + 1) cur.size).size = cur.size - (i + 1) := by rw [ByteArray.size_extract]; omega
      have HES := Lib.hid hes2
      clear hix HACC hi1 hi2 hi3 hes2
      go_wp2_with (first
        | (go_at_call 117; refine (mdIndex_byte cur 47 (by omega) _).mono ?_; rw [HIX.out]; unfold idxV; rintro e w' ⟨rfl, rfl⟩)
        | (at_builtin; refine wpList_appS1 rfl _ _ rfl w.heap.size _ acc _ _ HE1.out HOWN.out hbs HAL.out rfl rfl ?_))
      intro v' w2 hown' hgrow
      have HO := Lib.hid hown'
      have HB2 := Lib.hid (HB.out.trans hgrow)
      clear hown' hgrow
      go_wp2_with (fail)
      go_roundg (cur.size)
      case measure => omega
      case rel => exact ⟨_, rfl, by rw [HES.out]; omega, ⟨_, by rw [HRES.out, HE2.out], HO.out⟩, HB2.out, by rw [HES.out, HSL.out]; omega⟩
end Go.Proofs.YtpanemfpipcggaaGreatDoor
