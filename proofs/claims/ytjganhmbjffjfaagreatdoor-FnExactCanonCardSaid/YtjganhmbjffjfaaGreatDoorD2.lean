/- dsse.PAE, impl.PAE. A slice of bytes that reads as a list; strconv.Itoa; impl.PAE. -/
import Derived.Test.YtjganhmbjffjfaaGreatDoorW4
import Derived.Test.YtjganhmbjffjfaaGreatDoorShelf
import Derived.Lib.ItoaLen
import Derived.Lib.AppendIntMem
import Derived.Laws.AppendOwnNone
import Derived.Laws.IdiomStrings
import Derived.Lib.BufferRead
open Go Go.RowKit
namespace Go.Proofs.YtjganhmbjffjfaaGreatDoor
/-- The encoding that is signed. -/
def paeB (kind body : List UInt8) : List UInt8 := [68, 83, 83, 69, 118, 49, 32] ++ Lib.itoa kind.length ++ [32] ++ kind ++ [32] ++ Lib.itoa body.length ++ [32] ++ body
def ItoaAt (n : Nat) : Prop := ∀ w : World, (∃ N, TL N w) → Calls Tryz.prog 77 #[.int .i64 n] w fun e w' => e = .returned (.string ⟨(Lib.itoa n).toArray⟩) ∧ Below w.heap.size w w'
theorem wWrite {B b : Nat} {l m : List UInt8} {w : World} {a cp : Nat} (h : WB B b l w) (ha : a < B) (hm : ∀ (i : Nat) (x : UInt8), m[i]? = some x → w.cell? ⟨a, i, none⟩ = some (.int .u8 x.toNat)) (hl : l.length + m.length ≤ 140737488355328) :
    Calls Tryz.prog 91 #[.pointer (some ⟨b, 0, none⟩), .slice (some ⟨a, 0, none⟩) m.length cp] w fun e w' => e = .returned (.tuple #[.int .i64 m.length, .nilIface]) ∧ WF B b w w' ∧ WB B b (l ++ m) w' := by
  refine (Tryz.Buffer_Write_k B b _ (Lib.byteCells m) ⟨a, 0, none⟩ m.length cp w h.1 h.2 (byte_one l) (byteCells_length m) ha (fun j v hv => ?_) (byte_one m) (by rw [byteCells_length]; exact hl)).mono ?_
  · rw [addrAdd, Nat.zero_add]
    rw [Lib.byteCells, List.getElem?_map] at hv
    cases e : m[j]? with
    | none => rw [e] at hv; cases hv
    | some y => rw [e] at hv; cases hv; exact hm j y e
  · rintro e w' ⟨rfl, h1, h2, h3⟩
    exact ⟨rfl, ⟨h2, h3⟩, by rw [byteCells_append]; exact h1, Nat.le_trans h.2 h2.size⟩
def BytesPost (t : List UInt8) (w : World) (e : Ending) (w' : World) : Prop := ∃ v B, e = .returned v ∧ w.heap.size ≤ B ∧ w'.ownsRow B 5 1 v t.length (Lib.byteCells t) ∧ Below w.heap.size w w'
set_option maxRecDepth 100000 in
set_option maxHeartbeats 4000000 in
theorem dssePAE_any (kind : ByteArray) {body : List UInt8} {a cp N : Nat} {w : World} (hdat : ∀ (i : Nat) (x : UInt8), body[i]? = some x → w.cell? ⟨a, i, none⟩ = some (.int .u8 x.toNat)) (ha : a < w.heap.size) (hk : kind.size ≤ 1073741824) (hb : body.length ≤ 1073741824) (_hcp : body.length ≤ cp ∧ cp ≤ 9223372036854775807)
    (hN : TL N w) (hI1 : ItoaAt kind.size) (hI2 : ItoaAt body.length) (hil : ∀ n : Nat, n ≤ 1073741824 → (Lib.itoa n).length ≤ 40) :
    Calls Tryz.prog 61 #[.string kind, .slice (some ⟨a, 0, none⟩) body.length cp] w (BytesPost (paeB kind.data.toList body) w) := by
  have HDAT := Lib.hid hdat
  have HN := Lib.hid hN
  have HI1 := Lib.hid hI1
  have HI2 := Lib.hid hI2
  have hl1 := hil _ hk
  have hl2 := hil _ hb
  have HIL := Lib.hid (And.intro hl1 hl2)
  have HKL : Hid (kind.data.toList.length = kind.size) := (Lib.size_eq kind).symm
  obtain ⟨i1, hi1⟩ : ∃ i1 : List UInt8, i1 = Lib.itoa kind.size := ⟨_, rfl⟩
  obtain ⟨i2, hi2⟩ : ∃ i2 : List UInt8, i2 = Lib.itoa body.length := ⟨_, rfl⟩
  have HJ1 : Hid (∀ w : World, (∃ N, TL N w) → Calls Tryz.prog 77 #[.int .i64 kind.size] w fun e w' => e = .returned (.string ⟨i1.toArray⟩) ∧ Below w.heap.size w w') := by rw [hi1]; exact hI1
  have HJ2 : Hid (∀ w : World, (∃ N, TL N w) → Calls Tryz.prog 77 #[.int .i64 body.length] w fun e w' => e = .returned (.string ⟨i2.toArray⟩) ∧ Below w.heap.size w w') := by rw [hi2]; exact hI2
  have HRES : Hid (paeB kind.data.toList body = [68, 83, 83, 69, 118, 49, 32] ++ i1 ++ [32] ++ kind.data.toList ++ [32] ++ i2 ++ [32] ++ body) := by show _ = _; rw [paeB, hi1, hi2, HKL.out]
  have hi1l : i1.length ≤ 40 := by rw [hi1]; exact hl1
  have hi2l : i2.length ≤ 40 := by rw [hi2]; exact hl2
  clear hdat hN hI1 hI2 hil hi1 hi2 hl1 hl2
  go_enter Tryz.func61, Tryz.ntmps61
  go_wp2_with (fail)
  have HG : Hid (∃ n : Nat, (27 + (kind.size : Int) + 1 + 19 + 1 + (body.length : Int)) = (n : Int) ∧ 1 ≤ n ∧ n ≤ 4294967296) := ⟨27 + kind.size + 1 + 19 + 1 + body.length, by omega, by omega, by omega⟩
  obtain ⟨gn, hgn, hg1, hg2⟩ := HG.out
  rw [hgn]
  clear hgn HG
  refine (grow_any w.heap.size w.heap.size gn _ (Nat.le_refl _) (by rw [World.size_alloc]; exact Nat.le_succ _) (alloc_at _ _) hg1 hg2).mono ?_
  rintro e w1 ⟨rfl, hF, hW⟩
  have HB1 : Hid (Below w.heap.size w w1) := ((Below.refl _ _).alloc (Nat.le_refl _) _).trans hF.1
  have HW1 := Lib.hid hW
  clear hF hW
  go_wp2_with (fail)
  refine (wString ⟨#[68, 83, 83, 69, 118, 49, 32]⟩ HW1.out (by simp only [List.length_cons, List.length_nil, ByteArray.size, List.size_toArray]; have := HKL.out; omega)).mono ?_
  rintro e w2 ⟨rfl, hF, hW⟩
  have HB2 : Hid (Below w.heap.size w w2) := HB1.out.trans hF.1
  have HW2 := Lib.hid hW
  clear hF hW HB1 HW1
  go_wp2_with (fail)
  refine (HJ1.out w2 ⟨N, HN.out.mono HN.out.le HB2.out⟩).mono ?_
  rintro e w3 ⟨rfl, hF⟩
  have HB3 : Hid (Below w.heap.size w w3) := HB2.out.trans (hF.mono HB2.out.size)
  have HW3 := Lib.hid (HW2.out.old hF)
  clear hF HB2 HW2
  go_wp2_with (fail)
  refine (wString ⟨i1.toArray⟩ HW3.out (by simp only [List.length_append, List.length_cons, List.length_nil, ByteArray.size, List.size_toArray]; have := HKL.out; omega)).mono ?_
  rintro e w4 ⟨rfl, hF, hW⟩
  have HB4 : Hid (Below w.heap.size w w4) := HB3.out.trans hF.1
  have HW4 := Lib.hid hW
  clear hF hW HB3 HW3
  go_wp2_with (fail)
  refine (wByte 32 HW4.out (by simp only [List.length_append, List.length_cons, List.length_nil]; have := HKL.out; omega)).mono ?_
  rintro e w5 ⟨rfl, hF, hW⟩
  have HB5 : Hid (Below w.heap.size w w5) := HB4.out.trans hF.1
  have HW5 := Lib.hid hW
  clear hF hW HB4 HW4
  go_wp2_with (fail)
  refine (wString kind HW5.out (by simp only [List.length_append, List.length_cons, List.length_nil]; have := HKL.out; omega)).mono ?_
  rintro e w6 ⟨rfl, hF, hW⟩
  have HB6 : Hid (Below w.heap.size w w6) := HB5.out.trans hF.1
  have HW6 := Lib.hid hW
  clear hF hW HB5 HW5
  go_wp2_with (fail)
  refine (wByte 32 HW6.out (by simp only [List.length_append, List.length_cons, List.length_nil]; have := HKL.out; omega)).mono ?_
  rintro e w7 ⟨rfl, hF, hW⟩
  have HB7 : Hid (Below w.heap.size w w7) := HB6.out.trans hF.1
  have HW7 := Lib.hid hW
  clear hF hW HB6 HW6
  go_wp2_with (fail)
  refine (HJ2.out w7 ⟨N, HN.out.mono HN.out.le HB7.out⟩).mono ?_
  rintro e w8 ⟨rfl, hF⟩
  have HB8 : Hid (Below w.heap.size w w8) := HB7.out.trans (hF.mono HB7.out.size)
  have HW8 := Lib.hid (HW7.out.old hF)
  clear hF HB7 HW7
  go_wp2_with (fail)
  refine (wString ⟨i2.toArray⟩ HW8.out (by simp only [List.length_append, List.length_cons, List.length_nil, ByteArray.size, List.size_toArray]; have := HKL.out; omega)).mono ?_
  rintro e w9 ⟨rfl, hF, hW⟩
  have HB9 : Hid (Below w.heap.size w w9) := HB8.out.trans hF.1
  have HW9 := Lib.hid hW
  clear hF hW HB8 HW8
  go_wp2_with (fail)
  refine (wByte 32 HW9.out (by simp only [List.length_append, List.length_cons, List.length_nil]; have := HKL.out; omega)).mono ?_
  rintro e w10 ⟨rfl, hF, hW⟩
  have HB10 : Hid (Below w.heap.size w w10) := HB9.out.trans hF.1
  have HW10 := Lib.hid hW
  clear hF hW HB9 HW9
  go_wp2_with (fail)
  refine (wWrite HW10.out ha (fun i x hx => by rw [HB10.out.cell (p := ⟨a, i, none⟩) ha]; exact HDAT.out i x hx) (by simp only [List.length_append, List.length_cons, List.length_nil]; have := HKL.out; omega)).mono ?_
  rintro e w11 ⟨rfl, hF, hW⟩
  have HB11 : Hid (Below w.heap.size w w11) := HB10.out.trans hF.1
  have HW11 := Lib.hid hW
  clear hF hW HB10 HW10
  have HWX : Hid (WB w.heap.size w.heap.size (paeB kind.data.toList body) w11) := by show WB _ _ _ _; rw [HRES.out]; exact HW11.out
  clear HRES HW11
  go_wp2_with (fail)
  refine (Tryz.Buffer_Bytes w.heap.size w.heap.size _ w11 HWX.out.1).mono ?_
  rintro e w99 ⟨v, rfl, hown, q, rfl⟩
  rw [byteCells_length] at hown
  have HOWN := Lib.hid hown
  obtain ⟨aa, cc, rfl, _⟩ := ownsRow.slice hown
  clear hown
  go_wp2
  go_ret
  show BytesPost (paeB kind.data.toList body) w (.returned (.slice aa (paeB kind.data.toList body).length cc)) _
  exact ⟨_, w.heap.size, rfl, Nat.le_refl _, HOWN.out, belowN HB11.out _⟩
/-- A value that reads as the bytes l. -/
def BSrc (w : World) (v : Value) (l : List UInt8) : Prop :=
  (v = .slice none 0 0 ∧ l = []) ∨ ∃ ad cp, v = .slice (some ad) l.length cp ∧ l.length ≤ maxLen ∧ ∀ (j : Nat) (x : UInt8), l[j]? = some x → w.cell? (ad.add j) = some (.int .u8 x.toNat)
theorem cell_lt {w : World} {p : Addr} {u : Value} (h : w.cell? p = some u) : p.block < w.heap.size := by
  rcases Nat.lt_or_ge p.block w.heap.size with hl | hl
  · exact hl
  · unfold World.cell? at h
    rw [Array.getElem?_eq_none hl] at h
    cases h
theorem BSrc.stay {w w' : World} {v : Value} {l : List UInt8} (hs : BSrc w v l) (hb : Below w.heap.size w w') : BSrc w' v l := by
  rcases hs with h | ⟨ad, cp, rfl, h1, h3⟩
  · exact .inl h
  · exact .inr ⟨ad, cp, rfl, h1, fun j x hj => (hb.cell (p := ad.add j) (cell_lt (h3 j x hj))).trans (h3 j x hj)⟩
theorem BSrc.of_row {w : World} {B : Nat} {v : Value} {l : List UInt8} (h : w.ownsRow B 5 1 v l.length (Lib.byteCells l)) : BSrc w v l := by
  rcases h.2 with ⟨rfl, h0⟩ | ⟨g, cap, cur, rfl, _, hg, h3, h4, _⟩
  · refine .inl ⟨rfl, ?_⟩
    cases l with
    | nil => rfl
    | cons x l => cases h0
  · refine .inr ⟨⟨g, 0, none⟩, cap, rfl, Nat.le_trans h3 h4, fun j x hj => ?_⟩
    exact h.cells (g := g) rfl j _ (by rw [Lib.byteCells, List.getElem?_map, hj]; rfl)
theorem BSrc.conv {w : World} {v : Value} {l : List UInt8} (h : BSrc w v l) : (convert 31 9 v).run Tryz.prog w = .ok (.string ⟨l.toArray⟩) w := by
  rcases h with ⟨rfl, rfl⟩ | ⟨ad, cp, rfl, _, h3⟩
  · exact Lib.run_convert_nil_bytes w _ _ 5 0 Tryz.underlying31 Tryz.underlying5 Tryz.underlying9
  · exact run_convert_bytes_back w _ _ 5 ad cp l Tryz.underlying31 Tryz.underlying5 Tryz.underlying9 fun j hj => h3 j _ (List.getElem?_eq_getElem hj)
theorem BSrc.len {w : World} {v : Value} {l : List UInt8} (h : BSrc w v l) : l.length ≤ maxLen := by
  rcases h with ⟨_, rfl⟩ | ⟨ad, cp, _, h1, _⟩
  · exact Nat.zero_le _
  · exact h1
theorem BytesPost.src {t : List UInt8} {w w' : World} {e : Ending} (h : BytesPost t w e w') : ∃ v, e = .returned v ∧ BSrc w' v t ∧ Below w.heap.size w w' := by
  obtain ⟨v, B, rfl, _, ho, hb⟩ := h
  exact ⟨v, rfl, .of_row ho, hb⟩
theorem itoa_at (n : Nat) (hn : n ≤ 1073741824) : ItoaAt n := by
  rintro w ⟨N, hN⟩
  refine (Tryz.strconv_Itoa n (by omega) (by omega) w hN.tab).mono ?_
  rintro e w' ⟨rfl, k, os, rfl⟩
  exact ⟨rfl, Go.Lib.below_grow _ _ (Nat.le_refl _) _ _⟩
theorem itoa_short (n : Nat) (hn : n ≤ 1073741824) : (Lib.itoa n).length ≤ 40 := Nat.le_trans (Lib.itoa_length_le n (by omega) (by omega)) (by decide)
set_option maxRecDepth 100000 in
set_option maxHeartbeats 4000000 in
theorem implPAE_any (kind : ByteArray) {body : List UInt8} {v : Value} {N : Nat} {w : World} (hv : BSrc w v body) (hk : kind.size ≤ 1073741824) (hb : body.length ≤ 1073741824) (hN : TL N w) :
    Calls Tryz.prog 33 #[.string kind, v] w (BytesPost (paeB kind.data.toList body) w) := by
  obtain ⟨i0, hi, hz0, hz1, hz2⟩ := info_parts info_u8
  have HN := Lib.hid hN
  have HOWN : Hid ((w.alloc (.cells #[] 5)).ownsRow w.heap.size 5 1 (.slice (some ⟨w.heap.size, 0, none⟩) 0 0) 0 []) :=
    ⟨rfl, .inr ⟨w.heap.size, 0, #[], rfl, Nat.le_refl _, alloc_at w _, Nat.le_refl _, by decide, rfl, rfl⟩⟩
  have HB1 : Hid (Below w.heap.size w (w.alloc (.cells #[] 5))) := (Below.refl _ _).alloc (Nat.le_refl _) _
  have hs1 : (w.alloc (.cells #[] 5)).heap.size = w.heap.size + 1 := World.size_alloc _ _
  obtain ⟨W, hW⟩ : ∃ W, W = w.alloc (.cells #[] 5) := ⟨_, rfl⟩
  rw [← hW] at HOWN HB1 hs1
  have HW := Lib.hid hW
  clear hN hW
  rcases hv with ⟨rfl, rfl⟩ | ⟨ad, cp, rfl, hc2, hcell⟩
  · go_enter Tryz.func33, Tryz.ntmps33
    go_wp2_with (at_builtin; rw [← HW.out]; refine wpList_append_own_none rfl _ _ 31 rfl w.heap.size 5 i0 1 Tryz.underlying31 hi (.slice (some ⟨w.heap.size, 0, none⟩) 0 0) 0 [] rfl HOWN.out rfl ?_)
    go_wp2_with (fail)
    refine (dssePAE_any kind (body := []) (a := w.heap.size) (cp := 0) (N := N) (w := W) (fun i x hx => by cases hx) (by omega) hk hb ⟨Nat.le_refl _, by decide⟩ (HN.out.mono HN.out.le HB1.out) (itoa_at _ hk) (itoa_at _ hb) itoa_short).mono ?_
    rintro e w2 ⟨v, B, rfl, hB, ho, hbl⟩
    have HP : Hid (BytesPost (paeB kind.data.toList []) w (.returned v) w2) := ⟨v, B, rfl, by omega, ho, HB1.out.trans (hbl.mono (by omega))⟩
    clear ho hbl
    go_wp2_with (fail)
    go_ret
    exact HP.out
  · have HNEW : Hid (∀ (j : Nat) (u : Value), (Lib.byteCells body)[j]? = some u → W.cell? (ad.add j) = some u) := by
      intro j u hu
      rw [Lib.byteCells, List.getElem?_map] at hu
      cases e : body[j]? with
      | none => rw [e] at hu; cases hu
      | some y =>
        rw [e] at hu
        cases hu
        exact (HB1.out.cell (p := ad.add j) (cell_lt (hcell j y e))).trans (hcell j y e)
    clear hcell
    go_enter Tryz.func33, Tryz.ntmps33
    go_wp2_with (at_builtin; rw [← HW.out]; refine wpList_append_own_at _ rfl _ _ 31 rfl w.heap.size 5 i0 (.int .u8 0) 1 1 Tryz.underlying31 hi hz0 hz1 hz2 rfl (by decide) _ _ _ rfl HOWN.out ad body.length cp (Lib.byteCells body) rfl (by rw [byteCells_length, Nat.mul_one]) HNEW.out (byte_one body) (by unfold maxLen; omega) (by omega) (by omega) ?_)
    intro v' w4 hown hgr hnil hat
    obtain ⟨g, cap, cur, rfl, hg1, hg2, hg3, hg4⟩ : ∃ g cap cur, v' = .slice (some ⟨g, 0, none⟩) body.length cap ∧ w.heap.size ≤ g ∧ w4.heap[g]? = some (.cells cur 5 (0, 0)) ∧ body.length ≤ cap ∧ cap ≤ maxLen := by
      rcases hown.2 with ⟨rfl, _⟩ | ⟨g, cap, cur, rfl, h1, h2, h3, h4, _⟩
      · exact absurd rfl hnil
      · exact ⟨g, cap, cur, rfl, h1, h2, h3, h4⟩
    have hB4 : Below w.heap.size W w4 := ⟨hgr.os, hgr.tape, hgr.output, hgr.size, fun k hk => hgr.block k (by rw [hs1]; omega) (fun e => by simp [Value.ownBlock] at e; omega)⟩
    have HBW := Lib.hid (HB1.out.trans hB4)
    have hgl : g < w4.heap.size := by
      rcases Nat.lt_or_ge g w4.heap.size with h | h
      · exact h
      · rw [Array.getElem?_eq_none h] at hg2; cases hg2
    have hs4 : w.heap.size + 1 ≤ w4.heap.size := by have := hgr.size; omega
    have HD4 : Hid (∀ (i : Nat) (x : UInt8), body[i]? = some x → w4.cell? ⟨g, i, none⟩ = some (.int .u8 x.toNat)) := by
      intro i x hx
      have := hown.cells (g := g) rfl i (.int .u8 x.toNat) (by rw [Lib.byteCells, List.getElem?_map, hx]; rfl)
      rw [addrAdd, Nat.zero_add] at this
      exact this
    unfold maxLen at hg4
    clear hown hgr hnil hat hg2 hB4 HNEW HOWN HW
    go_wp2_with (fail)
    refine (dssePAE_any kind (a := g) (cp := cap) (N := N) (w := w4) HD4.out hgl hk hb ⟨hg3, hg4⟩ (HN.out.mono HN.out.le HBW.out) (itoa_at _ hk) (itoa_at _ hb) itoa_short).mono ?_
    rintro e w2 ⟨v, B, rfl, hB, ho, hbl⟩
    have HP : Hid (BytesPost (paeB kind.data.toList body) w (.returned v) w2) := ⟨v, B, rfl, by omega, ho, HBW.out.trans (hbl.mono (by omega))⟩
    clear ho hbl
    go_wp2_with (fail)
    go_ret
    exact HP.out
end Go.Proofs.YtjganhmbjffjfaaGreatDoor
