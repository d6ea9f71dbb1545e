/- dsse.PAE, impl.PAE. -/
import Derived.Test.YtngifhngangpeaaGreatDoorW4
open Go Go.RowKit
namespace Go.Proofs.YtngifhngangpeaaGreatDoor
/-- The encoding that is signed. -/
def paeB (kind body : List UInt8) : List UInt8 := [68, 83, 83, 69, 118, 49, 32] ++ Lib.itoa kind.length ++ [32] ++ kind ++ [32] ++ Lib.itoa body.length ++ [32] ++ body
def ItoaAt (n : Nat) : Prop := ∀ w : World, (∃ N, TL N w) → Calls Tryz.prog 51 #[.int .i64 n] w fun e w' => e = .returned (.string ⟨(Lib.itoa n).toArray⟩) ∧ Below w.heap.size w w'
theorem wWrite {B b : Nat} {l m : List UInt8} {w : World} {a cp : Nat} (h : WB B b l w) (ha : a < B) (hm : ∀ (i : Nat) (x : UInt8), m[i]? = some x → w.cell? ⟨a, i, none⟩ = some (.int .u8 x.toNat)) (hl : l.length + m.length ≤ 140737488355328) :
    Calls Tryz.prog 55 #[.pointer (some ⟨b, 0, none⟩), .slice (some ⟨a, 0, none⟩) m.length cp] w fun e w' => e = .returned (.tuple #[.int .i64 m.length, .nilIface]) ∧ WF B b w w' ∧ WB B b (l ++ m) w' := by
  refine (Tryz.Buffer_Write_k B b _ (Lib.byteCells m) ⟨a, 0, none⟩ m.length cp w h.1 h.2 (byte_one l) (byteCells_length m) ha (fun j v hv => ?_) (byte_one m) (by rw [byteCells_length]; exact hl)).mono ?_
  · rw [addrAdd, Nat.zero_add]
    rw [Lib.byteCells, List.getElem?_map] at hv
    cases e : m[j]? with
    | none => rw [e] at hv; cases hv
    | some y => rw [e] at hv; cases hv; exact hm j y e
  · rintro e w' ⟨rfl, h1, h2, h3⟩
    exact ⟨rfl, ⟨h2, h3⟩, by rw [byteCells_append]; exact h1, Nat.le_trans h.2 h2.size⟩
def BytesPost (t : List UInt8) (w : World) (e : Ending) (w' : World) : Prop := ∃ v B, e = .returned v ∧ w.heap.size ≤ B ∧ w'.ownsRow B 5 1 v t.length (Lib.byteCells t) ∧ Below w.heap.size w w'
set_option maxRecDepth 100000 in
set_option maxHeartbeats 4000000 in
theorem dssePAE_any (kind : ByteArray) {body : List UInt8} {a cp N : Nat} {w : World} (hdat : ∀ (i : Nat) (x : UInt8), body[i]? = some x → w.cell? ⟨a, i, none⟩ = some (.int .u8 x.toNat)) (ha : a < w.heap.size) (hk : kind.size ≤ 1073741824) (hb : body.length ≤ 1073741824) (_hcp : body.length ≤ cp ∧ cp ≤ 9223372036854775807)
    (hN : TL N w) (hI1 : ItoaAt kind.size) (hI2 : ItoaAt body.length) (hil : ∀ n : Nat, n ≤ 1073741824 → (Lib.itoa n).length ≤ 40) :
    Calls Tryz.prog 38 #[.string kind, .slice (some ⟨a, 0, none⟩) body.length cp] w (BytesPost (paeB kind.data.toList body) w) := by
  have HDAT := Lib.hid hdat
  have HN := Lib.hid hN
  have HI1 := Lib.hid hI1
  have HI2 := Lib.hid hI2
  have hl1 := hil _ hk
  have hl2 := hil _ hb
  have HIL := Lib.hid (And.intro hl1 hl2)
  have HKL : Hid (kind.data.toList.length = kind.size) := (Lib.size_eq kind).symm
  obtain ⟨i1, hi1⟩ : ∃ i1 : List UInt8, i1 = Lib.itoa kind.size := ⟨_, rfl⟩
  obtain ⟨i2, hi2⟩ : ∃ i2 : List UInt8, i2 = Lib.itoa body.length := ⟨_, rfl⟩
  have HJ1 : Hid (∀ w : World, (∃ N, TL N w) → Calls Tryz.prog 51 #[.int .i64 kind.size] w fun e w' => e = .returned (.string ⟨i1.toArray⟩) ∧ Below w.heap.size w w') := by rw [hi1]; exact hI1
  have HJ2 : Hid (∀ w : World, (∃ N, TL N w) → Calls Tryz.prog 51 #[.int .i64 body.length] w fun e w' => e = .returned (.string ⟨i2.toArray⟩) ∧ Below w.heap.size w w') := by rw [hi2]; exact hI2
  have HRES : Hid (paeB kind.data.toList body = [68, 83, 83, 69, 118, 49, 32] ++ i1 ++ [32] ++ kind.data.toList ++ [32] ++ i2 ++ [32] ++ body) := by show _ = _; rw [paeB, hi1, hi2, HKL.out]
  have hi1l : i1.length ≤ 40 := by rw [hi1]; exact hl1
  have hi2l : i2.length ≤ 40 := by rw [hi2]; exact hl2
  clear hdat hN hI1 hI2 hil hi1 hi2 hl1 hl2
  go_enter Tryz.func38, Tryz.ntmps38
  go_wp2_with (fail)
  have HG : Hid (∃ n : Nat, (27 + (kind.size : Int) + 1 + 19 + 1 + (body.length : Int)) = (n : Int) ∧ 1 ≤ n ∧ n ≤ 4294967296) := ⟨27 + kind.size + 1 + 19 + 1 + body.length, by omega, by omega, by omega⟩
  obtain ⟨gn, hgn, hg1, hg2⟩ := HG.out
  rw [hgn]
  clear hgn HG
  refine (grow_any w.heap.size w.heap.size gn _ (Nat.le_refl _) (by rw [World.size_alloc]; exact Nat.le_succ _) (alloc_at _ _) hg1 hg2).mono ?_
  rintro e w1 ⟨rfl, hF, hW⟩
  have HB1 : Hid (Below w.heap.size w w1) := ((Below.refl _ _).alloc (Nat.le_refl _) _).trans hF.1
  have HW1 := Lib.hid hW
  clear hF hW
  go_wp2_with (fail)
  refine (wString ⟨#[68, 83, 83, 69, 118, 49, 32]⟩ HW1.out (by simp only [List.length_cons, List.length_nil, ByteArray.size, List.size_toArray]; have := HKL.out; omega)).mono ?_
  rintro e w2 ⟨rfl, hF, hW⟩
  have HB2 : Hid (Below w.heap.size w w2) := HB1.out.trans hF.1
  have HW2 := Lib.hid hW
  clear hF hW HB1 HW1
  go_wp2_with (fail)
  refine (HJ1.out w2 ⟨N, HN.out.mono HN.out.le HB2.out⟩).mono ?_
  rintro e w3 ⟨rfl, hF⟩
  have HB3 : Hid (Below w.heap.size w w3) := HB2.out.trans (hF.mono HB2.out.size)
  have HW3 := Lib.hid (HW2.out.old hF)
  clear hF HB2 HW2
  go_wp2_with (fail)
  refine (wString ⟨i1.toArray⟩ HW3.out (by simp only [List.length_append, List.length_cons, List.length_nil, ByteArray.size, List.size_toArray]; have := HKL.out; omega)).mono ?_
  rintro e w4 ⟨rfl, hF, hW⟩
  have HB4 : Hid (Below w.heap.size w w4) := HB3.out.trans hF.1
  have HW4 := Lib.hid hW
  clear hF hW HB3 HW3
  go_wp2_with (fail)
  refine (wByte 32 HW4.out (by simp only [List.length_append, List.length_cons, List.length_nil]; have := HKL.out; omega)).mono ?_
  rintro e w5 ⟨rfl, hF, hW⟩
  have HB5 : Hid (Below w.heap.size w w5) := HB4.out.trans hF.1
  have HW5 := Lib.hid hW
  clear hF hW HB4 HW4
  go_wp2_with (fail)
  refine (wString kind HW5.out (by simp only [List.length_append, List.length_cons, List.length_nil]; have := HKL.out; omega)).mono ?_
  rintro e w6 ⟨rfl, hF, hW⟩
  have HB6 : Hid (Below w.heap.size w w6) := HB5.out.trans hF.1
  have HW6 := Lib.hid hW
  clear hF hW HB5 HW5
  go_wp2_with (fail)
  refine (wByte 32 HW6.out (by simp only [List.length_append, List.length_cons, List.length_nil]; have := HKL.out; omega)).mono ?_
  rintro e w7 ⟨rfl, hF, hW⟩
  have HB7 : Hid (Below w.heap.size w w7) := HB6.out.trans hF.1
  have HW7 := Lib.hid hW
  clear hF hW HB6 HW6
  go_wp2_with (fail)
  refine (HJ2.out w7 ⟨N, HN.out.mono HN.out.le HB7.out⟩).mono ?_
  rintro e w8 ⟨rfl, hF⟩
  have HB8 : Hid (Below w.heap.size w w8) := HB7.out.trans (hF.mono HB7.out.size)
  have HW8 := Lib.hid (HW7.out.old hF)
  clear hF HB7 HW7
  go_wp2_with (fail)
  refine (wString ⟨i2.toArray⟩ HW8.out (by simp only [List.length_append, List.length_cons, List.length_nil, ByteArray.size, List.size_toArray]; have := HKL.out; omega)).mono ?_
  rintro e w9 ⟨rfl, hF, hW⟩
  have HB9 : Hid (Below w.heap.size w w9) := HB8.out.trans hF.1
  have HW9 := Lib.hid hW
  clear hF hW HB8 HW8
  go_wp2_with (fail)
  refine (wByte 32 HW9.out (by simp only [List.length_append, List.length_cons, List.length_nil]; have := HKL.out; omega)).mono ?_
  rintro e w10 ⟨rfl, hF, hW⟩
  have HB10 : Hid (Below w.heap.size w w10) := HB9.out.trans hF.1
  have HW10 := Lib.hid hW
  clear hF hW HB9 HW9
  go_wp2_with (fail)
  refine (wWrite HW10.out ha (fun i x hx => by rw [HB10.out.cell (p := ⟨a, i, none⟩) ha]; exact HDAT.out i x hx) (by simp only [List.length_append, List.length_cons, List.length_nil]; have := HKL.out; omega)).mono ?_
  rintro e w11 ⟨rfl, hF, hW⟩
  have HB11 : Hid (Below w.heap.size w w11) := HB10.out.trans hF.1
  have HW11 := Lib.hid hW
  clear hF hW HB10 HW10
  have HWX : Hid (WB w.heap.size w.heap.size (paeB kind.data.toList body) w11) := by show WB _ _ _ _; rw [HRES.out]; exact HW11.out
  clear HRES HW11
  go_wp2_with (fail)
  refine (Tryz.Buffer_Bytes w.heap.size w.heap.size _ w11 HWX.out.1).mono ?_
  rintro e w99 ⟨v, rfl, hown, q, rfl⟩
  rw [byteCells_length] at hown
  have HOWN := Lib.hid hown
  obtain ⟨aa, cc, rfl, _⟩ := ownsRow.slice hown
  clear hown
  go_wp2
  go_ret
  show BytesPost (paeB kind.data.toList body) w (.returned (.slice aa (paeB kind.data.toList body).length cc)) _
  exact ⟨_, w.heap.size, rfl, Nat.le_refl _, HOWN.out, belowN HB11.out _⟩
end Go.Proofs.YtngifhngangpeaaGreatDoor
