/- cjson.encodeCanonical at nested lists. -/
import Derived.Test.YtngifhngangpeaaGreatDoorC3
import Derived.Test.YtngifhngangpeaaGreatDoorN1
open Go Go.RowKit
namespace Go.Proofs.YtngifhngangpeaaGreatDoor
/-- A value as it lies in memory, with its canonical form. -/
inductive CV (P : Nat → Prop) (w : World) : Value → List UInt8 → Prop
  | null : CV P w .nilIface [110, 117, 108, 108]
  | str (s : ByteArray) (hs : s.size ≤ 4294967296) : CV P w (.iface 9 (.string s)) (encStr s.data.toList)
  | list (g n c : Nat) (L : List (Value × List UInt8)) (hb : P g) (hlt : g < w.heap.size) (hn : L.length = n) (hc : n ≤ c) (hm : c ≤ maxLen) (hv : ∀ x ∈ L, CV P w x.1 x.2)
      (hcell : ∀ (j : Nat) (x : Value × List UInt8), L[j]? = some x → w.cell? ⟨g, j, none⟩ = some x.1) :
      CV P w (.iface 118 (.slice (some ⟨g, 0, none⟩) n c)) (91 :: joinC (L.map (·.2)) ++ [93])
theorem CV.one {P : Nat → Prop} {w : World} {x : Value} {t : List UInt8} (h : CV P w x t) : x.oneCell' = true := by cases h <;> rfl
theorem CV.isIface {P : Nat → Prop} {w : World} {x : Value} {t : List UInt8} (h : CV P w x t) : x = .nilIface ∨ ∃ T y, x = .iface T y := by
  cases h
  · exact .inl rfl
  · exact .inr ⟨_, _, rfl⟩
  · exact .inr ⟨_, _, rfl⟩
/-- What is written of a list when k of its members are. -/
def listTo (L : List (List UInt8)) (k : Nat) : List UInt8 := if k = 0 then [] else if k = L.length then joinC L else joinC (L.take k) ++ [44]
theorem joinC_len_le (L : List (List UInt8)) (t : List UInt8) : (joinC L).length ≤ (joinC (L ++ [t])).length := by
  rw [joinC_snoc]
  split
  · rename_i h; subst h; simp [joinC]
  · simp
theorem listTo_step (L : List (List UInt8)) (k : Nat) (t : List UInt8) (h : L[k]? = some t) : listTo L (k + 1) = listTo L k ++ t ++ (if k + 1 = L.length then [] else [44]) := by
  obtain ⟨hk, rfl⟩ := List.getElem?_eq_some_iff.1 h
  unfold listTo
  rw [if_neg (Nat.succ_ne_zero k), if_neg (show ¬ k = L.length by omega)]
  have hj : joinC (L.take (k + 1)) = (if k = 0 then [] else joinC (L.take k) ++ [44]) ++ L[k] := by
    rw [List.take_succ_eq_append_getElem hk, joinC_snoc]
    by_cases h0 : k = 0
    · subst h0; simp
    · rw [if_neg h0, if_neg (by intro e; have := congrArg List.length e; rw [List.length_take, List.length_nil] at this; omega)]; simp
  by_cases he : k + 1 = L.length
  · rw [if_pos he, if_pos he, List.append_nil, ← hj, he, List.take_length]
  · rw [if_neg he, if_neg he, hj]
theorem listTo_end (L : List (List UInt8)) : listTo L L.length = joinC L := by
  unfold listTo
  split
  · rename_i h; rw [List.length_eq_zero_iff.1 h]; rfl
  · rw [if_pos rfl]
theorem flat_take (L : List (List UInt8)) (k : Nat) : ((L.take k).flatMap fun u => 44 :: u).length ≤ (L.flatMap fun u => 44 :: u).length := by
  conv => rhs; rw [← List.take_append_drop k L, List.flatMap_append, List.length_append]
  omega
theorem joinC_pre (L : List (List UInt8)) (k : Nat) : (joinC (L.take k)).length ≤ (joinC L).length := by
  cases L with
  | nil => simp
  | cons x L =>
    cases k with
    | zero => simp [joinC]
    | succ k =>
      simp only [List.take_succ_cons, joinC, List.length_append]
      have := flat_take L k
      omega
theorem listTo_le (L : List (List UInt8)) (k : Nat) : (listTo L k).length ≤ (joinC L).length + 1 := by
  unfold listTo
  split
  · simp
  · split
    · omega
    · have := joinC_pre L k
      simp; omega
structure LRel (P : Nat → Prop) (w0 : World) (R b : Nat) (l : List UInt8) (L : List (List UInt8)) (w : World) (k : Nat) (wr : World) : Prop where
  fr : FrR R b w wr
  sb : SB R b (l ++ 91 :: listTo L k) wr
  keep : ∀ i, P i → i < w0.heap.size → wr.heap[i]? = w0.heap[i]?
set_option maxRecDepth 100000 in
set_option maxHeartbeats 4000000 in
theorem enc_any {P : Nat → Prop} {w0 : World} {x : Value} {t : List UInt8} (h : CV P w0 x t) : ∀ (R b : Nat) (l : List UInt8) (w : World), (∀ i, P i → i < w0.heap.size → w.heap[i]? = w0.heap[i]?) → (∀ i, P i → i < R ∧ i ≠ b) → SB R b l w → l.length + t.length ≤ 70368744177664 →
    Calls Tryz.prog 59 #[x, .pointer (some ⟨b, 0, none⟩)] w fun e w' => e = .returned .nilIface ∧ FrR R b w w' ∧ SB R b (l ++ t) w' := by
  induction h with
  | null => intro R b l w _ _ hS hl; exact enc_null R b l w hS hl
  | str s hs => intro R b l w _ _ hS hl; exact enc_str s hs R b l w hS hl
  | list g n c L hb hlt hn hc hm hv hcell ih =>
    intro R b l w hkeep hP hS hl
    subst hn
    obtain ⟨T, hT⟩ : ∃ T, T = L.map (·.2) := ⟨_, rfl⟩
    have hTl : T.length = L.length := by rw [hT, List.length_map]
    have HT := Lib.hid hT
    have HTL := Lib.hid hTl
    rw [← hT] at hl ⊢
    have HIH := Lib.hid ih
    have HP := Lib.hid hP
    have HV := Lib.hid hv
    have HCELL := Lib.hid hcell
    have HG := Lib.hid (And.intro hb hlt)
    have HR : Hid (R ≤ w.heap.size) := by obtain ⟨_, _, _, _, _, _, hR⟩ := hS; exact hR
    have HS := Lib.hid hS
    have HK := Lib.hid hkeep
    simp only [List.length_append, List.length_cons, List.length_nil] at hl
    unfold maxLen at hm
    clear hT hTl ih hP hv hcell hb hlt hS hkeep
    have a1 := as_l_s
    have a2 := as_l_b
    have a3 := as_l_n
    have a4 := as_l_yes
    go_enter Tryz.func59, Tryz.ntmps59
    go_wp2_with (fail)
    refine (writeString_any ⟨#[91]⟩ HS.out (by simp only [ByteArray.size, List.size_toArray, List.length_cons, List.length_nil]; omega)).mono ?_
    rintro e w1 ⟨rfl, hf, hS⟩
    have HL1 : Hid (LRel P w0 R b l T w 0 w1) := by
      refine ⟨hf, ?_, fun i hi hi2 => (hf.block i (HP.out i hi).1 (HP.out i hi).2).trans (HK.out i hi hi2)⟩
      unfold listTo; rw [if_pos rfl]; exact hS
    clear hf hS
    go_wp2_with (fail)
    go_loopw [64] (fun i wr => ∃ k : Nat, k ≤ L.length ∧ i = .int .i64 k ∧ LRel P w0 R b l T w k wr) (fun i _ => L.length - (intOf i).toNat)
    case atStart => exact ⟨0, Nat.zero_le _, rfl, HL1.out⟩
    case round =>
      obtain ⟨k, hk, rfl, HR⟩ := hrel
      have HR := Lib.hid HR
      by_cases hlt : k < L.length
      · have hx : L[k]? = some L[k] := List.getElem?_eq_getElem hlt
        obtain ⟨y, hy⟩ : ∃ y, y = L[k] := ⟨_, rfl⟩
        rw [← hy] at hx
        have hmem : y ∈ L := by rw [hy]; exact List.getElem_mem _
        obtain ⟨v, t⟩ := y
        have HX := Lib.hid hx
        have HM := Lib.hid hmem
        have hcl : wr.cell? ⟨g, k, none⟩ = some v := (World.cell?_of_block (HR.out.keep g HG.out.1 HG.out.2)).trans (HCELL.out k _ hx)
        clear hx hmem hy
        have hle := listTo_le T k
        have ht : T[k]? = some t := by rw [HT.out, List.getElem?_map, HX.out]; rfl
        have HST := Lib.hid (listTo_step T k t ht)
        have hle2 := listTo_le T (k + 1)
        have hle3 : (listTo T k).length + t.length ≤ (listTo T (k + 1)).length := by
          rw [HST.out, List.length_append, List.length_append]; omega
        clear ht
        go_wp2_with (fail)
        refine (HIH.out (v, t) HM.out R b (l ++ 91 :: listTo T k) wr HR.out.keep HP.out HR.out.sb (by simp only [List.length_append, List.length_cons]; omega)).mono ?_
        rintro e w2 ⟨rfl, hf, hS⟩
        have HF2 := Lib.hid (HR.out.fr.trans hf)
        have HS2 := Lib.hid hS
        have HK2 : Hid (∀ i, P i → i < w0.heap.size → w2.heap[i]? = w0.heap[i]?) := fun i hi hi2 => (hf.block i (HP.out i hi).1 (HP.out i hi).2).trans (HR.out.keep i hi hi2)
        clear hf hS
        by_cases hlast : k + 1 = L.length
        · have hn1 : ¬ ((k : Int) < (L.length : Int) - 1) := by omega
          rw [if_pos (by rw [HTL.out]; exact hlast), List.append_nil] at HST
          have HL2 : Hid (LRel P w0 R b l T w (k + 1) w2) := ⟨HF2.out, by rw [HST.out]; simpa only [List.append_assoc, List.cons_append] using HS2.out, HK2.out⟩
          go_wp2_with (fail)
          go_roundw
          case rel => exact ⟨k + 1, by omega, by go_num, HL2.out⟩
          case measure => simp [intOf]; omega
        · have hn1 : (k : Int) < (L.length : Int) - 1 := by omega
          rw [if_neg (by rw [HTL.out]; exact hlast)] at HST
          have hle4 : (listTo T k).length + t.length + 1 ≤ (listTo T (k + 1)).length := by rw [HST.out, List.length_append, List.length_append]; simp
          go_wp2_with (fail)
          refine (writeString_any ⟨#[44]⟩ HS2.out (by simp only [ByteArray.size, List.size_toArray, List.length_append, List.length_cons, List.length_nil]; omega)).mono ?_
          rintro e w3 ⟨rfl, hf, hS⟩
          have HL2 : Hid (LRel P w0 R b l T w (k + 1) w3) := by
            refine ⟨HF2.out.trans hf, ?_, fun i hi hi2 => (hf.block i (HP.out i hi).1 (HP.out i hi).2).trans (HK2.out i hi hi2)⟩
            rw [HST.out]
            have hS' : SB R b (l ++ 91 :: listTo T k ++ t ++ [44]) w3 := hS
            simpa only [List.append_assoc, List.cons_append] using hS'
          clear hf hS
          go_wp2_with (fail)
          go_roundw
          case rel => exact ⟨k + 1, by omega, by go_num, HL2.out⟩
          case measure => simp [intOf]; omega
      · have hkl : k = T.length := by rw [HTL.out]; omega
        have hSB := HR.out.sb
        rw [hkl, listTo_end] at hSB
        have HSB := Lib.hid hSB
        clear hSB
        go_wp2_with (fail)
        refine (writeString_any ⟨#[93]⟩ HSB.out (by simp only [ByteArray.size, List.size_toArray, List.length_append, List.length_cons, List.length_nil]; omega)).mono ?_
        rintro e w3 ⟨rfl, hf, hS⟩
        have HE : Hid (FrR R b w w3 ∧ SB R b (l ++ (91 :: joinC T ++ [93])) w3) := ⟨HR.out.fr.trans hf, by
          have hS' : SB R b (l ++ 91 :: joinC T ++ [93]) w3 := hS
          simpa only [List.append_assoc, List.cons_append] using hS'⟩
        clear hf hS
        go_wp2_with (fail)
        go_ret
        exact ⟨rfl, HE.out⟩
end Go.Proofs.YtngifhngangpeaaGreatDoor
