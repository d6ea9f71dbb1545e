/- impl.payload, metadata.ZzSign; signatures that came in. -/
import Derived.Test.YtjganhmbjffjfaaGreatDoorU1
import Derived.Test.YtjganhmbjffjfaaGreatDoorS1
open Go Go.RowKit
namespace Go.Proofs.YtjganhmbjffjfaaGreatDoor
/-- Signatures that came in: identifiers and numbers. -/
def SigR (w : World) (v : Value) (l : List (ByteArray × Int)) : Prop :=
  (v = .slice none 0 0 ∧ l = []) ∨ ∃ a c, v = .slice (some a) l.length c ∧ l.length ≤ c ∧ c ≤ maxLen ∧ ∀ j x, l[j]? = some x → w.cell? (a.add (j * 2)) = some (.string x.1) ∧ w.cell? ⟨(a.add (j * 2)).block, (a.add (j * 2)).off + 1, none⟩ = some (.int .i64 x.2) ∧ x.1.size ≤ 140737488351232 ∧ -9223372036854775808 ≤ x.2 ∧ x.2 ≤ 9223372036854775807
theorem sigR_of {w : World} {v : Value} (h : SL PSig 2 w v) : ∃ l, SigR w v l := by
  rcases h with rfl | ⟨a, n, c, rfl, h1, h2, h3⟩
  · exact ⟨[], .inl ⟨rfl, rfl⟩⟩
  · have hall : ∀ j, ∃ x : ByteArray × Int, j < n → w.cell? (a.add (j * 2)) = some (.string x.1) ∧ w.cell? ⟨(a.add (j * 2)).block, (a.add (j * 2)).off + 1, none⟩ = some (.int .i64 x.2) ∧ x.1.size ≤ 140737488351232 ∧ -9223372036854775808 ≤ x.2 ∧ x.2 ≤ 9223372036854775807 := by
      intro j
      by_cases hj : j < n
      · obtain ⟨cs, ⟨s0, n1, rfl, g0, g1⟩, hc⟩ := h3 j hj
        exact ⟨(s0, n1), fun _ => ⟨hc 0 _ rfl, by rw [← fieldU _ _ 1 (by omega)]; exact hc 1 _ rfl, g0, g1⟩⟩
      · exact ⟨(⟨#[]⟩, 0), fun h => absurd h hj⟩
    obtain ⟨F, hF⟩ := Classical.axiomOfChoice hall
    have e : n = ((List.range n).map F).length := by simp
    refine ⟨(List.range n).map F, .inr ⟨a, c, by rw [← e], by rw [← e]; exact h1, h2, fun j x hj => ?_⟩⟩
    rw [List.getElem?_map] at hj
    rcases Nat.lt_or_ge j n with h | h
    · rw [List.getElem?_range h] at hj; cases hj; exact hF j h
    · rw [List.getElem?_eq_none (by simp; exact h)] at hj; cases hj
theorem SigR.stay {w w' : World} (hb : Below w.heap.size w w') {v : Value} {l : List (ByteArray × Int)} (h : SigR w v l) : SigR w' v l := by
  rcases h with h | ⟨a, c, rfl, h1, h2, h3⟩
  · exact .inl h
  · refine .inr ⟨a, c, rfl, h1, h2, fun j x hj => ?_⟩
    obtain ⟨g1, g2, g3⟩ := h3 j x hj
    exact ⟨(hb.cell (cell_lt g1)).trans g1, (hb.cell (cell_lt g2)).trans g2, g3⟩
theorem below_stp {n : Nat} {w W W' : World} (h : Below n w W) (hn : n ≤ w.heap.size) (h2 : Below W.heap.size W W') : Below n w W' := h.trans (h2.mono (Nat.le_trans hn h.size))
set_option maxRecDepth 100000 in
set_option maxHeartbeats 4000000 in
theorem mdZzSign_any (n : Int) (h0 : -9223372036854775808 ≤ n) (h1 : n ≤ 9223372036854775807) {l : List UInt8} {v : Value} {N : Nat} {w : World} (hv : BSrc w v l) (hl : l.length ≤ 1073741824) (hN : TL N w) :
    Calls Tryz.prog 102 #[.int .i64 n, v] w fun e w' => ∃ u l', e = .returned u ∧ BSrc w' u l' ∧ Below w.heap.size w w' := by
  have HV := Lib.hid hv
  obtain ⟨s, hs⟩ : ∃ s : ByteArray, s = ⟨(Lib.itoa n).toArray⟩ := ⟨_, rfl⟩
  have hsz : s.size ≤ 40 := by
    rw [hs]; show (List.toArray _).size ≤ _; rw [List.size_toArray]
    exact Nat.le_trans (Lib.itoa_length_le n (by omega) (by omega)) (by decide)
  have HI : Hid (Calls Tryz.prog 77 #[.int .i64 n] w fun e w' => e = .returned (.string s) ∧ Below w.heap.size w w') := by
    refine (Tryz.strconv_Itoa n h0 h1 w hN.tab).mono ?_
    rintro e w' ⟨rfl, k, os, rfl⟩
    exact ⟨by rw [hs], Go.Lib.below_grow _ _ (Nat.le_refl _) _ _⟩
  obtain ⟨S, hS⟩ : ∃ S : ByteArray, S = s ++ ⟨#[58]⟩ := ⟨_, rfl⟩
  have hSz : S.size ≤ 41 := by rw [hS, ByteArray.size_append]; have : (⟨#[58]⟩ : ByteArray).size = 1 := rfl; omega
  have hcat := hS.symm
  have kc := fun (w : World) => Lib.run_convert_string_bytes (P := Tryz.prog) w 9 31 5 S Tryz.underlying9 Tryz.underlying31 Tryz.underlying5
  have hz1 : ¬ 9223372036854775807 < s.size + 1 := by omega
  clear hN hv hs hS h0 h1
  go_enter Tryz.func102, Tryz.ntmps102
  go_wp2_with (fail)
  refine HI.out.mono ?_
  rintro e w1 ⟨rfl, hb⟩
  have HB := Lib.hid hb
  have HV1 := Lib.hid (HV.out.stay hb)
  have hSl : S.size + l.length ≤ 4294967296 := by omega
  clear hb HI HV
  go_wp2_with (at_builtin; refine wpList_append_conv rfl _ _ rfl rfl w1 S HV1.out hSl rfl rfl ?_)
  intro v' w2 hv2 hb2
  have HV2 := Lib.hid hv2
  have HB2 := Lib.hid (below_stp HB.out (Nat.le_refl _) hb2)
  clear hv2 hb2 kc hcat HV1
  go_wp2_with (fail)
  go_ret
  exact ⟨v', _, rfl, HV2.out, HB2.out⟩
/-- A value of Meta, but for its kind and its signatures. -/
structure MF where
  (n1 n2 : Int) (a3 : Option Addr) (l3 c3 : Nat) (a4 : Option Addr) (l4 c4 : Nat) (a5 : Option Addr) (l5 c5 : Nat) (y6 : Bool) (a7 : Option Addr) (l7 c7 : Nat) (y8 : Bool) (a9 : Option Addr) (l9 c9 : Nat) (y10 : Bool) (a11 : Option Addr) (l11 c11 : Nat) (n12 n13 : Int) (s14 : ByteArray) (a16 : Option Addr) (l16 c16 : Nat)
/-- A value of Meta. -/
def gMeta (k : ByteArray) (f : MF) (ao : Option Addr) (n c : Nat) : Value := .agg #[.string k, .int .i64 f.n1, .int .i64 f.n2, .slice f.a3 f.l3 f.c3, .slice f.a4 f.l4 f.c4, .slice f.a5 f.l5 f.c5, .bool f.y6, .slice f.a7 f.l7 f.c7, .bool f.y8, .slice f.a9 f.l9 f.c9, .bool f.y10, .slice f.a11 f.l11 f.c11, .int .i64 f.n12, .int .i64 f.n13, .string f.s14, .slice ao n c, .slice f.a16 f.l16 f.c16]
/-- A value of Meta as Unique is asked with. -/
def mf0 : MF := ⟨0, 0, none, 0, 0, none, 0, 0, none, 0, 0, true, none, 0, 0, false, none, 0, 0, false, none, 0, 0, 0, 0, ⟨#[]⟩, none, 0, 0⟩
def uMeta (k : ByteArray) (ao : Option Addr) (n c : Nat) : Value := .agg #[.string k, .int .i64 0, .int .i64 0, .slice none 0 0, .slice none 0 0, .slice none 0 0, .bool true, .slice none 0 0, .bool false, .slice none 0 0, .bool false, .slice none 0 0, .int .i64 0, .int .i64 0, .string ⟨#[]⟩, .slice ao n c, .slice none 0 0]
set_option maxRecDepth 100000 in
set_option maxHeartbeats 4000000 in
theorem payload_any (k : ByteArray) (hk : k.size ≤ 1000) (f : MF) (ao : Option Addr) (n c : Nat) (w : World) : Calls Tryz.prog 74 #[gMeta k f ao n c] w fun e w' => ∃ u l, e = .returned u ∧ BSrc w' u l ∧ l.length ≤ 2000 ∧ Below w.heap.size w w' := by
  obtain ⟨n1, n2, a3, l3, c3, a4, l4, c4, a5, l5, c5, y6, a7, l7, c7, y8, a9, l9, c9, y10, a11, l11, c11, n12, n13, s14, a16, l16, c16⟩ := f
  simp only [gMeta]
  obtain ⟨W1, hW1⟩ : ∃ W1, W1 = w.alloc (.cells #[.string k, .int .i64 n1, .int .i64 n2, .slice a3 l3 c3, .slice a4 l4 c4, .slice a5 l5 c5, .bool y6, .slice a7 l7 c7, .bool y8, .slice a9 l9 c9, .bool y10, .slice a11 l11 c11, .int .i64 n12, .int .i64 n13, .string s14, .slice ao n c, .slice a16 l16 c16] 55) := ⟨_, rfl⟩
  have HB1 : Hid (Below w.heap.size w W1) := by rw [hW1]; exact Lib.hid ((Below.refl _ _).alloc (Nat.le_refl _) _)
  obtain ⟨S, hS⟩ : ∃ S : ByteArray, S = (⟨#[115, 105, 103, 110, 101, 100, 32]⟩ : ByteArray) ++ k := ⟨_, rfl⟩
  have hSz : S.size ≤ 1007 := by rw [hS, ByteArray.size_append]; have : (⟨#[115, 105, 103, 110, 101, 100, 32]⟩ : ByteArray).size = 7 := rfl; omega
  have hcat := hS.symm
  have kc := Lib.run_convert_string_bytes (P := Tryz.prog) W1 9 31 5 S Tryz.underlying9 Tryz.underlying31 Tryz.underlying5
  have HSRC : Hid (BSrc (Lib.bytesWorld W1 5 S) (.slice (some ⟨W1.heap.size, 0, none⟩) S.size (grownCap W1 S.size 0 5)) S.data.toList) := by
    refine .inr ⟨⟨W1.heap.size, 0, none⟩, _, by rw [← Lib.size_eq], by rw [← Lib.size_eq]; unfold maxLen; omega, fun j x hj => ?_⟩
    rw [addrAdd, Nat.zero_add]
    rw [Lib.bytesWorld_cell W1 5 S j (by rw [Lib.size_eq]; exact (List.getElem?_eq_some_iff.1 hj).1), List.getD_eq_getElem?_getD, hj]
    rfl
  have HBEL : Hid (Below w.heap.size w (Lib.bytesWorld W1 5 S)) := HB1.out.trans ((Lib.bytesWorld_below W1 5 S).mono HB1.out.size)
  obtain ⟨b2, hb2⟩ : ∃ b2, b2 = W1.heap.size := ⟨_, rfl⟩
  obtain ⟨cp, hcp⟩ : ∃ cp, cp = grownCap W1 S.size 0 5 := ⟨_, rfl⟩
  obtain ⟨W2, hW2⟩ : ∃ W2, W2 = Lib.bytesWorld W1 5 S := ⟨_, rfl⟩
  rw [← hb2, ← hcp, ← hW2] at kc HSRC
  rw [← hW2] at HBEL
  have hlen : S.data.toList.length ≤ 2000 := by rw [← Lib.size_eq]; omega
  have HLEN := Lib.hid hlen
  rw [hW1] at kc
  have hk2 : k.size ≤ 1000 := hk
  clear hS hW1 hlen hk hb2 hcp hW2
  go_enter Tryz.func74, Tryz.ntmps74
  go_wp2_with (fail)
  go_ret
  exact ⟨_, _, rfl, HSRC.out, HLEN.out, HBEL.out⟩
theorem payload_lit (k : ByteArray) (hk : k.size ≤ 1000) {n1 n2 : Int} {a3 : Option Addr} {l3 c3 : Nat} {a4 : Option Addr} {l4 c4 : Nat} {a5 : Option Addr} {l5 c5 : Nat} {y6 : Bool} {a7 : Option Addr} {l7 c7 : Nat} {y8 : Bool} {a9 : Option Addr} {l9 c9 : Nat} {y10 : Bool} {a11 : Option Addr} {l11 c11 : Nat} {n12 n13 : Int} {s14 : ByteArray} {a16 : Option Addr} {l16 c16 : Nat} (ao : Option Addr) (n c : Nat) (w : World) :
    Calls Tryz.prog 74 #[.agg #[.string k, .int .i64 n1, .int .i64 n2, .slice a3 l3 c3, .slice a4 l4 c4, .slice a5 l5 c5, .bool y6, .slice a7 l7 c7, .bool y8, .slice a9 l9 c9, .bool y10, .slice a11 l11 c11, .int .i64 n12, .int .i64 n13, .string s14, .slice ao n c, .slice a16 l16 c16]] w fun e w' => ∃ u l, e = .returned u ∧ BSrc w' u l ∧ l.length ≤ 2000 ∧ Below w.heap.size w w' :=
  payload_any k hk ⟨n1, n2, a3, l3, c3, a4, l4, c4, a5, l5, c5, y6, a7, l7, c7, y8, a9, l9, c9, y10, a11, l11, c11, n12, n13, s14, a16, l16, c16⟩ ao n c w
end Go.Proofs.YtjganhmbjffjfaaGreatDoor
