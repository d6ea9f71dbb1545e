/- impl.value and impl.Canon at what is no value. -/
import Derived.Test.YtjganhmbjffjfaaGreatDoorT2
import Derived.Test.YtjganhmbjffjfaaGreatDoorV0
open Go Go.RowKit
namespace Go.Proofs.YtjganhmbjffjfaaGreatDoor
/-- The six kinds. -/
def kinds6 : List ByteArray := [⟨#[110, 117, 108, 108]⟩, ⟨#[98, 111, 111, 108]⟩, ⟨#[110, 117, 109, 98, 101, 114]⟩, ⟨#[115, 116, 114, 105, 110, 103]⟩, ⟨#[108, 105, 115, 116]⟩, ⟨#[111, 98, 106, 101, 99, 116]⟩]
/-- What value refuses. -/
def ValBad (w : World) (e : Ending) (w' : World) : Prop := e = .returned (.tuple #[.nilIface, .bool false]) ∧ Below w.heap.size w w'
theorem kinds6_false {k : ByteArray} (h : amB k kinds6 = false) : (k.toList == [110, 117, 108, 108]) = false ∧ (k.toList == [98, 111, 111, 108]) = false ∧ (k.toList == [110, 117, 109, 98, 101, 114]) = false ∧ (k.toList == [115, 116, 114, 105, 110, 103]) = false ∧ (k.toList == [108, 105, 115, 116]) = false ∧ (k.toList == [111, 98, 106, 101, 99, 116]) = false := by
  have hb : ∀ l : List UInt8, (l == k.toList) = (k.toList == l) := fun l => by rw [Bool.eq_iff_iff, beq_iff_eq, beq_iff_eq]; exact eq_comm
  unfold amB kinds6 at h
  simp only [List.any_cons, List.any_nil, Bool.or_false, Bool.or_eq_false_iff] at h
  obtain ⟨h1, h2, h3, h4, h5, h6⟩ := h
  rw [hb, ByteArray.toList_eq ⟨#[_, _, _, _]⟩] at h1 h2 h5
  rw [hb, ByteArray.toList_eq ⟨#[_, _, _, _, _, _]⟩] at h3 h4 h6
  exact ⟨h1, h2, h3, h4, h5, h6⟩
set_option maxRecDepth 100000 in
set_option maxHeartbeats 4000000 in
theorem value_unknown {k x : ByteArray} {ko lo : Option Addr} {m kp n lp : Nat} {w : World} (h : amB k kinds6 = false) : Calls Tryz.prog 34 #[.agg #[.string k, .string x, .slice ko m kp, .slice lo n lp]] w (ValBad w) := by
  obtain ⟨p1, p2, p3, p4, p5, p6⟩ := kinds6_false h
  clear h
  go_enter Tryz.func34, Tryz.ntmps34
  go_wp2_with (fail)
  go_ret2
  exact ⟨rfl, (Below.refl _ _).alloc (Nat.le_refl _) _⟩
set_option maxRecDepth 100000 in
set_option maxHeartbeats 4000000 in
theorem value_parts {k x : ByteArray} {ko lo : Option Addr} {m kp n lp : Nat} {w : World} (h : k.toList = [111, 98, 106, 101, 99, 116]) (hmn : m ≠ n) : Calls Tryz.prog 34 #[.agg #[.string k, .string x, .slice ko m kp, .slice lo n lp]] w (ValBad w) := by
  have p1 : (k.toList == [110, 117, 108, 108]) = false := by rw [h]; decide
  have p2 : (k.toList == [98, 111, 111, 108]) = false := by rw [h]; decide
  have p3 : (k.toList == [110, 117, 109, 98, 101, 114]) = false := by rw [h]; decide
  have p4 : (k.toList == [115, 116, 114, 105, 110, 103]) = false := by rw [h]; decide
  have p5 : (k.toList == [108, 105, 115, 116]) = false := by rw [h]; decide
  have p6 : (k.toList == [111, 98, 106, 101, 99, 116]) = true := by rw [h]; decide
  have i5 : ((m : Int) == (n : Int)) = false := by simp; omega
  have i6 : ((m : Int) != (n : Int)) = true := by simp; omega
  clear h hmn
  go_enter Tryz.func34, Tryz.ntmps34
  go_wp2_with (fail)
  go_ret2
  exact ⟨rfl, (Below.refl _ _).alloc (Nat.le_refl _) _⟩
/-- A value that is refused now and later, whatever becomes of block B. -/
def BadV (B : Nat) (w : World) (k x : ByteArray) (ko : Option Addr) (m kp : Nat) (lo : Option Addr) (n lp : Nat) : Prop :=
  ∀ w', Fr B w w' → Calls Tryz.prog 34 #[.agg #[.string k, .string x, .slice ko m kp, .slice lo n lp]] w' (ValBad w')
theorem BadV.stay {B : Nat} {w w' : World} {k x : ByteArray} {ko : Option Addr} {m kp : Nat} {lo : Option Addr} {n lp : Nat} (h : BadV B w k x ko m kp lo n lp) (hb : Fr B w w') : BadV B w' k x ko m kp lo n lp :=
  fun w'' hb' => h w'' (hb.trans hb')
set_option maxRecDepth 100000 in
set_option maxHeartbeats 8000000 in
theorem value_in_list {B : Nat} {k x : ByteArray} {ko : Option Addr} {m kp : Nat} {lo : Option Addr} {n lp : Nat} {W : World} (h : BadV B W k x ko m kp lo n lp) (g : Nat) (hgB : g ≠ B) (hg : W.heap[g]? = some (.cells #[.string ⟨#[110, 117, 108, 108]⟩, .string ⟨#[]⟩, .slice none 0 0, .slice none 0 0, .string k, .string x, .slice ko m kp, .slice lo n lp] 25 (0, 0))) :
    BadV B W ⟨#[108, 105, 115, 116]⟩ ⟨#[]⟩ none 0 0 (some ⟨g, 0, none⟩) 2 2 := by
  intro w hw
  have hgl : g < W.heap.size := by
    rcases Nat.lt_or_ge g W.heap.size with h | h
    · exact h
    · rw [Array.getElem?_eq_none h] at hg; cases hg
  have HC : Hid (∀ W', Below w.heap.size w W' → W'.cell? ⟨g, 0, none⟩ = some (.string ⟨#[110, 117, 108, 108]⟩) ∧ W'.cell? ⟨g, 1, none⟩ = some (.string ⟨#[]⟩) ∧ W'.cell? ⟨g, 2, none⟩ = some (.slice none 0 0) ∧ W'.cell? ⟨g, 3, none⟩ = some (.slice none 0 0) ∧
      W'.cell? ⟨g, 4, none⟩ = some (.string k) ∧ W'.cell? ⟨g, 5, none⟩ = some (.string x) ∧ W'.cell? ⟨g, 6, none⟩ = some (.slice ko m kp) ∧ W'.cell? ⟨g, 7, none⟩ = some (.slice lo n lp)) := by
    intro W' hb
    have := ((hw.below hb).block g hgl hgB).trans hg
    refine ⟨?_, ?_, ?_, ?_, ?_, ?_, ?_, ?_⟩ <;> simp [World.cell?, this]
  have HBAD := Lib.hid h
  have HW := Lib.hid hw
  obtain ⟨i0, hi, hz0, hz1, hz2⟩ := info_parts info_any
  clear h hw hg
  obtain ⟨w2, hw2⟩ : ∃ w2, w2 = (w.alloc (.cells #[.string ⟨#[108, 105, 115, 116]⟩, .string ⟨#[]⟩, .slice none 0 0, .slice (some ⟨g, 0, none⟩) 2 2] 25)).alloc (.cells #[] 20) := ⟨_, rfl⟩
  have hs2 : w2.heap.size = w.heap.size + 2 := by rw [hw2, World.size_alloc, World.size_alloc]
  have HB : Hid (Below w.heap.size w w2) := by
    show Below _ _ _
    rw [hw2]; exact ((Below.refl _ _).alloc (Nat.le_refl _) _).alloc (by rw [World.size_alloc]; omega) _
  have HOWN : Hid (w2.ownsRow (w.heap.size + 1) 20 1 (.slice (some ⟨w.heap.size + 1, 0, none⟩) 0 0) 0 []) := by
    refine ⟨rfl, .inr ⟨w.heap.size + 1, 0, #[], rfl, Nat.le_refl _, ?_, Nat.le_refl _, by decide, rfl, rfl⟩⟩
    have := alloc_at (w.alloc (.cells #[.string ⟨#[108, 105, 115, 116]⟩, .string ⟨#[]⟩, .slice none 0 0, .slice (some ⟨g, 0, none⟩) 2 2] 25)) (.cells #[] 20)
    rw [World.size_alloc] at this
    rw [hw2]; exact this
  have HW2 := Lib.hid hw2
  clear hw2
  go_enter Tryz.func34, Tryz.ntmps34
  go_wp2_with (fail)
  rw [← HW2.out]
  clear HW2
  refine wp_loop_rounds 4 ?_
  rw [rounds_succ]
  obtain ⟨c0, c1, c2, c3, _, _, _, _⟩ := HC.out w2 HB.out
  go_wp2_with (fail)
  refine (value_null _).mono ?_
  rintro e w1a ⟨rfl, hb⟩
  have hbe1 : Below w2.heap.size w2 w1a := ((Below.refl _ _).alloc (Nat.le_refl _) _).trans (hb.mono (by rw [World.size_alloc]; omega))
  have HB1a : Hid (Below w.heap.size w w1a) := HB.out.trans (hbe1.mono HB.out.size)
  have HO1a := Lib.hid (own_below HOWN.out hbe1)
  have hsz1a : w.heap.size + 2 ≤ w1a.heap.size := by have := hbe1.size; omega
  clear hb hbe1
  obtain ⟨w1b, hw1b⟩ : ∃ w1b, w1b = w1a.alloc (.cells #[.nilIface] 20) := ⟨_, rfl⟩
  have hbf1 : Below w1a.heap.size w1a w1b := by rw [hw1b]; exact (Below.refl _ _).alloc (Nat.le_refl _) _
  have HB1b : Hid (Below w.heap.size w w1b) := HB1a.out.trans (hbf1.mono HB1a.out.size)
  have HO1b := Lib.hid (own_below HO1a.out hbf1)
  have HN1 : Hid (∀ (j : Nat) (u : Value), [.nilIface][j]? = some u → w1b.cell? ((⟨w1a.heap.size, 0, none⟩ : Addr).add j) = some u) := by
    intro j u hu
    match j, hu with
    | 0, hu =>
      cases hu
      rw [hw1b, addrAdd, World.cell?, alloc_at]
      rfl
    | j + 1, hu => cases hu
  have hsz1b : w.heap.size + 3 ≤ w1b.heap.size := by rw [hw1b, World.size_alloc]; omega
  have HW1b := Lib.hid hw1b
  clear hbf1 hw1b
  go_wp2_with (at_builtin; rw [← HW1b.out]; refine wpList_append_own_at _ rfl _ _ 129 rfl (w.heap.size + 1) 20 i0 .nilIface 1 16 Tryz.underlying129 hi hz0 hz1 hz2 rfl (by decide) _ _ _ rfl HO1b.out ⟨w1a.heap.size, 0, none⟩ 1 1 [.nilIface] rfl rfl HN1.out (by intro u hu; rw [List.mem_singleton.1 hu]; rfl) (by unfold maxLen; omega) (by omega) (by omega) ?_)
  intro v1 w1c hown hgr _ _
  have HB1c : Hid (Below (w.heap.size + 1) w1b w1c) := grown_below (Below.refl _ _) HO1b.out (by omega) hgr
  have HB1d : Hid (Below w.heap.size w w1c) := HB1b.out.trans (HB1c.out.mono (by omega))
  clear hown hgr
  go_wp2_with (fail)
  clear c0 c1 c2 c3
  rw [rounds_succ]
  obtain ⟨_, _, _, _, c4, c5, c6, c7⟩ := HC.out w1c HB1d.out
  have hbx : Below w.heap.size w (w1c.alloc (.cells #[.string k, .string x, .slice ko m kp, .slice lo n lp] 25)) := HB1d.out.alloc HB1d.out.size _
  have HCB := Lib.hid (HBAD.out _ (HW.out.below hbx))
  have HBX := Lib.hid hbx
  clear hbx
  go_wp2_with (fail)
  refine HCB.out.mono ?_
  rintro e w2a ⟨rfl, hb⟩
  have HBE := Lib.hid (HBX.out.trans (hb.mono HBX.out.size))
  clear hb
  go_wp2_with (fail)
  go_ret2
  exact ⟨rfl, HBE.out⟩
set_option maxRecDepth 100000 in
set_option maxHeartbeats 4000000 in
theorem canon_bad {B : Nat} {k x : ByteArray} {ko : Option Addr} {m kp : Nat} {lo : Option Addr} {n lp : Nat} {w : World} (h : BadV B w k x ko m kp lo n lp) : Calls Tryz.prog 14 #[.agg #[.string k, .string x, .slice ko m kp, .slice lo n lp]] w fun e w' => e = .returned (.tuple #[.slice none 0 0, .bool false]) ∧ Below w.heap.size w w' := by
  have HV := Lib.hid (h _ (Fr.of_below ((Below.refl w.heap.size w).alloc (Nat.le_refl _) (.cells #[.string k, .string x, .slice ko m kp, .slice lo n lp] 25))))
  have hB := (Below.refl w.heap.size w).alloc (Nat.le_refl _) (.cells #[.string k, .string x, .slice ko m kp, .slice lo n lp] 25)
  have HB := Lib.hid hB
  clear h hB
  go_enter Tryz.func14, Tryz.ntmps14
  go_wp2_with (fail)
  refine HV.out.mono ?_
  rintro e w2 ⟨rfl, hb⟩
  have HB2 := Lib.hid (HB.out.trans (hb.mono HB.out.size))
  clear hb
  go_wp2_with (fail)
  go_ret2
  exact ⟨rfl, HB2.out⟩
end Go.Proofs.YtjganhmbjffjfaaGreatDoor
