/- spec.tKind, spec.Expired, impl.Expired, at any metadata. Printed by gen_M2.py. -/
import Derived.Test.YthafpdceknleiaaGreatDoorU8
import Derived.BigQuiet
open Go Go.RowKit
namespace Go.Proofs.YthafpdceknleiaaGreatDoor
/-- Whether a text is one of the four kinds. -/
def kindB (s : ByteArray) : Bool := amB s kinds4
theorem kindB_true {s : ByteArray} (h : kindB s = true) : s = ⟨#[114, 111, 111, 116]⟩ ∨ s = ⟨#[115, 110, 97, 112, 115, 104, 111, 116]⟩ ∨ s = ⟨#[116, 105, 109, 101, 115, 116, 97, 109, 112]⟩ ∨ s = ⟨#[116, 97, 114, 103, 101, 116, 115]⟩ := by
  obtain ⟨x, hx, he⟩ := List.any_eq_true.1 h
  have he2 := bytes_toList_inj (beq_iff_eq.1 he)
  subst he2
  unfold kinds4 at hx
  simpa only [List.mem_cons, List.not_mem_nil, or_false] using hx
theorem kindB_false {s : ByteArray} (h : kindB s = false) : (s.toList == [114, 111, 111, 116]) = false ∧ (s.toList == [115, 110, 97, 112, 115, 104, 111, 116]) = false ∧ (s.toList == [116, 105, 109, 101, 115, 116, 97, 109, 112]) = false ∧ (s.toList == [116, 97, 114, 103, 101, 116, 115]) = false := by
  unfold kindB amB at h
  rw [List.any_eq_false] at h
  have f : ∀ c ∈ kinds4, (s.toList == c.toList) = false := fun c hc => by
    have := h c hc
    rw [Bool.not_eq_true] at this
    rw [← this]
    rw [Bool.eq_iff_iff]
    constructor <;> intro h <;> exact beq_iff_eq.2 (beq_iff_eq.1 h).symm
  have g1 := f ⟨#[114, 111, 111, 116]⟩ (by simp [kinds4])
  have g2 := f ⟨#[115, 110, 97, 112, 115, 104, 111, 116]⟩ (by simp [kinds4])
  have g3 := f ⟨#[116, 105, 109, 101, 115, 116, 97, 109, 112]⟩ (by simp [kinds4])
  have g4 := f ⟨#[116, 97, 114, 103, 101, 116, 115]⟩ (by simp [kinds4])
  simp only [ByteArray.toList_eq] at g1 g2 g3 g4 ⊢
  exact ⟨g1, g2, g3, g4⟩
set_option maxRecDepth 100000 in
set_option maxHeartbeats 4000000 in
theorem tKind_any (s : ByteArray) (w : World) : Calls Tryz.prog 43 #[.string s] w fun e w' => e = .returned (.bool (kindB s)) ∧ w' = w := by
  cases hk : kindB s with
  | true =>
    rcases kindB_true hk with rfl | rfl | rfl | rfl
    · clear hk
      go_enter Tryz.func43, Tryz.ntmps43
      go_wp2_with (fail)
      go_ret
      exact ⟨rfl, rfl⟩
    · clear hk
      go_enter Tryz.func43, Tryz.ntmps43
      go_wp2_with (fail)
      go_ret
      exact ⟨rfl, rfl⟩
    · clear hk
      go_enter Tryz.func43, Tryz.ntmps43
      go_wp2_with (fail)
      go_ret
      exact ⟨rfl, rfl⟩
    · clear hk
      go_enter Tryz.func43, Tryz.ntmps43
      go_wp2_with (fail)
      go_ret
      exact ⟨rfl, rfl⟩
  | false =>
    obtain ⟨i1, i2, i3, i4⟩ := kindB_false hk
    clear hk
    go_enter Tryz.func43, Tryz.ntmps43
    go_wp2_with (fail)
    go_ret
    exact ⟨rfl, rfl⟩
set_option maxRecDepth 100000 in
set_option maxHeartbeats 4000000 in
theorem gexp_0t {n1 ex : Int} {a3 : Option Addr} {l3 c3 : Nat} {a4 : Option Addr} {l4 c4 : Nat} {a5 : Option Addr} {l5 c5 : Nat} {y6 : Bool} {a7 : Option Addr} {l7 c7 : Nat} {y8 : Bool} {a9 : Option Addr} {l9 c9 : Nat} {y10 : Bool} {a11 : Option Addr} {l11 c11 : Nat} {n12 n13 : Int} {s14 : ByteArray} {a15 : Option Addr} {l15 c15 : Nat} {a16 : Option Addr} {l16 c16 : Nat} (now : Int) (h : ex < now) (w : World) : Calls Tryz.prog 17 #[.agg #[.string ⟨#[114, 111, 111, 116]⟩, .int .i64 n1, .int .i64 ex, .slice a3 l3 c3, .slice a4 l4 c4, .slice a5 l5 c5, .bool y6, .slice a7 l7 c7, .bool y8, .slice a9 l9 c9, .bool y10, .slice a11 l11 c11, .int .i64 n12, .int .i64 n13, .string s14, .slice a15 l15 c15, .slice a16 l16 c16], .int .i64 now] w fun e w' => e = .returned (.bool true) ∧ Below w.heap.size w w' := by
  have HB : Hid (∀ W, Below w.heap.size w W → ∀ o, Below w.heap.size w (W.alloc o)) := fun W hW o => hW.alloc hW.size o
  go_enter Tryz.func17, Tryz.ntmps17
  go_wp2
  go_ret
  exact ⟨rfl, by repeat (first | exact Below.refl _ _ | apply HB.out)⟩
set_option maxRecDepth 100000 in
set_option maxHeartbeats 4000000 in
theorem gexp_0f {n1 ex : Int} {a3 : Option Addr} {l3 c3 : Nat} {a4 : Option Addr} {l4 c4 : Nat} {a5 : Option Addr} {l5 c5 : Nat} {y6 : Bool} {a7 : Option Addr} {l7 c7 : Nat} {y8 : Bool} {a9 : Option Addr} {l9 c9 : Nat} {y10 : Bool} {a11 : Option Addr} {l11 c11 : Nat} {n12 n13 : Int} {s14 : ByteArray} {a15 : Option Addr} {l15 c15 : Nat} {a16 : Option Addr} {l16 c16 : Nat} (now : Int) (h : ¬ ex < now) (w : World) : Calls Tryz.prog 17 #[.agg #[.string ⟨#[114, 111, 111, 116]⟩, .int .i64 n1, .int .i64 ex, .slice a3 l3 c3, .slice a4 l4 c4, .slice a5 l5 c5, .bool y6, .slice a7 l7 c7, .bool y8, .slice a9 l9 c9, .bool y10, .slice a11 l11 c11, .int .i64 n12, .int .i64 n13, .string s14, .slice a15 l15 c15, .slice a16 l16 c16], .int .i64 now] w fun e w' => e = .returned (.bool false) ∧ Below w.heap.size w w' := by
  have HB : Hid (∀ W, Below w.heap.size w W → ∀ o, Below w.heap.size w (W.alloc o)) := fun W hW o => hW.alloc hW.size o
  go_enter Tryz.func17, Tryz.ntmps17
  go_wp2
  go_ret
  exact ⟨rfl, by repeat (first | exact Below.refl _ _ | apply HB.out)⟩
set_option maxRecDepth 100000 in
set_option maxHeartbeats 4000000 in
theorem gexp_1t {n1 ex : Int} {a3 : Option Addr} {l3 c3 : Nat} {a4 : Option Addr} {l4 c4 : Nat} {a5 : Option Addr} {l5 c5 : Nat} {y6 : Bool} {a7 : Option Addr} {l7 c7 : Nat} {y8 : Bool} {a9 : Option Addr} {l9 c9 : Nat} {y10 : Bool} {a11 : Option Addr} {l11 c11 : Nat} {n12 n13 : Int} {s14 : ByteArray} {a15 : Option Addr} {l15 c15 : Nat} {a16 : Option Addr} {l16 c16 : Nat} (now : Int) (h : ex < now) (w : World) : Calls Tryz.prog 17 #[.agg #[.string ⟨#[115, 110, 97, 112, 115, 104, 111, 116]⟩, .int .i64 n1, .int .i64 ex, .slice a3 l3 c3, .slice a4 l4 c4, .slice a5 l5 c5, .bool y6, .slice a7 l7 c7, .bool y8, .slice a9 l9 c9, .bool y10, .slice a11 l11 c11, .int .i64 n12, .int .i64 n13, .string s14, .slice a15 l15 c15, .slice a16 l16 c16], .int .i64 now] w fun e w' => e = .returned (.bool true) ∧ Below w.heap.size w w' := by
  have HB : Hid (∀ W, Below w.heap.size w W → ∀ o, Below w.heap.size w (W.alloc o)) := fun W hW o => hW.alloc hW.size o
  go_enter Tryz.func17, Tryz.ntmps17
  go_wp2
  go_ret
  exact ⟨rfl, by repeat (first | exact Below.refl _ _ | apply HB.out)⟩
set_option maxRecDepth 100000 in
set_option maxHeartbeats 4000000 in
theorem gexp_1f {n1 ex : Int} {a3 : Option Addr} {l3 c3 : Nat} {a4 : Option Addr} {l4 c4 : Nat} {a5 : Option Addr} {l5 c5 : Nat} {y6 : Bool} {a7 : Option Addr} {l7 c7 : Nat} {y8 : Bool} {a9 : Option Addr} {l9 c9 : Nat} {y10 : Bool} {a11 : Option Addr} {l11 c11 : Nat} {n12 n13 : Int} {s14 : ByteArray} {a15 : Option Addr} {l15 c15 : Nat} {a16 : Option Addr} {l16 c16 : Nat} (now : Int) (h : ¬ ex < now) (w : World) : Calls Tryz.prog 17 #[.agg #[.string ⟨#[115, 110, 97, 112, 115, 104, 111, 116]⟩, .int .i64 n1, .int .i64 ex, .slice a3 l3 c3, .slice a4 l4 c4, .slice a5 l5 c5, .bool y6, .slice a7 l7 c7, .bool y8, .slice a9 l9 c9, .bool y10, .slice a11 l11 c11, .int .i64 n12, .int .i64 n13, .string s14, .slice a15 l15 c15, .slice a16 l16 c16], .int .i64 now] w fun e w' => e = .returned (.bool false) ∧ Below w.heap.size w w' := by
  have HB : Hid (∀ W, Below w.heap.size w W → ∀ o, Below w.heap.size w (W.alloc o)) := fun W hW o => hW.alloc hW.size o
  go_enter Tryz.func17, Tryz.ntmps17
  go_wp2
  go_ret
  exact ⟨rfl, by repeat (first | exact Below.refl _ _ | apply HB.out)⟩
set_option maxRecDepth 100000 in
set_option maxHeartbeats 4000000 in
theorem gexp_2t {n1 ex : Int} {a3 : Option Addr} {l3 c3 : Nat} {a4 : Option Addr} {l4 c4 : Nat} {a5 : Option Addr} {l5 c5 : Nat} {y6 : Bool} {a7 : Option Addr} {l7 c7 : Nat} {y8 : Bool} {a9 : Option Addr} {l9 c9 : Nat} {y10 : Bool} {a11 : Option Addr} {l11 c11 : Nat} {n12 n13 : Int} {s14 : ByteArray} {a15 : Option Addr} {l15 c15 : Nat} {a16 : Option Addr} {l16 c16 : Nat} (now : Int) (h : ex < now) (w : World) : Calls Tryz.prog 17 #[.agg #[.string ⟨#[116, 105, 109, 101, 115, 116, 97, 109, 112]⟩, .int .i64 n1, .int .i64 ex, .slice a3 l3 c3, .slice a4 l4 c4, .slice a5 l5 c5, .bool y6, .slice a7 l7 c7, .bool y8, .slice a9 l9 c9, .bool y10, .slice a11 l11 c11, .int .i64 n12, .int .i64 n13, .string s14, .slice a15 l15 c15, .slice a16 l16 c16], .int .i64 now] w fun e w' => e = .returned (.bool true) ∧ Below w.heap.size w w' := by
  have HB : Hid (∀ W, Below w.heap.size w W → ∀ o, Below w.heap.size w (W.alloc o)) := fun W hW o => hW.alloc hW.size o
  go_enter Tryz.func17, Tryz.ntmps17
  go_wp2
  go_ret
  exact ⟨rfl, by repeat (first | exact Below.refl _ _ | apply HB.out)⟩
set_option maxRecDepth 100000 in
set_option maxHeartbeats 4000000 in
theorem gexp_2f {n1 ex : Int} {a3 : Option Addr} {l3 c3 : Nat} {a4 : Option Addr} {l4 c4 : Nat} {a5 : Option Addr} {l5 c5 : Nat} {y6 : Bool} {a7 : Option Addr} {l7 c7 : Nat} {y8 : Bool} {a9 : Option Addr} {l9 c9 : Nat} {y10 : Bool} {a11 : Option Addr} {l11 c11 : Nat} {n12 n13 : Int} {s14 : ByteArray} {a15 : Option Addr} {l15 c15 : Nat} {a16 : Option Addr} {l16 c16 : Nat} (now : Int) (h : ¬ ex < now) (w : World) : Calls Tryz.prog 17 #[.agg #[.string ⟨#[116, 105, 109, 101, 115, 116, 97, 109, 112]⟩, .int .i64 n1, .int .i64 ex, .slice a3 l3 c3, .slice a4 l4 c4, .slice a5 l5 c5, .bool y6, .slice a7 l7 c7, .bool y8, .slice a9 l9 c9, .bool y10, .slice a11 l11 c11, .int .i64 n12, .int .i64 n13, .string s14, .slice a15 l15 c15, .slice a16 l16 c16], .int .i64 now] w fun e w' => e = .returned (.bool false) ∧ Below w.heap.size w w' := by
  have HB : Hid (∀ W, Below w.heap.size w W → ∀ o, Below w.heap.size w (W.alloc o)) := fun W hW o => hW.alloc hW.size o
  go_enter Tryz.func17, Tryz.ntmps17
  go_wp2
  go_ret
  exact ⟨rfl, by repeat (first | exact Below.refl _ _ | apply HB.out)⟩
set_option maxRecDepth 100000 in
set_option maxHeartbeats 4000000 in
theorem gexp_3t {n1 ex : Int} {a3 : Option Addr} {l3 c3 : Nat} {a4 : Option Addr} {l4 c4 : Nat} {a5 : Option Addr} {l5 c5 : Nat} {y6 : Bool} {a7 : Option Addr} {l7 c7 : Nat} {y8 : Bool} {a9 : Option Addr} {l9 c9 : Nat} {y10 : Bool} {a11 : Option Addr} {l11 c11 : Nat} {n12 n13 : Int} {s14 : ByteArray} {a15 : Option Addr} {l15 c15 : Nat} {a16 : Option Addr} {l16 c16 : Nat} (now : Int) (h : ex < now) (w : World) : Calls Tryz.prog 17 #[.agg #[.string ⟨#[116, 97, 114, 103, 101, 116, 115]⟩, .int .i64 n1, .int .i64 ex, .slice a3 l3 c3, .slice a4 l4 c4, .slice a5 l5 c5, .bool y6, .slice a7 l7 c7, .bool y8, .slice a9 l9 c9, .bool y10, .slice a11 l11 c11, .int .i64 n12, .int .i64 n13, .string s14, .slice a15 l15 c15, .slice a16 l16 c16], .int .i64 now] w fun e w' => e = .returned (.bool true) ∧ Below w.heap.size w w' := by
  have HB : Hid (∀ W, Below w.heap.size w W → ∀ o, Below w.heap.size w (W.alloc o)) := fun W hW o => hW.alloc hW.size o
  go_enter Tryz.func17, Tryz.ntmps17
  go_wp2
  go_ret
  exact ⟨rfl, by repeat (first | exact Below.refl _ _ | apply HB.out)⟩
set_option maxRecDepth 100000 in
set_option maxHeartbeats 4000000 in
theorem gexp_3f {n1 ex : Int} {a3 : Option Addr} {l3 c3 : Nat} {a4 : Option Addr} {l4 c4 : Nat} {a5 : Option Addr} {l5 c5 : Nat} {y6 : Bool} {a7 : Option Addr} {l7 c7 : Nat} {y8 : Bool} {a9 : Option Addr} {l9 c9 : Nat} {y10 : Bool} {a11 : Option Addr} {l11 c11 : Nat} {n12 n13 : Int} {s14 : ByteArray} {a15 : Option Addr} {l15 c15 : Nat} {a16 : Option Addr} {l16 c16 : Nat} (now : Int) (h : ¬ ex < now) (w : World) : Calls Tryz.prog 17 #[.agg #[.string ⟨#[116, 97, 114, 103, 101, 116, 115]⟩, .int .i64 n1, .int .i64 ex, .slice a3 l3 c3, .slice a4 l4 c4, .slice a5 l5 c5, .bool y6, .slice a7 l7 c7, .bool y8, .slice a9 l9 c9, .bool y10, .slice a11 l11 c11, .int .i64 n12, .int .i64 n13, .string s14, .slice a15 l15 c15, .slice a16 l16 c16], .int .i64 now] w fun e w' => e = .returned (.bool false) ∧ Below w.heap.size w w' := by
  have HB : Hid (∀ W, Below w.heap.size w W → ∀ o, Below w.heap.size w (W.alloc o)) := fun W hW o => hW.alloc hW.size o
  go_enter Tryz.func17, Tryz.ntmps17
  go_wp2
  go_ret
  exact ⟨rfl, by repeat (first | exact Below.refl _ _ | apply HB.out)⟩
theorem implExpired_gen {n1 ex : Int} {a3 : Option Addr} {l3 c3 : Nat} {a4 : Option Addr} {l4 c4 : Nat} {a5 : Option Addr} {l5 c5 : Nat} {y6 : Bool} {a7 : Option Addr} {l7 c7 : Nat} {y8 : Bool} {a9 : Option Addr} {l9 c9 : Nat} {y10 : Bool} {a11 : Option Addr} {l11 c11 : Nat} {n12 n13 : Int} {s14 : ByteArray} {a15 : Option Addr} {l15 c15 : Nat} {a16 : Option Addr} {l16 c16 : Nat} (s0 : ByteArray) (hk : kindB s0 = true) (now : Int) (w : World) : Calls Tryz.prog 17 #[.agg #[.string s0, .int .i64 n1, .int .i64 ex, .slice a3 l3 c3, .slice a4 l4 c4, .slice a5 l5 c5, .bool y6, .slice a7 l7 c7, .bool y8, .slice a9 l9 c9, .bool y10, .slice a11 l11 c11, .int .i64 n12, .int .i64 n13, .string s14, .slice a15 l15 c15, .slice a16 l16 c16], .int .i64 now] w fun e w' => e = .returned (.bool (decide (ex < now))) ∧ Below w.heap.size w w' := by
  by_cases h : ex < now
  · rw [decide_eq_true h]
    rcases kindB_true hk with rfl | rfl | rfl | rfl
    · exact gexp_0t now h w
    · exact gexp_1t now h w
    · exact gexp_2t now h w
    · exact gexp_3t now h w
  · rw [decide_eq_false h]
    rcases kindB_true hk with rfl | rfl | rfl | rfl
    · exact gexp_0f now h w
    · exact gexp_1f now h w
    · exact gexp_2f now h w
    · exact gexp_3f now h w
set_option maxRecDepth 100000 in
set_option maxHeartbeats 4000000 in
theorem specExpired_gen {n1 ex : Int} {a3 : Option Addr} {l3 c3 : Nat} {a4 : Option Addr} {l4 c4 : Nat} {a5 : Option Addr} {l5 c5 : Nat} {y6 : Bool} {a7 : Option Addr} {l7 c7 : Nat} {y8 : Bool} {a9 : Option Addr} {l9 c9 : Nat} {y10 : Bool} {a11 : Option Addr} {l11 c11 : Nat} {n12 n13 : Int} {s14 : ByteArray} {a15 : Option Addr} {l15 c15 : Nat} {a16 : Option Addr} {l16 c16 : Nat} (s0 : ByteArray) (now : Int) (w : World) : Calls Tryz.prog 16 #[.agg #[.string s0, .int .i64 n1, .int .i64 ex, .slice a3 l3 c3, .slice a4 l4 c4, .slice a5 l5 c5, .bool y6, .slice a7 l7 c7, .bool y8, .slice a9 l9 c9, .bool y10, .slice a11 l11 c11, .int .i64 n12, .int .i64 n13, .string s14, .slice a15 l15 c15, .slice a16 l16 c16], .int .i64 now] w fun e w' => e = .returned (.tuple #[.bool (decide (ex < now)), .bool (kindB s0)]) ∧ Below w.heap.size w w' := by
  have HK : Hid (∀ W, Calls Tryz.prog 43 #[.string s0] W fun e w' => e = .returned (.bool (kindB s0)) ∧ w' = W) := fun W => tKind_any s0 W
  obtain ⟨kb, hkb⟩ : ∃ b, b = kindB s0 := ⟨_, rfl⟩
  rw [← hkb] at HK ⊢
  clear hkb
  obtain ⟨W1, hW1⟩ : ∃ W1, W1 = w.alloc (.cells #[.string s0, .int .i64 n1, .int .i64 ex, .slice a3 l3 c3, .slice a4 l4 c4, .slice a5 l5 c5, .bool y6, .slice a7 l7 c7, .bool y8, .slice a9 l9 c9, .bool y10, .slice a11 l11 c11, .int .i64 n12, .int .i64 n13, .string s14, .slice a15 l15 c15, .slice a16 l16 c16] 34) := ⟨_, rfl⟩
  have HB1 : Hid (Below w.heap.size w W1) := by rw [hW1]; exact Lib.hid ((Below.refl _ _).alloc (Nat.le_refl _) _)
  have HC : Hid (W1.cell? ⟨w.heap.size, 0, none⟩ = some (.string s0) ∧ W1.cell? ⟨w.heap.size, 2, none⟩ = some (.int .i64 ex)) := by
    have hc := alloc_at w (.cells #[.string s0, .int .i64 n1, .int .i64 ex, .slice a3 l3 c3, .slice a4 l4 c4, .slice a5 l5 c5, .bool y6, .slice a7 l7 c7, .bool y8, .slice a9 l9 c9, .bool y10, .slice a11 l11 c11, .int .i64 n12, .int .i64 n13, .string s14, .slice a15 l15 c15, .slice a16 l16 c16] 34)
    rw [← hW1] at hc
    refine ⟨?_, ?_⟩ <;> simp [World.cell?, hc]
  have HW1 := Lib.hid hW1
  clear hW1
  go_enter Tryz.func16, Tryz.ntmps16
  go_upto_region 1 with (fail)
  rw [← HW1.out]
  obtain ⟨q0, q2⟩ := HC.out
  go_region_with (first | (go_at_call 43; refine (HK.out _).mono ?_; rintro e w2 ⟨rfl, rfl⟩))
  all_goals (go_wp2_with (fail); go_ret2; exact ⟨rfl, HB1.out.drew⟩)
end Go.Proofs.YthafpdceknleiaaGreatDoor
