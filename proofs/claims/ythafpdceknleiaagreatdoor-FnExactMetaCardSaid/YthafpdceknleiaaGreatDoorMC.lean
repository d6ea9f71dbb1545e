/- laws.little, laws.few: that they answer. -/
import Derived.Test.YthafpdceknleiaaGreatDoorM4
open Go Go.RowKit
namespace Go.Proofs.YthafpdceknleiaaGreatDoor
set_option maxRecDepth 100000 in
set_option maxHeartbeats 8000000 in
theorem little_some {s0 : ByteArray} {n1 n3 : Int} {ao : Option Addr} {n c : Nat} {l : List (ByteArray × List UInt8)} {w : World} (h : HsR w (.slice ao n c) l) :
    Calls Tryz.prog 21 #[.agg #[.string s0, .int .i64 n1, .slice ao n c, .int .i64 n3]] w (SomeB w) := by
  have hn : n = l.length ∧ n ≤ maxLen := by
    rcases h with ⟨h1, h2⟩ | ⟨a, c', h1, h2, h3, _⟩
    · injection h1 with _ h1 _; rw [h2, h1]; exact ⟨rfl, by decide⟩
    · injection h1 with _ h1 _; rw [h1]; exact ⟨rfl, by omega⟩
  have hnm := hn.2
  unfold maxLen at hnm
  have HSR := Lib.hid h
  have HNL := Lib.hid hn.1
  obtain ⟨z0, hz0⟩ : ∃ z, s0.size = z := ⟨_, rfl⟩
  obtain ⟨W1, hW1⟩ : ∃ W1, W1 = w.alloc (.cells #[.string s0, .int .i64 n1, .slice ao n c, .int .i64 n3] 54) := ⟨_, rfl⟩
  have HB1 : Hid (Below w.heap.size w W1) := by rw [hW1]; exact Lib.hid ((Below.refl _ _).alloc (Nat.le_refl _) _)
  have HS1 : Hid (W1.heap.size = w.heap.size + 1) := by rw [hW1, World.size_alloc]; exact Lib.hid rfl
  have HC : Hid (∀ W, Below (w.heap.size + 1) W1 W → W.cell? ⟨w.heap.size, 0, none⟩ = some (.string s0) ∧ W.cell? ⟨w.heap.size, 2, none⟩ = some (.slice ao n c)) := by
    intro W hb
    have hc := alloc_at w (.cells #[.string s0, .int .i64 n1, .slice ao n c, .int .i64 n3] 54)
    rw [← hW1, ← hb.block _ (by omega)] at hc
    refine ⟨?_, ?_⟩ <;> simp [World.cell?, hc]
  have HW1 := Lib.hid hW1
  clear h hn hW1
  go_enter Tryz.func21, Tryz.ntmps21
  go_upto_region 1 with (fail)
  rw [← HW1.out]
  obtain ⟨q0, q2⟩ := HC.out W1 (Below.refl _ _)
  by_cases g1 : 8 < n
  · have e1 : decide ((8 : Int) < (n : Int)) = true := decide_eq_true (by omega)
    go_wp2_with (fail)
    go_ret
    exact ⟨_, rfl, HB1.out⟩
  · have e1 : decide ((8 : Int) < (n : Int)) = false := decide_eq_false (by omega)
    by_cases g2 : 200 < z0
    · have e2 : decide ((200 : Int) < (z0 : Int)) = true := decide_eq_true (by omega)
      go_wp2_with (fail)
      go_ret
      exact ⟨_, rfl, HB1.out⟩
    · have e2 : decide ((200 : Int) < (z0 : Int)) = false := decide_eq_false (by omega)
      go_wp2_with (fail)
      have hn8 : n ≤ 8 := by omega
      clear e1 e2 g1 g2 q0 q2 hz0
      go_loopw [18] (fun i wr => ∃ j : Nat, i = .int .i64 j ∧ j ≤ n ∧ Hid (Below w.heap.size w wr) ) (fun i _ => n - (intOf i).toNat)
      case atStart => exact ⟨0, rfl, Nat.zero_le _, HB1⟩
      case round =>
        obtain ⟨j, rfl, hj, HBR⟩ := hrel
        by_cases hlt : j < n
        · have j1 : decide ((j : Int) < (n : Int)) = true := decide_eq_true (by omega)
          obtain ⟨a, x, ao', n', cp', rfl, hx, e0, hx0, e1, hx1⟩ : ∃ (a : Addr) (x : ByteArray × List UInt8) (ao' : Option Addr) (n' cp' : Nat), ao = some a ∧ l[j]? = some x ∧ wr.cell? (a.add (j * 2)) = some (.string x.1) ∧ x.1.size ≤ 140737488351232 ∧ wr.cell? ⟨(a.add (j * 2)).block, (a.add (j * 2)).off + 1, none⟩ = some (.slice ao' n' cp') ∧ BSrc wr (.slice ao' n' cp') x.2 := by
            rcases (HSR.out.stay HBR.out) with ⟨h1, h2⟩ | ⟨a, c', h1, _, _, h3⟩
            · have := HNL.out; rw [h2] at this; simp at this; omega
            · injection h1 with h1 _ _
              obtain ⟨x, hx⟩ : ∃ x, l[j]? = some x := ⟨_, List.getElem?_eq_getElem (by rw [← HNL.out]; exact hlt)⟩
              obtain ⟨g1, g2, ao', n', cp', g3, g4⟩ := h3 j x hx
              exact ⟨a, x, ao', n', cp', h1, hx, g1, g2, g3, g4⟩
          obtain ⟨id, s⟩ := x
          change _ = some (Value.string id) at e0
          change BSrc wr _ s at hx1
          have hns : n' = s.length := by
            rcases hx1 with ⟨h1, h2⟩ | ⟨ad, cp, h1, _⟩
            · injection h1 with _ h1 _; rw [h1]; show 0 = s.length; rw [show s = [] from h2]; rfl
            · injection h1
          subst hns
          obtain ⟨m, hm⟩ : ∃ m, m = s.length := ⟨_, rfl⟩
          rw [← hm] at e1
          obtain ⟨z, hz⟩ : ∃ z, z = id.size := ⟨_, rfl⟩
          have hzz := hz.symm
          obtain ⟨Wb, hWb⟩ : ∃ Wb, Wb = (wr.alloc (.cells #[.string id, .slice ao' m cp'] 50)) := ⟨_, rfl⟩
          have HBWB : Hid (Below w.heap.size w Wb) := by rw [hWb]; exact Lib.hid (HBR.out.alloc HBR.out.size _)
          have HCB : Hid (Wb.cell? ⟨wr.heap.size, 0, none⟩ = some (.string id) ∧ Wb.cell? ⟨wr.heap.size, 1, none⟩ = some (.slice ao' m cp')) := by
            have hc := alloc_at wr (.cells #[.string id, .slice ao' m cp'] 50)
            rw [← hWb] at hc
            refine ⟨?_, ?_⟩ <;> simp [World.cell?, hc]
          have HWE := Lib.hid hWb
          clear hx hx0 hx1 hm hz hWb
          go_upto_region 6 with (fail)
          rw [← HWE.out]
          clear e0 e1
          obtain ⟨f0, f1⟩ := HCB.out
          by_cases hbig : (300 : Int) < wrap64 ((z : Int) + (m : Int))
          · have d1 : decide ((300 : Int) < wrap64 ((z : Int) + (m : Int))) = true := decide_eq_true hbig
            clear hbig
            go_wp2_with (fail)
            go_ret
            exact ⟨_, rfl, HBWB.out⟩
          · have d1 : decide ((300 : Int) < wrap64 ((z : Int) + (m : Int))) = false := decide_eq_false hbig
            clear hbig
            go_wp2_with (fail)
            go_roundw
            case rel => exact ⟨j + 1, by go_num, by omega, HBWB⟩
            case measure => simp [intOf]; omega
        · have j1 : decide ((j : Int) < (n : Int)) = false := decide_eq_false (by omega)
          go_wp2_with (fail)
          go_ret
          exact ⟨_, rfl, HBR.out⟩
set_option maxRecDepth 100000 in
set_option maxHeartbeats 8000000 in
theorem few_some {s0 : ByteArray} {n2 : Int} {y3 : Bool} {a1 a4 a5 : Option Addr} {l1 c1 l4 c4 l5 c5 : Nat} {w : World} (h1 : ∃ l, StrR w (.slice a1 l1 c1) l) (h4 : ∃ l, StrR w (.slice a4 l4 c4) l) (h5 : ∃ l, StrR w (.slice a5 l5 c5) l) :
    Calls Tryz.prog 42 #[.agg #[.string s0, .slice a1 l1 c1, .int .i64 n2, .bool y3, .slice a4 l4 c4, .slice a5 l5 c5]] w (SomeB w) := by
  obtain ⟨k1, h1⟩ := h1
  obtain ⟨k4, h4⟩ := h4
  obtain ⟨k5, h5⟩ := h5
  obtain ⟨B, hB⟩ : ∃ B, B = w.heap.size := ⟨_, rfl⟩
  obtain ⟨W1, hW1⟩ : ∃ W1, W1 = w.alloc (.cells #[.string s0, .slice a1 l1 c1, .int .i64 n2, .bool y3, .slice a4 l4 c4, .slice a5 l5 c5] 98) := ⟨_, rfl⟩
  have hb1 : Below w.heap.size w W1 := by rw [hW1]; exact (Below.refl _ _).alloc (Nat.le_refl _) _
  have HB1 := Lib.hid hb1
  have HS1 : Hid (W1.heap.size = B + 1) := by rw [hW1, World.size_alloc, hB]; exact Lib.hid rfl
  have HC : Hid (∀ W, Below W1.heap.size W1 W → W.cell? ⟨B, 0, none⟩ = some (.string s0) ∧ W.cell? ⟨B, 1, none⟩ = some (.slice a1 l1 c1) ∧ W.cell? ⟨B, 4, none⟩ = some (.slice a4 l4 c4) ∧ W.cell? ⟨B, 5, none⟩ = some (.slice a5 l5 c5)) := by
    intro W hb
    have hc := alloc_at w (.cells #[.string s0, .slice a1 l1 c1, .int .i64 n2, .bool y3, .slice a4 l4 c4, .slice a5 l5 c5] 98)
    rw [← hB, ← hW1, ← hb.block _ (by rw [HS1.out]; omega)] at hc
    refine ⟨?_, ?_, ?_, ?_⟩ <;> simp [World.cell?, hc]
  obtain ⟨W2, hW2⟩ : ∃ W2, W2 = W1.alloc (.cells #[.string s0] 9) := ⟨_, rfl⟩
  have HB2 : Hid (Below W1.heap.size W1 W2) := by rw [hW2]; exact Lib.hid ((Below.refl _ _).alloc (Nat.le_refl _) _)
  have hb2 : Below w.heap.size w W2 := hb1.trans (HB2.out.mono hb1.size)
  have HBW := Lib.hid hb2
  have sh : ∀ {ao : Option Addr} {n c : Nat} {l : List ByteArray}, StrR w (.slice ao n c) l → n ≤ 40 → Calls Tryz.prog 41 #[.int .i64 200, .slice ao n c] W2 fun e w' => (∃ b, e = .returned (.bool b)) ∧ w' = W2 := fun {ao n c l} h hn => by
    obtain ⟨g1, g2⟩ := txtR_of (h.stay hb2)
    subst g2
    exact (shortL_any g1 (by omega)).mono fun _ _ ⟨⟨b, g3, _⟩, g4⟩ => ⟨⟨b, g3⟩, g4⟩
  have H0 : Hid (Calls Tryz.prog 41 #[.int .i64 200, .slice (some ⟨W1.heap.size, 0, none⟩) 1 1] W2 fun e w' => (∃ b, e = .returned (.bool b)) ∧ w' = W2) := by
    refine Lib.hid ((shortL_any (l := [s0]) (ao := some ⟨W1.heap.size, 0, none⟩) (cp := 1) (fun j s hj => ⟨_, rfl, ?_⟩) (by simp)).mono fun _ _ ⟨⟨b, g3, _⟩, g4⟩ => ⟨⟨b, g3⟩, g4⟩)
    have hc := alloc_at W1 (.cells #[.string s0] 9)
    rw [← hW2] at hc
    match j, hj with
    | 0, hj => cases hj; simp [World.cell?, Addr.add, hc]
    | j + 1, hj => cases hj
  have HW1 := Lib.hid hW1
  have HW2 := Lib.hid hW2
  have HBS := Lib.hid hB
  by_cases e1 : l1 ≤ 40
  · by_cases e4 : l4 ≤ 20
    · by_cases e5 : l5 ≤ 20
      · have H1 := Lib.hid (sh h1 e1)
        have H4 := Lib.hid (sh h4 (by omega))
        have H5 := Lib.hid (sh h5 (by omega))
        have d1 : decide ((l1 : Int) ≤ 40) = true := decide_eq_true (by omega)
        have d4 : decide ((l4 : Int) ≤ 20) = true := decide_eq_true (by omega)
        have d5 : decide ((l5 : Int) ≤ 20) = true := decide_eq_true (by omega)
        clear sh h1 h4 h5 e1 e4 e5 hW1 hW2 hB hb1 hb2
        go_enter Tryz.func42, Tryz.ntmps42
        go_upto_region 1 with (fail)
        rw [← HW1.out, ← HBS.out]
        obtain ⟨q0, q1, q4, q5⟩ := HC.out W1 (Below.refl _ _)
        go_wp2_with (first
          | (rw [← HW2.out]; go_at_call 41; refine H0.out.mono ?_; rintro e w' ⟨⟨b, rfl⟩, rfl⟩
             clear H0 q0 q1 q4 q5
             obtain ⟨q0, q1, q4, q5⟩ := HC.out w' HB2.out
             cases b)
          | (go_at_call 41; refine H1.out.mono ?_; rintro e w' ⟨⟨b, rfl⟩, rfl⟩; clear H1; cases b)
          | (go_at_call 41; refine H4.out.mono ?_; rintro e w' ⟨⟨b, rfl⟩, rfl⟩; clear H4; cases b)
          | (go_at_call 41; refine H5.out.mono ?_; rintro e w' ⟨⟨b, rfl⟩, rfl⟩; clear H5; cases b))
        all_goals (go_ret; exact ⟨_, rfl, HBW.out⟩)
      · have d1 : decide ((l1 : Int) ≤ 40) = true := decide_eq_true (by omega)
        have d4 : decide ((l4 : Int) ≤ 20) = true := decide_eq_true (by omega)
        have d5 : decide ((l5 : Int) ≤ 20) = false := decide_eq_false (by omega)
        clear sh h1 h4 h5 e1 e4 e5 hW1 hW2 hB hb1 hb2 H0
        go_enter Tryz.func42, Tryz.ntmps42
        go_upto_region 1 with (fail)
        rw [← HW1.out, ← HBS.out]
        obtain ⟨q0, q1, q4, q5⟩ := HC.out W1 (Below.refl _ _)
        go_wp2_with (fail)
        go_ret
        exact ⟨_, rfl, HB1.out⟩
    · have d1 : decide ((l1 : Int) ≤ 40) = true := decide_eq_true (by omega)
      have d4 : decide ((l4 : Int) ≤ 20) = false := decide_eq_false (by omega)
      clear sh h1 h4 h5 e1 e4 hW1 hW2 hB hb1 hb2 H0
      go_enter Tryz.func42, Tryz.ntmps42
      go_upto_region 1 with (fail)
      rw [← HW1.out, ← HBS.out]
      obtain ⟨q0, q1, q4, q5⟩ := HC.out W1 (Below.refl _ _)
      go_wp2_with (fail)
      go_ret
      exact ⟨_, rfl, HB1.out⟩
  · have d1 : decide ((l1 : Int) ≤ 40) = false := decide_eq_false (by omega)
    clear sh h1 h4 h5 e1 hW1 hW2 hB hb1 hb2 H0
    go_enter Tryz.func42, Tryz.ntmps42
    go_upto_region 1 with (fail)
    rw [← HW1.out, ← HBS.out]
    obtain ⟨q0, q1, q4, q5⟩ := HC.out W1 (Below.refl _ _)
    go_wp2_with (fail)
    go_ret
    exact ⟨_, rfl, HB1.out⟩
end Go.Proofs.YthafpdceknleiaaGreatDoor
