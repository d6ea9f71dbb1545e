/- laws.short, laws.little: that they answer. -/
import Derived.Test.YthafpdceknleiaaGreatDoorU2
import Derived.Test.YthafpdceknleiaaGreatDoorU5
import Derived.Test.YthafpdceknleiaaGreatDoorH6
open Go Go.RowKit
namespace Go.Proofs.YthafpdceknleiaaGreatDoor
set_option maxRecDepth 100000 in
set_option maxHeartbeats 4000000 in
theorem shortL_any {l : List ByteArray} {ao : Option Addr} {cp : Nat} {w : World} (hc : TxtR w ao l) (hl : l.length ≤ 2147483648) :
    Calls Tryz.prog 41 #[.int .i64 200, .slice ao l.length cp] w fun e w' => (∃ b, e = .returned (.bool b) ∧ (b = true → ∀ s ∈ l, s.size ≤ 200)) ∧ w' = w := by
  have HC := Lib.hid hc
  clear hc
  go_enter Tryz.func41, Tryz.ntmps41
  go_wp2_with (fail)
  go_loopw [9] (fun i wr => ∃ k : Nat, k ≤ l.length ∧ i = .int .i64 k ∧ wr = w ∧ Hid (∀ s ∈ l.take k, s.size ≤ 200)) (fun i _ => l.length - (intOf i).toNat)
  case atStart => exact ⟨0, Nat.zero_le _, rfl, rfl, (fun s hs => by simp at hs)⟩
  case round =>
    obtain ⟨k, hk, rfl, rfl, HK⟩ := hrel
    by_cases hlt : k < l.length
    · obtain ⟨x, hx⟩ : ∃ x, l[k]? = some x := ⟨_, List.getElem?_eq_getElem hlt⟩
      obtain ⟨a, rfl, c0⟩ := HC.out k x hx
      have HX := Lib.hid hx
      obtain ⟨z, hz⟩ : ∃ z, x.size = z := ⟨_, rfl⟩
      have HZ := Lib.hid hz
      clear hx
      by_cases he : 200 < z
      · have i1 : decide ((200 : Int) < (z : Int)) = true := decide_eq_true (by omega)
        go_wp2_with (fail)
        go_ret
        exact ⟨⟨false, rfl, fun h => by cases h⟩, rfl⟩
      · have i1 : decide ((200 : Int) < (z : Int)) = false := decide_eq_false (by omega)
        have HK2 : Hid (∀ s ∈ l.take (k + 1), s.size ≤ 200) := fun s hs => by
          rw [List.take_add_one, HX.out] at hs
          rcases List.mem_append.1 hs with h | h
          · exact HK.out s h
          · have : s = x := by simpa using h
            rw [this, HZ.out]; omega
        go_wp2_with (fail)
        go_roundw
        case rel => exact ⟨k + 1, by omega, by go_num, trivial, HK2⟩
        case measure => simp [intOf]; omega
    · have HD : Hid (∀ s ∈ l, s.size ≤ 200) := fun s hs => HK.out s (by rw [List.take_of_length_le (by omega)]; exact hs)
      go_wp2_with (fail)
      go_ret
      exact ⟨⟨true, rfl, fun _ => HD.out⟩, rfl⟩
theorem txtR_of {w : World} {ao : Option Addr} {n c : Nat} {l : List ByteArray} (h : StrR w (.slice ao n c) l) : TxtR w ao l ∧ n = l.length := by
  rcases h with ⟨h1, rfl⟩ | ⟨a, cap, h1, _, _, h2⟩
  · injection h1 with h1 h3 _
    exact ⟨(fun j s hj => by cases hj), h3⟩
  · injection h1 with h1 h3 _
    exact ⟨fun j s hj => ⟨a, h1, (h2 j s hj).1⟩, h3⟩
/-- What little tells. -/
def LittleP (l : List (ByteArray × List UInt8)) (w : World) (e : Ending) (w' : World) : Prop := Below w.heap.size w w' ∧ ∃ b, e = .returned (.bool b) ∧ (b = true → l.length ≤ 8 ∧ ∀ x ∈ l, x.2.length ≤ 300)
set_option maxRecDepth 100000 in
set_option maxHeartbeats 8000000 in
theorem little_any {s0 : ByteArray} {n1 n3 : Int} {ao : Option Addr} {n c : Nat} {l : List (ByteArray × List UInt8)} {w : World} (h : HsR w (.slice ao n c) l) (hss : ∀ x ∈ l, x.2.length ≤ 140737488351232) :
    Calls Tryz.prog 21 #[.agg #[.string s0, .int .i64 n1, .slice ao n c, .int .i64 n3]] w (LittleP l w) := by
  have hn : n = l.length ∧ n ≤ maxLen := by
    rcases h with ⟨h1, h2⟩ | ⟨a, c', h1, h2, h3, _⟩
    · injection h1 with _ h1 _; rw [h2, h1]; exact ⟨rfl, by decide⟩
    · injection h1 with _ h1 _; rw [h1]; exact ⟨rfl, by omega⟩
  have hnm := hn.2
  unfold maxLen at hnm
  have HSR := Lib.hid h
  have HNL := Lib.hid hn.1
  have HSS := Lib.hid hss
  obtain ⟨z0, hz0⟩ : ∃ z, s0.size = z := ⟨_, rfl⟩
  obtain ⟨W1, hW1⟩ : ∃ W1, W1 = w.alloc (.cells #[.string s0, .int .i64 n1, .slice ao n c, .int .i64 n3] 54) := ⟨_, rfl⟩
  have HB1 : Hid (Below w.heap.size w W1) := by rw [hW1]; exact Lib.hid ((Below.refl _ _).alloc (Nat.le_refl _) _)
  have HS1 : Hid (W1.heap.size = w.heap.size + 1) := by rw [hW1, World.size_alloc]; exact Lib.hid rfl
  have HC : Hid (∀ W, Below (w.heap.size + 1) W1 W → W.cell? ⟨w.heap.size, 0, none⟩ = some (.string s0) ∧ W.cell? ⟨w.heap.size, 2, none⟩ = some (.slice ao n c)) := by
    intro W hb
    have hc := alloc_at w (.cells #[.string s0, .int .i64 n1, .slice ao n c, .int .i64 n3] 54)
    rw [← hW1, ← hb.block _ (by omega)] at hc
    refine ⟨?_, ?_⟩ <;> simp [World.cell?, hc]
  have HW1 := Lib.hid hW1
  clear h hn hss hW1
  go_enter Tryz.func21, Tryz.ntmps21
  go_upto_region 1 with (fail)
  rw [← HW1.out]
  obtain ⟨q0, q2⟩ := HC.out W1 (Below.refl _ _)
  by_cases g1 : 8 < n
  · have e1 : decide ((8 : Int) < (n : Int)) = true := decide_eq_true (by omega)
    go_wp2_with (fail)
    go_ret
    exact ⟨HB1.out, false, rfl, fun h => by cases h⟩
  · have e1 : decide ((8 : Int) < (n : Int)) = false := decide_eq_false (by omega)
    by_cases g2 : 200 < z0
    · have e2 : decide ((200 : Int) < (z0 : Int)) = true := decide_eq_true (by omega)
      go_wp2_with (fail)
      go_ret
      exact ⟨HB1.out, false, rfl, fun h => by cases h⟩
    · have e2 : decide ((200 : Int) < (z0 : Int)) = false := decide_eq_false (by omega)
      go_wp2_with (fail)
      have hn8 : n ≤ 8 := by omega
      clear e1 e2 g1 g2 q0 q2 hz0
      go_loopw [18] (fun i wr => ∃ j : Nat, i = .int .i64 j ∧ j ≤ n ∧ Hid (Below w.heap.size w wr) ∧ Hid (∀ x ∈ l.take j, x.2.length ≤ 300)) (fun i _ => n - (intOf i).toNat)
      case atStart => exact ⟨0, rfl, Nat.zero_le _, HB1, fun x hx => by simp at hx⟩
      case round =>
        obtain ⟨j, rfl, hj, HBR, HA⟩ := hrel
        by_cases hlt : j < n
        · have j1 : decide ((j : Int) < (n : Int)) = true := decide_eq_true (by omega)
          obtain ⟨a, x, ao', n', cp', rfl, hx, e0, hx0, e1, hx1⟩ : ∃ (a : Addr) (x : ByteArray × List UInt8) (ao' : Option Addr) (n' cp' : Nat), ao = some a ∧ l[j]? = some x ∧ wr.cell? (a.add (j * 2)) = some (.string x.1) ∧ x.1.size ≤ 140737488351232 ∧ wr.cell? ⟨(a.add (j * 2)).block, (a.add (j * 2)).off + 1, none⟩ = some (.slice ao' n' cp') ∧ BSrc wr (.slice ao' n' cp') x.2 := by
            rcases (HSR.out.stay HBR.out) with ⟨h1, h2⟩ | ⟨a, c', h1, _, _, h3⟩
            · have := HNL.out; rw [h2] at this; simp at this; omega
            · injection h1 with h1 _ _
              obtain ⟨x, hx⟩ : ∃ x, l[j]? = some x := ⟨_, List.getElem?_eq_getElem (by rw [← HNL.out]; exact hlt)⟩
              obtain ⟨g1, g2, ao', n', cp', g3, g4⟩ := h3 j x hx
              exact ⟨a, x, ao', n', cp', h1, hx, g1, g2, g3, g4⟩
          obtain ⟨id, s⟩ := x
          change _ = some (Value.string id) at e0
          change BSrc wr _ s at hx1
          have hns : n' = s.length := by
            rcases hx1 with ⟨h1, h2⟩ | ⟨ad, cp, h1, _⟩
            · injection h1 with _ h1 _; rw [h1]; show 0 = s.length; rw [show s = [] from h2]; rfl
            · injection h1
          have hsm : s.length ≤ 140737488351232 := HSS.out _ (List.mem_of_getElem? hx)
          subst hns
          have HX := Lib.hid hx
          obtain ⟨m, hm⟩ : ∃ m, m = s.length := ⟨_, rfl⟩
          rw [← hm] at e1 hsm
          have HM := Lib.hid hm
          have hx2 : id.size ≤ 140737488351232 := hx0
          obtain ⟨z, hz⟩ : ∃ z, z = id.size := ⟨_, rfl⟩
          rw [← hz] at hx2
          have hzz := hz.symm
          have HWR : Hid (wrap64 ((z : Int) + (m : Int)) = (z : Int) + (m : Int)) := Lib.hid (by unfold wrap64; omega)
          obtain ⟨Wb, hWb⟩ : ∃ Wb, Wb = (wr.alloc (.cells #[.string id, .slice ao' m cp'] 50)) := ⟨_, rfl⟩
          have HBWB : Hid (Below w.heap.size w Wb) := by rw [hWb]; exact Lib.hid (HBR.out.alloc HBR.out.size _)
          have HCB : Hid (Wb.cell? ⟨wr.heap.size, 0, none⟩ = some (.string id) ∧ Wb.cell? ⟨wr.heap.size, 1, none⟩ = some (.slice ao' m cp')) := by
            have hc := alloc_at wr (.cells #[.string id, .slice ao' m cp'] 50)
            rw [← hWb] at hc
            refine ⟨?_, ?_⟩ <;> simp [World.cell?, hc]
          have HWE := Lib.hid hWb
          clear hx hx0 hx1 hm hz hWb
          go_upto_region 6 with (fail)
          rw [← HWE.out]
          clear e0 e1
          obtain ⟨f0, f1⟩ := HCB.out
          by_cases hbig : 300 < z + m
          · have d1 : decide ((300 : Int) < wrap64 ((z : Int) + (m : Int))) = true := decide_eq_true (by rw [HWR.out]; omega)
            go_wp2_with (fail)
            go_ret
            exact ⟨HBWB.out, false, rfl, fun h => by cases h⟩
          · have d1 : decide ((300 : Int) < wrap64 ((z : Int) + (m : Int))) = false := decide_eq_false (by rw [HWR.out]; omega)
            have HA2 : Hid (∀ x ∈ l.take (j + 1), x.2.length ≤ 300) := fun x hx => by
              rw [List.take_add_one, HX.out] at hx
              rcases List.mem_append.1 hx with h | h
              · exact HA.out x h
              · have : x = (id, s) := by simpa using h
                rw [this]
                show s.length ≤ 300
                rw [← HM.out]; omega
            go_wp2_with (fail)
            go_roundw
            case rel => exact ⟨j + 1, by go_num, by omega, HBWB, HA2⟩
            case measure => simp [intOf]; omega
        · have j1 : decide ((j : Int) < (n : Int)) = false := decide_eq_false (by omega)
          have HEN : Hid (l.length ≤ 8 ∧ ∀ x ∈ l, x.2.length ≤ 300) := ⟨by rw [← HNL.out]; exact hn8, fun x hx => HA.out x (by rw [List.take_of_length_le (by rw [← HNL.out]; omega)]; exact hx)⟩
          go_wp2_with (fail)
          go_ret
          exact ⟨HBR.out, true, rfl, fun _ => HEN.out⟩
end Go.Proofs.YthafpdceknleiaaGreatDoor
