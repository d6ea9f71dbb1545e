/- laws.whole at a number, at a leaf. laws.whole at what is no number. -/
import Derived.Test.YtjganhmbjffjfaaGreatDoorZ0
import Derived.Test.YtjganhmbjffjfaaGreatDoorFH
import Derived.Test.YtjganhmbjffjfaaGreatDoorY6
open Go Go.RowKit
namespace Go.Proofs.YtjganhmbjffjfaaGreatDoor
/-- Digits, at most 15. -/
def Dig15 (d : ByteArray) : Prop := (∀ c ∈ d.data.toList, 48 ≤ c.toNat ∧ c.toNat ≤ 57) ∧ d.size ≤ 15
/-- What whole asks of a number. -/
def NumW (x : ByteArray) : Prop := ((∀ h : 0 < x.size, x[0].toNat ≠ 45) ∧ Dig15 x) ∨ ((∃ h : 0 < x.size, x[0].toNat = 45) ∧ Dig15 (x.extract 1 x.size))
def WhN (x : ByteArray) (w : World) (e : Ending) (w' : World) : Prop := ∃ b : Bool, e = .returned (.bool b) ∧ Below w.heap.size w w' ∧ (b = true → NumW x)
theorem dig_step {d : ByteArray} {j : Nat} (h : ∀ c ∈ d.data.toList.take j, 48 ≤ c.toNat ∧ c.toNat ≤ 57) (hj : j < d.size) (h1 : 48 ≤ d[j].toNat ∧ d[j].toNat ≤ 57) : ∀ c ∈ d.data.toList.take (j + 1), 48 ≤ c.toNat ∧ c.toNat ≤ 57 := by
  intro c hc
  rw [List.take_add_one] at hc
  rcases List.mem_append.1 hc with hc | hc
  · exact h c hc
  · have e : d.data.toList[j]? = some d[j] := by
      rw [Array.getElem?_toList]
      exact Array.getElem?_eq_getElem hj
    rw [e, Option.toList_some, List.mem_singleton] at hc
    rw [hc]; exact h1
set_option maxRecDepth 100000 in
set_option maxHeartbeats 8000000 in
theorem whole_num {k x : ByteArray} (hk : k.toList = [110, 117, 109, 98, 101, 114]) (hx : x.size ≤ 200) {k1 l1 : Option Addr} {k2 k3 l2 l3 : Nat} (w : World) : Calls Tryz.prog 11 #[.agg #[.string k, .string x, .slice k1 k2 k3, .slice l1 l2 l3]] w (WhN x w) := by
  have p3 : (k.toList == [110, 117, 109, 98, 101, 114]) = true := by simpa using hk
  obtain ⟨W1, hW1⟩ : ∃ W1, W1 = w.alloc (.cells #[.string k, .string x, .slice k1 k2 k3, .slice l1 l2 l3] 25) := ⟨_, rfl⟩
  have HB1 : Hid (Below w.heap.size w W1) := by rw [hW1]; exact Lib.hid ((Below.refl _ _).alloc (Nat.le_refl _) _)
  have HC : Hid (W1.cell? ⟨w.heap.size, 0, none⟩ = some (.string k) ∧ W1.cell? ⟨w.heap.size, 1, none⟩ = some (.string x)) := by
    have hc := alloc_at w (.cells #[.string k, .string x, .slice k1 k2 k3, .slice l1 l2 l3] 25)
    rw [← hW1] at hc
    exact Lib.hid (by constructor <;> simp [World.cell?, hc])
  have HW := Lib.hid hW1
  clear hk hW1
  by_cases h0 : 0 < x.size
  · have g0 : decide ((0 : Int) < (x.size : Int)) = true := decide_eq_true (by omega)
    by_cases h45 : x[0].toNat = 45
    · have q0 : ((x[0].toNat : Int) == 45) = true := by simp; omega
      have hd1 : (x.extract 1 x.size).size = x.size - 1 := by rw [ByteArray.size_extract]; omega
      have HNW : Hid (Dig15 (x.extract 1 x.size) → NumW x) := Lib.hid fun h => .inr ⟨⟨h0, h45⟩, h⟩
      go_enter Tryz.func11, Tryz.ntmps11
      go_upto_region 5 with (fail)
      rw [← HW.out]
      obtain ⟨c0, c1⟩ := HC.out
      go_wp2_with (fail)
      go_loopw [4] (fun i wr => ∃ j : Nat, i = .int .i64 j ∧ j ≤ (x.extract 1 x.size).size ∧ wr = W1 ∧ Hid (∀ c ∈ (x.extract 1 x.size).data.toList.take j, 48 ≤ c.toNat ∧ c.toNat ≤ 57)) (fun i _ => (x.extract 1 x.size).size - (intOf i).toNat)
      case atStart => exact ⟨0, rfl, Nat.zero_le _, rfl, Lib.hid fun c hc => by cases hc⟩
      case round =>
        obtain ⟨j, rfl, hj, rfl, HJ⟩ := hrel
        by_cases hlt : j < (x.extract 1 x.size).size
        · have j1 : decide ((j : Int) < ((x.extract 1 x.size).size : Int)) = true := decide_eq_true (by omega)
          by_cases d1 : 48 ≤ (x.extract 1 x.size)[j].toNat ∧ (x.extract 1 x.size)[j].toNat ≤ 57
          · have d2 : decide (((x.extract 1 x.size)[j].toNat : Int) < 48) = false := decide_eq_false (by omega)
            have d3 : decide ((57 : Int) < ((x.extract 1 x.size)[j].toNat : Int)) = false := decide_eq_false (by omega)
            have HJ1 := Lib.hid (dig_step HJ.out hlt d1)
            go_wp2_with (fail)
            go_roundw
            case rel => exact ⟨j + 1, by go_num, by omega, trivial, HJ1⟩
            case measure => simp [intOf]; omega
          · go_wp2_with (fail)
            all_goals (try (exfalso; omega))
            all_goals (go_ret; exact ⟨_, rfl, HB1.out, fun h => by simp at h⟩)
        · have j1 : decide ((j : Int) < ((x.extract 1 x.size).size : Int)) = false := decide_eq_false (by omega)
          have HA : Hid (∀ c ∈ (x.extract 1 x.size).data.toList, 48 ≤ c.toNat ∧ c.toNat ≤ 57) := by
            have h := HJ.out
            rw [List.take_of_length_le (by rw [← Lib.size_eq]; omega)] at h
            exact Lib.hid h
          by_cases h15 : (x.extract 1 x.size).size ≤ 15
          · have z1 : decide (((x.extract 1 x.size).size : Int) ≤ 15) = true := decide_eq_true (by omega)
            have HE := Lib.hid (HNW.out ⟨HA.out, h15⟩)
            go_wp2_with (fail)
            all_goals (go_ret; exact ⟨_, rfl, HB1.out, fun _ => HE.out⟩)
          · have z1 : decide (((x.extract 1 x.size).size : Int) ≤ 15) = false := decide_eq_false (by omega)
            go_wp2_with (fail)
            all_goals (go_ret; exact ⟨_, rfl, HB1.out, fun h => by simp at h⟩)
    · have q0 : ((x[0].toNat : Int) == 45) = false := by simp; omega
      have HNW : Hid (Dig15 x → NumW x) := Lib.hid fun h => .inl ⟨fun _ => h45, h⟩
      go_enter Tryz.func11, Tryz.ntmps11
      go_upto_region 5 with (fail)
      rw [← HW.out]
      obtain ⟨c0, c1⟩ := HC.out
      go_wp2_with (fail)
      go_loopw [4] (fun i wr => ∃ j : Nat, i = .int .i64 j ∧ j ≤ x.size ∧ wr = W1 ∧ Hid (∀ c ∈ x.data.toList.take j, 48 ≤ c.toNat ∧ c.toNat ≤ 57)) (fun i _ => x.size - (intOf i).toNat)
      case atStart => exact ⟨0, rfl, Nat.zero_le _, rfl, Lib.hid fun c hc => by cases hc⟩
      case round =>
        obtain ⟨j, rfl, hj, rfl, HJ⟩ := hrel
        by_cases hlt : j < x.size
        · have j1 : decide ((j : Int) < (x.size : Int)) = true := decide_eq_true (by omega)
          by_cases d1 : 48 ≤ x[j].toNat ∧ x[j].toNat ≤ 57
          · have d2 : decide ((x[j].toNat : Int) < 48) = false := decide_eq_false (by omega)
            have d3 : decide ((57 : Int) < (x[j].toNat : Int)) = false := decide_eq_false (by omega)
            have HJ1 := Lib.hid (dig_step HJ.out hlt d1)
            go_wp2_with (fail)
            go_roundw
            case rel => exact ⟨j + 1, by go_num, by omega, trivial, HJ1⟩
            case measure => simp [intOf]; omega
          · go_wp2_with (fail)
            all_goals (try (exfalso; omega))
            all_goals (go_ret; exact ⟨_, rfl, HB1.out, fun h => by simp at h⟩)
        · have j1 : decide ((j : Int) < (x.size : Int)) = false := decide_eq_false (by omega)
          have HA : Hid (∀ c ∈ x.data.toList, 48 ≤ c.toNat ∧ c.toNat ≤ 57) := by
            have h := HJ.out
            rw [List.take_of_length_le (by rw [← Lib.size_eq]; omega)] at h
            exact Lib.hid h
          by_cases h15 : x.size ≤ 15
          · have z1 : decide ((x.size : Int) ≤ 15) = true := decide_eq_true (by omega)
            have HE := Lib.hid (HNW.out ⟨HA.out, h15⟩)
            go_wp2_with (fail)
            all_goals (go_ret; exact ⟨_, rfl, HB1.out, fun _ => HE.out⟩)
          · have z1 : decide ((x.size : Int) ≤ 15) = false := decide_eq_false (by omega)
            go_wp2_with (fail)
            all_goals (go_ret; exact ⟨_, rfl, HB1.out, fun h => by simp at h⟩)
  · have g0 : decide ((0 : Int) < (x.size : Int)) = false := decide_eq_false (by omega)
    have HNW : Hid (Dig15 x → NumW x) := Lib.hid fun h => .inl ⟨fun h1 => absurd h1 h0, h⟩
    go_enter Tryz.func11, Tryz.ntmps11
    go_upto_region 5 with (fail)
    rw [← HW.out]
    obtain ⟨c0, c1⟩ := HC.out
    go_wp2_with (fail)
    go_loopw [4] (fun i wr => ∃ j : Nat, i = .int .i64 j ∧ j ≤ x.size ∧ wr = W1 ∧ Hid (∀ c ∈ x.data.toList.take j, 48 ≤ c.toNat ∧ c.toNat ≤ 57)) (fun i _ => x.size - (intOf i).toNat)
    case atStart => exact ⟨0, rfl, Nat.zero_le _, rfl, Lib.hid fun c hc => by cases hc⟩
    case round =>
      obtain ⟨j, rfl, hj, rfl, HJ⟩ := hrel
      by_cases hlt : j < x.size
      · have j1 : decide ((j : Int) < (x.size : Int)) = true := decide_eq_true (by omega)
        by_cases d1 : 48 ≤ x[j].toNat ∧ x[j].toNat ≤ 57
        · have d2 : decide ((x[j].toNat : Int) < 48) = false := decide_eq_false (by omega)
          have d3 : decide ((57 : Int) < (x[j].toNat : Int)) = false := decide_eq_false (by omega)
          have HJ1 := Lib.hid (dig_step HJ.out hlt d1)
          go_wp2_with (fail)
          go_roundw
          case rel => exact ⟨j + 1, by go_num, by omega, trivial, HJ1⟩
          case measure => simp [intOf]; omega
        · go_wp2_with (fail)
          all_goals (try (exfalso; omega))
          all_goals (go_ret; exact ⟨_, rfl, HB1.out, fun h => by simp at h⟩)
      · have j1 : decide ((j : Int) < (x.size : Int)) = false := decide_eq_false (by omega)
        have HA : Hid (∀ c ∈ x.data.toList, 48 ≤ c.toNat ∧ c.toNat ≤ 57) := by
          have h := HJ.out
          rw [List.take_of_length_le (by rw [← Lib.size_eq]; omega)] at h
          exact Lib.hid h
        by_cases h15 : x.size ≤ 15
        · have z1 : decide ((x.size : Int) ≤ 15) = true := decide_eq_true (by omega)
          have HE := Lib.hid (HNW.out ⟨HA.out, h15⟩)
          go_wp2_with (fail)
          all_goals (go_ret; exact ⟨_, rfl, HB1.out, fun _ => HE.out⟩)
        · have z1 : decide ((x.size : Int) ≤ 15) = false := decide_eq_false (by omega)
          go_wp2_with (fail)
          all_goals (go_ret; exact ⟨_, rfl, HB1.out, fun h => by simp at h⟩)
/-- What whole leaves: if it says true, G holds. -/
def WhP (G : Prop) (w : World) (e : Ending) (w' : World) : Prop := ∃ b : Bool, e = .returned (.bool b) ∧ Below w.heap.size w w' ∧ (b = true → G)
set_option maxRecDepth 100000 in
set_option maxHeartbeats 8000000 in
theorem whole_rest {k x : ByteArray} {l : List VT} {w : World} {lv : Value} {k1 : Option Addr} {k2 k3 : Nat} (G : Nat → Prop) (p5 p6 : Bool) (hk : ¬ k.toList = [110, 117, 109, 98, 101, 114]) (h5 : (k.toList == [108, 105, 115, 116]) = p5) (h6 : (k.toList == [111, 98, 106, 101, 99, 116]) = p6) (h : LR w lv l)
    (ih : (p5 || p6) = true → ∀ (j : Nat) (y : VT), l[j]? = some y → ∀ W v, VR W v y → Calls Tryz.prog 11 #[v] W (WhP (G j) W)) :
    Calls Tryz.prog 11 #[.agg #[.string k, .string x, .slice k1 k2 k3, lv]] w (WhP ((p5 || p6) = true → ∀ j, j < l.length → G j) w) := by
  have p3 : (k.toList == [110, 117, 109, 98, 101, 114]) = false := by simpa using hk
  obtain ⟨ao, c, rfl, hlen, hcell⟩ := lr_cells h
  obtain ⟨n, hnn⟩ : ∃ n, n = l.length := ⟨_, rfl⟩
  rw [← hnn] at hlen ⊢
  have HNN := Lib.hid hnn
  have HC := Lib.hid hcell
  have HIH := Lib.hid ih
  obtain ⟨W1, hW1⟩ : ∃ W1, W1 = w.alloc (.cells #[.string k, .string x, .slice k1 k2 k3, .slice ao n c] 25) := ⟨_, rfl⟩
  have HB1 : Hid (Below w.heap.size w W1) := by rw [hW1]; exact Lib.hid ((Below.refl _ _).alloc (Nat.le_refl _) _)
  have HS1 : Hid (W1.heap.size = w.heap.size + 1) := by rw [hW1, World.size_alloc]; exact Lib.hid rfl
  have HCB : Hid (∀ W, Below W1.heap.size W1 W → W.cell? ⟨w.heap.size, 0, none⟩ = some (.string k) ∧ W.cell? ⟨w.heap.size, 3, none⟩ = some (.slice ao n c)) := by
    intro W hb
    have hc : W.heap[w.heap.size]? = some (.cells #[.string k, .string x, .slice k1 k2 k3, .slice ao n c] 25 (0, 0)) := by
      rw [hb.block _ (by rw [HS1.out]; omega), hW1]; exact alloc_at _ _
    constructor <;> simp [World.cell?, hc]
  have HW := Lib.hid hW1
  clear h hnn hcell ih hk hW1
  go_enter Tryz.func11, Tryz.ntmps11
  go_upto_region 11 with (fail)
  rw [← HW.out]
  obtain ⟨c0, c3⟩ := HCB.out W1 (Below.refl _ _)
  go_wp2_with (fail)
  clear c0 c3
  go_loopw [49] (fun i wr => ∃ j : Nat, i = .int .i64 j ∧ j ≤ n ∧ Hid (Below W1.heap.size W1 wr) ∧ Hid ((p5 || p6) = true → ∀ i, i < j → G i)) (fun i _ => n - (intOf i).toNat)
  case atStart => exact ⟨0, rfl, Nat.zero_le _, Lib.hid (Below.refl _ _), Lib.hid fun _ i hi => by omega⟩
  case round =>
    obtain ⟨j, rfl, hj, HBR, HJ⟩ := hrel
    by_cases hlt : j < n
    · have j1 : decide ((j : Int) < (n : Int)) = true := decide_eq_true (by omega)
      obtain ⟨y, hy⟩ : ∃ y, l[j]? = some y := ⟨_, List.getElem?_eq_getElem (by rw [← HNN.out]; exact hlt)⟩
      have HBW : Hid (Below w.heap.size w wr) := Lib.hid (HB1.out.trans (HBR.out.mono HB1.out.size))
      obtain ⟨a, q1, q2, q3, r1, r2, r3, rfl, e0, e1, e2, e3, hvr⟩ := HC.out wr HBW.out j y hy
      obtain ⟨yk, hyk⟩ : ∃ yk, yk = y.kind := ⟨_, rfl⟩
      obtain ⟨yt, hyt⟩ : ∃ yt, yt = y.text := ⟨_, rfl⟩
      rw [← hyk] at e0 hvr
      rw [← hyt] at e1 hvr
      obtain ⟨W2, hW2⟩ : ∃ W2, W2 = wr.alloc (.cells #[.string yk, .string yt, .slice q1 q2 q3, .slice r1 r2 r3] 25) := ⟨_, rfl⟩
      have HB2 : Hid (Below wr.heap.size wr W2) := by rw [hW2]; exact Lib.hid ((Below.refl _ _).alloc (Nat.le_refl _) _)
      have HBR2 : Hid (Below W1.heap.size W1 W2) := Lib.hid (HBR.out.trans (HB2.out.mono HBR.out.size))
      have HC2 : Hid (W2.cell? ⟨wr.heap.size, 0, none⟩ = some (.string yk) ∧ W2.cell? ⟨wr.heap.size, 1, none⟩ = some (.string yt) ∧ W2.cell? ⟨wr.heap.size, 2, none⟩ = some (.slice q1 q2 q3) ∧ W2.cell? ⟨wr.heap.size, 3, none⟩ = some (.slice r1 r2 r3)) := by
        have hc := alloc_at wr (.cells #[.string yk, .string yt, .slice q1 q2 q3, .slice r1 r2 r3] 25)
        rw [← hW2] at hc
        exact Lib.hid ⟨by simp [World.cell?, hc], by simp [World.cell?, hc], by simp [World.cell?, hc], by simp [World.cell?, hc]⟩
      have HV : Hid ((p5 || p6) = true → Calls Tryz.prog 11 #[.agg #[.string yk, .string yt, .slice q1 q2 q3, .slice r1 r2 r3]] W2 (WhP (G j) W2)) := Lib.hid fun hp => HIH.out hp j y hy W2 _ (VR.stayB hvr HB2.out)
      unfold WhP at HV
      have HW2 := Lib.hid hW2
      clear hy hvr hyk hyt hW2
      go_upto_region 14 with (fail)
      rw [← HW2.out]
      clear e0 e1 e2 e3
      obtain ⟨f0, f1, f2, f3⟩ := HC2.out
      obtain ⟨c0, c3⟩ := HCB.out W2 HBR2.out
      have HGO : Hid ((p5 || p6) = true → ∀ w3 : World, G j → (p5 || p6) = true → ∀ i, i < j + 1 → G i) := Lib.hid fun hp _ hg _ i hi => by
        rcases Nat.lt_or_ge i j with h | h
        · exact HJ.out hp i h
        · rw [show i = j by omega]; exact hg
      cases p5 with
      | true =>
        go_wp2_with (fail)
        (with_reducible refine (HV.out rfl).mono ?_)
        rintro e w3 ⟨b, rfl, hb, hg⟩
        have HB3 : Hid (Below W1.heap.size W1 w3) := Lib.hid (HBR2.out.trans (hb.mono HBR2.out.size))
        have HG := Lib.hid hg
        clear hb hg c0 c3 f0 f1 f2 f3
        cases b with
        | true =>
          have HJ1 := Lib.hid (HGO.out rfl w3 (HG.out rfl))
          go_wp2_with (fail)
          go_roundw
          case rel => exact ⟨j + 1, by go_num, by omega, HB3, HJ1⟩
          case measure => simp [intOf]; omega
        | false =>
          go_wp2_with (fail)
          go_ret
          exact ⟨_, rfl, HB1.out.trans (HB3.out.mono HB1.out.size), fun h => by simp at h⟩
      | false =>
        cases p6 with
        | true =>
          go_wp2_with (fail)
          (with_reducible refine (HV.out rfl).mono ?_)
          rintro e w3 ⟨b, rfl, hb, hg⟩
          have HB3 : Hid (Below W1.heap.size W1 w3) := Lib.hid (HBR2.out.trans (hb.mono HBR2.out.size))
          have HG := Lib.hid hg
          clear hb hg c0 c3 f0 f1 f2 f3
          cases b with
          | true =>
            have HJ1 := Lib.hid (HGO.out rfl w3 (HG.out rfl))
            go_wp2_with (fail)
            go_roundw
            case rel => exact ⟨j + 1, by go_num, by omega, HB3, HJ1⟩
            case measure => simp [intOf]; omega
          | false =>
            go_wp2_with (fail)
            go_ret
            exact ⟨_, rfl, HB1.out.trans (HB3.out.mono HB1.out.size), fun h => by simp at h⟩
        | false =>
          go_wp2_with (fail)
          go_roundw
          case rel => exact ⟨j + 1, by go_num, by omega, HBR2, Lib.hid fun h => by simp at h⟩
          case measure => simp [intOf]; omega
    · have j1 : decide ((j : Int) < (n : Int)) = false := decide_eq_false (by omega)
      have HE : Hid ((p5 || p6) = true → ∀ i, i < n → G i) := Lib.hid fun hp i hi => HJ.out hp i (by omega)
      go_wp2_with (fail)
      go_ret
      exact ⟨_, rfl, HB1.out.trans (HBR.out.mono HB1.out.size), fun _ => HE.out⟩
end Go.Proofs.YtjganhmbjffjfaaGreatDoor
