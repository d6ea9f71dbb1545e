/- zzFits.. answer something. Printed by gen_U1.py. -/
import Derived.Test.YthafpdceknleiaaGreatDoorU1
import Derived.Test.YthafpdceknleiaaGreatDoorT4
open Go Go.RowKit
namespace Go.Proofs.YthafpdceknleiaaGreatDoor
set_option maxRecDepth 100000 in
set_option maxHeartbeats 8000000 in
theorem fits_Key {w : World} {s0 : ByteArray} {s1 : ByteArray} {n2 : Int} (h0 : s0.size ≤ 140737488351232) (h1 : s1.size ≤ 140737488351232) : Calls Tryz.prog 59 #[.agg #[.string s0, .string s1, .int .i64 n2]] w (SomeB w) := by
  have H0 := Lib.hid h0
  have H1 := Lib.hid h1
  obtain ⟨B, hB⟩ : ∃ B, B = w.heap.size := ⟨_, rfl⟩
  obtain ⟨W1, hW1⟩ : ∃ W1, W1 = w.alloc (.cells #[.string s0, .string s1, .int .i64 n2] 94) := ⟨_, rfl⟩
  have HB1 : Hid (Below w.heap.size w W1) := by rw [hW1]; exact Lib.hid ((Below.refl _ _).alloc (Nat.le_refl _) _)
  have HS1 : Hid (W1.heap.size = B + 1) := by rw [hW1, World.size_alloc, hB]; exact Lib.hid rfl
  have HC : Hid (∀ W, Below W1.heap.size W1 W → W.cell? ⟨B, 0, none⟩ = some (.string s0) ∧ W.cell? ⟨B, 1, none⟩ = some (.string s1) ∧ W.cell? ⟨B, 2, none⟩ = some (.int .i64 n2)) := by
    intro W hb
    have hc : W.heap[B]? = some (.cells #[.string s0, .string s1, .int .i64 n2] 94 (0, 0)) := by
      rw [hb.block B (by rw [HS1.out]; omega), hW1, hB]; exact alloc_at _ _
    refine ⟨?_, ?_, ?_⟩ <;> simp [World.cell?, hc]
  have HB0 : Hid (B = w.heap.size) := hB
  have HW1 := Lib.hid hW1
  have HBW : Hid (Below W1.heap.size W1 W1) := Below.refl _ _
  have HE : Hid (∀ (b : Bool) (W : World), Below W1.heap.size W1 W → SomeB w (.returned (.bool b)) W) := fun b W hb => ⟨b, rfl, HB1.out.trans (hb.mono HB1.out.size)⟩
  obtain ⟨c0_, c1_, c2_⟩ := HC.out W1 (Below.refl _ _)
  clear hW1 hB h0 h1
  by_cases g0 : 2147483647 < s0.size
  · have i0 : decide ((2147483647 : Int) < (s0.size : Int)) = true := decide_eq_true (by have := H0.out; omega)
    clear g0
    go_enter Tryz.func59, Tryz.ntmps59
    go_wp2_with (fail)
    go_ret
    exact (by have h := HE.out false _ HBW.out; rw [HW1.out] at h; exact h)
  have i0 : decide ((2147483647 : Int) < (s0.size : Int)) = false := decide_eq_false (by omega)
  clear g0
  by_cases g1 : 2147483647 < s1.size
  · have i1 : decide ((2147483647 : Int) < (s1.size : Int)) = true := decide_eq_true (by have := H1.out; omega)
    clear g1
    go_enter Tryz.func59, Tryz.ntmps59
    go_wp2_with (fail)
    go_ret
    exact (by have h := HE.out false _ HBW.out; rw [HW1.out] at h; exact h)
  have i1 : decide ((2147483647 : Int) < (s1.size : Int)) = false := decide_eq_false (by omega)
  clear g1
  go_enter Tryz.func59, Tryz.ntmps59
  go_wp2_with (fail)
  go_ret
  exact (by have h := HE.out true _ HBW.out; rw [HW1.out] at h; exact h)
theorem elem_Key {w W : World} {a : Addr} {n c : Nat} (h : SL PKey 3 w (.slice (some a) n c)) (hb : Below w.heap.size w W) (j : Nat) (hj : j < n) :
    ∃ (s0 : ByteArray) (s1 : ByteArray) (n2 : Int), W.cell? (a.add (j * 3)) = some (.string s0) ∧ W.cell? ⟨(a.add (j * 3)).block, (a.add (j * 3)).off + 1, none⟩ = some (.string s1) ∧ W.cell? ⟨(a.add (j * 3)).block, (a.add (j * 3)).off + 2, none⟩ = some (.int .i64 n2) ∧ s0.size ≤ 140737488351232 ∧ s1.size ≤ 140737488351232 ∧ (-9223372036854775808 ≤ n2 ∧ n2 ≤ 9223372036854775807) := by
  rcases h with h | ⟨a', n', c', e, _, _, h⟩
  · cases h
  · cases e
    obtain ⟨cs, hp, hc⟩ := h j hj
    obtain ⟨s0, s1, n2, rfl, h0, h1, h2⟩ := hp.stay hb
    have hcell : ∀ i u, ([.string s0, .string s1, .int .i64 n2] : List Value)[i]? = some u → W.cell? (a.add (j * 3 + i)) = some u := fun i u hu => (hb.cell (cell_lt (hc i u hu))).trans (hc i u hu)
    exact ⟨s0, s1, n2, hcell 0 _ rfl, by rw [← fieldU _ _ 1 (by omega)]; exact hcell 1 _ rfl, by rw [← fieldU _ _ 2 (by omega)]; exact hcell 2 _ rfl, h0, h1, h2⟩
set_option maxRecDepth 100000 in
set_option maxHeartbeats 8000000 in
theorem fitsS_Key {w : World} {v : Value} (h : SL PKey 3 w v) : Calls Tryz.prog 31 #[v] w (SomeB w) := by
  rcases id h with rfl | ⟨a, n, c, rfl, h1, h2, _⟩
  · clear h
    go_enter Tryz.func31, Tryz.ntmps31
    go_wp2_with (fail)
    refine wp_loop_rounds 2 ?_
    rw [rounds_succ]
    go_wp2_with (fail)
    go_ret
    exact ⟨_, rfl, Below.refl _ _⟩
  · have HSL := Lib.hid h
    unfold maxLen at h2
    have hl : n ≤ 9223372036854775807 := by omega
    clear h
    by_cases hbig : 2147483647 < n
    · have i1 : decide ((2147483647 : Int) < (n : Int)) = true := decide_eq_true (by omega)
      clear h1 h2 hl hbig
      go_enter Tryz.func31, Tryz.ntmps31
      go_wp2_with (fail)
      go_ret
      exact ⟨_, rfl, Below.refl _ _⟩
    · have i1 : decide ((2147483647 : Int) < (n : Int)) = false := decide_eq_false (by omega)
      have hl2 : n ≤ 2147483647 := by omega
      clear h2 hl hbig
      go_enter Tryz.func31, Tryz.ntmps31
      go_wp2_with (fail)
      go_loopw [10] (fun i wr => ∃ k : Nat, k ≤ n ∧ i = .int .i64 k ∧ Hid (Below w.heap.size w wr)) (fun i _ => n - (intOf i).toNat)
      case atStart => exact ⟨0, Nat.zero_le _, rfl, Below.refl _ _⟩
      case round =>
        obtain ⟨k, hk, rfl, HBR⟩ := hrel
        by_cases hlt : k < n
        · obtain ⟨s0, s1, n2, e0, e1, e2, h0, h1, h2⟩ := elem_Key HSL.out HBR.out k hlt
          have hba : Below wr.heap.size wr (wr.alloc (.cells #[.string s0, .string s1, .int .i64 n2] 94)) := (Below.refl _ _).alloc (Nat.le_refl _) _
          have HCE := Lib.hid (fits_Key h0 h1 (w := wr.alloc (.cells #[.string s0, .string s1, .int .i64 n2] 94)) (n2 := n2))
          have HBA := Lib.hid (HBR.out.trans (hba.mono HBR.out.size))
          clear hba h0 h1 h2
          go_wp2_with (fail)
          refine HCE.out.mono ?_
          rintro e w3 ⟨b, rfl, hb⟩
          have HB3 : Hid (Below w.heap.size w w3) := HBA.out.trans (hb.mono HBA.out.size)
          clear hb
          cases b with
          | false =>
            go_wp2_with (fail)
            go_ret
            exact ⟨_, rfl, HB3.out⟩
          | true =>
            go_wp2_with (fail)
            go_roundw
            case rel => exact ⟨k + 1, by omega, by go_num, HB3⟩
            case measure => simp [intOf]; omega
        · go_wp2_with (fail)
          go_ret
          exact ⟨_, rfl, HBR.out⟩
set_option maxRecDepth 100000 in
set_option maxHeartbeats 8000000 in
theorem fits_Role {w : World} {s0 : ByteArray} {a1 : Option Addr} {l1 c1 : Nat} {n2 : Int} (h0 : s0.size ≤ 140737488351232) (h1 : (∃ l, StrR w (.slice a1 l1 c1) l)) : Calls Tryz.prog 60 #[.agg #[.string s0, .slice a1 l1 c1, .int .i64 n2]] w (SomeB w) := by
  have H0 := Lib.hid h0
  have H1 := Lib.hid h1
  have hn1 : l1 ≤ maxLen := by obtain ⟨l, h⟩ := h1; obtain ⟨_, _, _, e, h⟩ := h.sl; injection e with _ e _; omega
  unfold maxLen at *
  obtain ⟨B, hB⟩ : ∃ B, B = w.heap.size := ⟨_, rfl⟩
  obtain ⟨W1, hW1⟩ : ∃ W1, W1 = w.alloc (.cells #[.string s0, .slice a1 l1 c1, .int .i64 n2] 96) := ⟨_, rfl⟩
  have HB1 : Hid (Below w.heap.size w W1) := by rw [hW1]; exact Lib.hid ((Below.refl _ _).alloc (Nat.le_refl _) _)
  have HS1 : Hid (W1.heap.size = B + 1) := by rw [hW1, World.size_alloc, hB]; exact Lib.hid rfl
  have HC : Hid (∀ W, Below W1.heap.size W1 W → W.cell? ⟨B, 0, none⟩ = some (.string s0) ∧ W.cell? ⟨B, 1, none⟩ = some (.slice a1 l1 c1) ∧ W.cell? ⟨B, 2, none⟩ = some (.int .i64 n2)) := by
    intro W hb
    have hc : W.heap[B]? = some (.cells #[.string s0, .slice a1 l1 c1, .int .i64 n2] 96 (0, 0)) := by
      rw [hb.block B (by rw [HS1.out]; omega), hW1, hB]; exact alloc_at _ _
    refine ⟨?_, ?_, ?_⟩ <;> simp [World.cell?, hc]
  have HB0 : Hid (B = w.heap.size) := hB
  have HW1 := Lib.hid hW1
  have HBW : Hid (Below W1.heap.size W1 W1) := Below.refl _ _
  have HE : Hid (∀ (b : Bool) (W : World), Below W1.heap.size W1 W → SomeB w (.returned (.bool b)) W) := fun b W hb => ⟨b, rfl, HB1.out.trans (hb.mono HB1.out.size)⟩
  obtain ⟨c0_, c1_, c2_⟩ := HC.out W1 (Below.refl _ _)
  clear hW1 hB h0 h1
  by_cases g0 : 2147483647 < s0.size
  · have i0 : decide ((2147483647 : Int) < (s0.size : Int)) = true := decide_eq_true (by have := H0.out; omega)
    clear g0
    go_enter Tryz.func60, Tryz.ntmps60
    go_wp2_with (fail)
    go_ret
    exact (by have h := HE.out false _ HBW.out; rw [HW1.out] at h; exact h)
  have i0 : decide ((2147483647 : Int) < (s0.size : Int)) = false := decide_eq_false (by omega)
  clear g0
  have hbx : Below w.heap.size w W1 := HB1.out.trans (HBW.out.mono HB1.out.size)
  have h1' := H1.out
  have HQ0 := Lib.hid (fits2_strR (h1'.choose_spec.stay hbx))
  clear hbx h1'
  go_enter Tryz.func60, Tryz.ntmps60
  go_wp2_with (fail)
  rw [← HB0.out, ← HW1.out]
  refine HQ0.out.mono ?_
  rintro e V0 ⟨b, rfl, rfl⟩
  cases b with
  | false =>
    go_wp2_with (fail)
    go_ret
    exact HE.out false _ HBW.out
  | true =>
    go_wp2_with (fail)
    go_ret
    exact HE.out true _ HBW.out
theorem elem_Role {w W : World} {a : Addr} {n c : Nat} (h : SL PRole 3 w (.slice (some a) n c)) (hb : Below w.heap.size w W) (j : Nat) (hj : j < n) :
    ∃ (s0 : ByteArray) (a1 : Option Addr) (l1 c1 : Nat) (n2 : Int), W.cell? (a.add (j * 3)) = some (.string s0) ∧ W.cell? ⟨(a.add (j * 3)).block, (a.add (j * 3)).off + 1, none⟩ = some (.slice a1 l1 c1) ∧ W.cell? ⟨(a.add (j * 3)).block, (a.add (j * 3)).off + 2, none⟩ = some (.int .i64 n2) ∧ s0.size ≤ 140737488351232 ∧ (∃ l, StrR W (.slice a1 l1 c1) l) ∧ (-9223372036854775808 ≤ n2 ∧ n2 ≤ 9223372036854775807) := by
  rcases h with h | ⟨a', n', c', e, _, _, h⟩
  · cases h
  · cases e
    obtain ⟨cs, hp, hc⟩ := h j hj
    obtain ⟨s0, a1, l1, c1, n2, rfl, h0, h1, h2⟩ := hp.stay hb
    have hcell : ∀ i u, ([.string s0, .slice a1 l1 c1, .int .i64 n2] : List Value)[i]? = some u → W.cell? (a.add (j * 3 + i)) = some u := fun i u hu => (hb.cell (cell_lt (hc i u hu))).trans (hc i u hu)
    exact ⟨s0, a1, l1, c1, n2, hcell 0 _ rfl, by rw [← fieldU _ _ 1 (by omega)]; exact hcell 1 _ rfl, by rw [← fieldU _ _ 2 (by omega)]; exact hcell 2 _ rfl, h0, h1, h2⟩
set_option maxRecDepth 100000 in
set_option maxHeartbeats 8000000 in
theorem fitsS_Role {w : World} {v : Value} (h : SL PRole 3 w v) : Calls Tryz.prog 32 #[v] w (SomeB w) := by
  rcases id h with rfl | ⟨a, n, c, rfl, h1, h2, _⟩
  · clear h
    go_enter Tryz.func32, Tryz.ntmps32
    go_wp2_with (fail)
    refine wp_loop_rounds 2 ?_
    rw [rounds_succ]
    go_wp2_with (fail)
    go_ret
    exact ⟨_, rfl, Below.refl _ _⟩
  · have HSL := Lib.hid h
    unfold maxLen at h2
    have hl : n ≤ 9223372036854775807 := by omega
    clear h
    by_cases hbig : 2147483647 < n
    · have i1 : decide ((2147483647 : Int) < (n : Int)) = true := decide_eq_true (by omega)
      clear h1 h2 hl hbig
      go_enter Tryz.func32, Tryz.ntmps32
      go_wp2_with (fail)
      go_ret
      exact ⟨_, rfl, Below.refl _ _⟩
    · have i1 : decide ((2147483647 : Int) < (n : Int)) = false := decide_eq_false (by omega)
      have hl2 : n ≤ 2147483647 := by omega
      clear h2 hl hbig
      go_enter Tryz.func32, Tryz.ntmps32
      go_wp2_with (fail)
      go_loopw [10] (fun i wr => ∃ k : Nat, k ≤ n ∧ i = .int .i64 k ∧ Hid (Below w.heap.size w wr)) (fun i _ => n - (intOf i).toNat)
      case atStart => exact ⟨0, Nat.zero_le _, rfl, Below.refl _ _⟩
      case round =>
        obtain ⟨k, hk, rfl, HBR⟩ := hrel
        by_cases hlt : k < n
        · obtain ⟨s0, a1, l1, c1, n2, e0, e1, e2, h0, h1, h2⟩ := elem_Role HSL.out HBR.out k hlt
          have hba : Below wr.heap.size wr (wr.alloc (.cells #[.string s0, .slice a1 l1 c1, .int .i64 n2] 96)) := (Below.refl _ _).alloc (Nat.le_refl _) _
          have HCE := Lib.hid (fits_Role h0 (h1.imp fun _ h => h.stay hba) (w := wr.alloc (.cells #[.string s0, .slice a1 l1 c1, .int .i64 n2] 96)) (n2 := n2))
          have HBA := Lib.hid (HBR.out.trans (hba.mono HBR.out.size))
          clear hba h0 h1 h2
          go_wp2_with (fail)
          refine HCE.out.mono ?_
          rintro e w3 ⟨b, rfl, hb⟩
          have HB3 : Hid (Below w.heap.size w w3) := HBA.out.trans (hb.mono HBA.out.size)
          clear hb
          cases b with
          | false =>
            go_wp2_with (fail)
            go_ret
            exact ⟨_, rfl, HB3.out⟩
          | true =>
            go_wp2_with (fail)
            go_roundw
            case rel => exact ⟨k + 1, by omega, by go_num, HB3⟩
            case measure => simp [intOf]; omega
        · go_wp2_with (fail)
          go_ret
          exact ⟨_, rfl, HBR.out⟩
set_option maxRecDepth 100000 in
set_option maxHeartbeats 8000000 in
theorem fits_Hash {w : World} {s0 : ByteArray} {a1 : Option Addr} {l1 c1 : Nat} (h0 : s0.size ≤ 140737488351232) (h1 : (∃ l, BSrc w (.slice a1 l1 c1) l)) : Calls Tryz.prog 48 #[.agg #[.string s0, .slice a1 l1 c1]] w (SomeB w) := by
  have H0 := Lib.hid h0
  have H1 := Lib.hid h1
  have hn1 : l1 ≤ maxLen := by obtain ⟨l, h⟩ := h1; obtain ⟨_, _, _, e, h⟩ := h.sl; injection e with _ e _; omega
  unfold maxLen at *
  obtain ⟨B, hB⟩ : ∃ B, B = w.heap.size := ⟨_, rfl⟩
  obtain ⟨W1, hW1⟩ : ∃ W1, W1 = w.alloc (.cells #[.string s0, .slice a1 l1 c1] 50) := ⟨_, rfl⟩
  have HB1 : Hid (Below w.heap.size w W1) := by rw [hW1]; exact Lib.hid ((Below.refl _ _).alloc (Nat.le_refl _) _)
  have HS1 : Hid (W1.heap.size = B + 1) := by rw [hW1, World.size_alloc, hB]; exact Lib.hid rfl
  have HC : Hid (∀ W, Below W1.heap.size W1 W → W.cell? ⟨B, 0, none⟩ = some (.string s0) ∧ W.cell? ⟨B, 1, none⟩ = some (.slice a1 l1 c1)) := by
    intro W hb
    have hc : W.heap[B]? = some (.cells #[.string s0, .slice a1 l1 c1] 50 (0, 0)) := by
      rw [hb.block B (by rw [HS1.out]; omega), hW1, hB]; exact alloc_at _ _
    refine ⟨?_, ?_⟩ <;> simp [World.cell?, hc]
  have HB0 : Hid (B = w.heap.size) := hB
  have HW1 := Lib.hid hW1
  have HBW : Hid (Below W1.heap.size W1 W1) := Below.refl _ _
  have HE : Hid (∀ (b : Bool) (W : World), Below W1.heap.size W1 W → SomeB w (.returned (.bool b)) W) := fun b W hb => ⟨b, rfl, HB1.out.trans (hb.mono HB1.out.size)⟩
  obtain ⟨c0_, c1_⟩ := HC.out W1 (Below.refl _ _)
  clear hW1 hB h0 h1
  by_cases g0 : 2147483647 < s0.size
  · have i0 : decide ((2147483647 : Int) < (s0.size : Int)) = true := decide_eq_true (by have := H0.out; omega)
    clear g0
    go_enter Tryz.func48, Tryz.ntmps48
    go_wp2_with (fail)
    go_ret
    exact (by have h := HE.out false _ HBW.out; rw [HW1.out] at h; exact h)
  have i0 : decide ((2147483647 : Int) < (s0.size : Int)) = false := decide_eq_false (by omega)
  clear g0
  by_cases g1 : 2147483647 < l1
  · have i1 : decide ((2147483647 : Int) < (l1 : Int)) = true := decide_eq_true (by have := H1.out; omega)
    clear g1
    go_enter Tryz.func48, Tryz.ntmps48
    go_wp2_with (fail)
    go_ret
    exact (by have h := HE.out false _ HBW.out; rw [HW1.out] at h; exact h)
  have i1 : decide ((2147483647 : Int) < (l1 : Int)) = false := decide_eq_false (by omega)
  clear g1
  go_enter Tryz.func48, Tryz.ntmps48
  go_wp2_with (fail)
  go_ret
  exact (by have h := HE.out true _ HBW.out; rw [HW1.out] at h; exact h)
theorem elem_Hash {w W : World} {a : Addr} {n c : Nat} (h : SL PHash 2 w (.slice (some a) n c)) (hb : Below w.heap.size w W) (j : Nat) (hj : j < n) :
    ∃ (s0 : ByteArray) (a1 : Option Addr) (l1 c1 : Nat), W.cell? (a.add (j * 2)) = some (.string s0) ∧ W.cell? ⟨(a.add (j * 2)).block, (a.add (j * 2)).off + 1, none⟩ = some (.slice a1 l1 c1) ∧ s0.size ≤ 140737488351232 ∧ (∃ l, BSrc W (.slice a1 l1 c1) l) := by
  rcases h with h | ⟨a', n', c', e, _, _, h⟩
  · cases h
  · cases e
    obtain ⟨cs, hp, hc⟩ := h j hj
    obtain ⟨s0, a1, l1, c1, rfl, h0, h1⟩ := hp.stay hb
    have hcell : ∀ i u, ([.string s0, .slice a1 l1 c1] : List Value)[i]? = some u → W.cell? (a.add (j * 2 + i)) = some u := fun i u hu => (hb.cell (cell_lt (hc i u hu))).trans (hc i u hu)
    exact ⟨s0, a1, l1, c1, hcell 0 _ rfl, by rw [← fieldU _ _ 1 (by omega)]; exact hcell 1 _ rfl, h0, h1⟩
set_option maxRecDepth 100000 in
set_option maxHeartbeats 8000000 in
theorem fitsS_Hash {w : World} {v : Value} (h : SL PHash 2 w v) : Calls Tryz.prog 18 #[v] w (SomeB w) := by
  rcases id h with rfl | ⟨a, n, c, rfl, h1, h2, _⟩
  · clear h
    go_enter Tryz.func18, Tryz.ntmps18
    go_wp2_with (fail)
    refine wp_loop_rounds 2 ?_
    rw [rounds_succ]
    go_wp2_with (fail)
    go_ret
    exact ⟨_, rfl, Below.refl _ _⟩
  · have HSL := Lib.hid h
    unfold maxLen at h2
    have hl : n ≤ 9223372036854775807 := by omega
    clear h
    by_cases hbig : 2147483647 < n
    · have i1 : decide ((2147483647 : Int) < (n : Int)) = true := decide_eq_true (by omega)
      clear h1 h2 hl hbig
      go_enter Tryz.func18, Tryz.ntmps18
      go_wp2_with (fail)
      go_ret
      exact ⟨_, rfl, Below.refl _ _⟩
    · have i1 : decide ((2147483647 : Int) < (n : Int)) = false := decide_eq_false (by omega)
      have hl2 : n ≤ 2147483647 := by omega
      clear h2 hl hbig
      go_enter Tryz.func18, Tryz.ntmps18
      go_wp2_with (fail)
      go_loopw [10] (fun i wr => ∃ k : Nat, k ≤ n ∧ i = .int .i64 k ∧ Hid (Below w.heap.size w wr)) (fun i _ => n - (intOf i).toNat)
      case atStart => exact ⟨0, Nat.zero_le _, rfl, Below.refl _ _⟩
      case round =>
        obtain ⟨k, hk, rfl, HBR⟩ := hrel
        by_cases hlt : k < n
        · obtain ⟨s0, a1, l1, c1, e0, e1, h0, h1⟩ := elem_Hash HSL.out HBR.out k hlt
          have hba : Below wr.heap.size wr (wr.alloc (.cells #[.string s0, .slice a1 l1 c1] 50)) := (Below.refl _ _).alloc (Nat.le_refl _) _
          have HCE := Lib.hid (fits_Hash h0 (h1.imp fun _ h => h.stay hba) (w := wr.alloc (.cells #[.string s0, .slice a1 l1 c1] 50)))
          have HBA := Lib.hid (HBR.out.trans (hba.mono HBR.out.size))
          clear hba h0 h1
          go_wp2_with (fail)
          refine HCE.out.mono ?_
          rintro e w3 ⟨b, rfl, hb⟩
          have HB3 : Hid (Below w.heap.size w w3) := HBA.out.trans (hb.mono HBA.out.size)
          clear hb
          cases b with
          | false =>
            go_wp2_with (fail)
            go_ret
            exact ⟨_, rfl, HB3.out⟩
          | true =>
            go_wp2_with (fail)
            go_roundw
            case rel => exact ⟨k + 1, by omega, by go_num, HB3⟩
            case measure => simp [intOf]; omega
        · go_wp2_with (fail)
          go_ret
          exact ⟨_, rfl, HBR.out⟩
set_option maxRecDepth 100000 in
set_option maxHeartbeats 8000000 in
theorem fits_File {w : World} {s0 : ByteArray} {n1 : Int} {a2 : Option Addr} {l2 c2 : Nat} {n3 : Int} (h0 : s0.size ≤ 140737488351232) (h2 : SL PHash 2 w (.slice a2 l2 c2)) : Calls Tryz.prog 20 #[.agg #[.string s0, .int .i64 n1, .slice a2 l2 c2, .int .i64 n3]] w (SomeB w) := by
  have H0 := Lib.hid h0
  have H2 := Lib.hid h2
  have hn2 : l2 ≤ maxLen := by obtain ⟨_, _, _, e, h⟩ := h2.slice; injection e with _ e _; omega
  unfold maxLen at *
  obtain ⟨B, hB⟩ : ∃ B, B = w.heap.size := ⟨_, rfl⟩
  obtain ⟨W1, hW1⟩ : ∃ W1, W1 = w.alloc (.cells #[.string s0, .int .i64 n1, .slice a2 l2 c2, .int .i64 n3] 54) := ⟨_, rfl⟩
  have HB1 : Hid (Below w.heap.size w W1) := by rw [hW1]; exact Lib.hid ((Below.refl _ _).alloc (Nat.le_refl _) _)
  have HS1 : Hid (W1.heap.size = B + 1) := by rw [hW1, World.size_alloc, hB]; exact Lib.hid rfl
  have HC : Hid (∀ W, Below W1.heap.size W1 W → W.cell? ⟨B, 0, none⟩ = some (.string s0) ∧ W.cell? ⟨B, 1, none⟩ = some (.int .i64 n1) ∧ W.cell? ⟨B, 2, none⟩ = some (.slice a2 l2 c2) ∧ W.cell? ⟨B, 3, none⟩ = some (.int .i64 n3)) := by
    intro W hb
    have hc : W.heap[B]? = some (.cells #[.string s0, .int .i64 n1, .slice a2 l2 c2, .int .i64 n3] 54 (0, 0)) := by
      rw [hb.block B (by rw [HS1.out]; omega), hW1, hB]; exact alloc_at _ _
    refine ⟨?_, ?_, ?_, ?_⟩ <;> simp [World.cell?, hc]
  have HB0 : Hid (B = w.heap.size) := hB
  have HW1 := Lib.hid hW1
  have HBW : Hid (Below W1.heap.size W1 W1) := Below.refl _ _
  have HE : Hid (∀ (b : Bool) (W : World), Below W1.heap.size W1 W → SomeB w (.returned (.bool b)) W) := fun b W hb => ⟨b, rfl, HB1.out.trans (hb.mono HB1.out.size)⟩
  obtain ⟨c0_, c1_, c2_, c3_⟩ := HC.out W1 (Below.refl _ _)
  clear hW1 hB h0 h2
  by_cases g0 : 2147483647 < s0.size
  · have i0 : decide ((2147483647 : Int) < (s0.size : Int)) = true := decide_eq_true (by have := H0.out; omega)
    clear g0
    go_enter Tryz.func20, Tryz.ntmps20
    go_wp2_with (fail)
    go_ret
    exact (by have h := HE.out false _ HBW.out; rw [HW1.out] at h; exact h)
  have i0 : decide ((2147483647 : Int) < (s0.size : Int)) = false := decide_eq_false (by omega)
  clear g0
  have hbx : Below w.heap.size w W1 := HB1.out.trans (HBW.out.mono HB1.out.size)
  have HQ0 := Lib.hid (fitsS_Hash (H2.out.stay (fun _ => PHash.stay hbx) hbx))
  clear hbx
  go_enter Tryz.func20, Tryz.ntmps20
  go_wp2_with (fail)
  rw [← HB0.out, ← HW1.out]
  refine HQ0.out.mono ?_
  rintro e V0 ⟨b, rfl, hb⟩
  have HV0 : Hid (Below W1.heap.size W1 V0) := HBW.out.trans (hb.mono HBW.out.size)
  clear hb
  clear c0_ c1_ c2_ c3_
  obtain ⟨c0_, c1_, c2_, c3_⟩ := HC.out V0 HV0.out
  cases b with
  | false =>
    go_wp2_with (fail)
    go_ret
    exact HE.out false _ HV0.out
  | true =>
    go_wp2_with (fail)
    go_ret
    exact HE.out true _ HV0.out
theorem elem_File {w W : World} {a : Addr} {n c : Nat} (h : SL PFile 4 w (.slice (some a) n c)) (hb : Below w.heap.size w W) (j : Nat) (hj : j < n) :
    ∃ (s0 : ByteArray) (n1 : Int) (a2 : Option Addr) (l2 c2 : Nat) (n3 : Int), W.cell? (a.add (j * 4)) = some (.string s0) ∧ W.cell? ⟨(a.add (j * 4)).block, (a.add (j * 4)).off + 1, none⟩ = some (.int .i64 n1) ∧ W.cell? ⟨(a.add (j * 4)).block, (a.add (j * 4)).off + 2, none⟩ = some (.slice a2 l2 c2) ∧ W.cell? ⟨(a.add (j * 4)).block, (a.add (j * 4)).off + 3, none⟩ = some (.int .i64 n3) ∧ s0.size ≤ 140737488351232 ∧ (-9223372036854775808 ≤ n1 ∧ n1 ≤ 9223372036854775807) ∧ SL PHash 2 W (.slice a2 l2 c2) ∧ (-9223372036854775808 ≤ n3 ∧ n3 ≤ 9223372036854775807) := by
  rcases h with h | ⟨a', n', c', e, _, _, h⟩
  · cases h
  · cases e
    obtain ⟨cs, hp, hc⟩ := h j hj
    obtain ⟨s0, n1, a2, l2, c2, n3, rfl, h0, h1, h2, h3⟩ := hp.stay hb
    have hcell : ∀ i u, ([.string s0, .int .i64 n1, .slice a2 l2 c2, .int .i64 n3] : List Value)[i]? = some u → W.cell? (a.add (j * 4 + i)) = some u := fun i u hu => (hb.cell (cell_lt (hc i u hu))).trans (hc i u hu)
    exact ⟨s0, n1, a2, l2, c2, n3, hcell 0 _ rfl, by rw [← fieldU _ _ 1 (by omega)]; exact hcell 1 _ rfl, by rw [← fieldU _ _ 2 (by omega)]; exact hcell 2 _ rfl, by rw [← fieldU _ _ 3 (by omega)]; exact hcell 3 _ rfl, h0, h1, h2, h3⟩
set_option maxRecDepth 100000 in
set_option maxHeartbeats 8000000 in
theorem fitsS_File {w : World} {v : Value} (h : SL PFile 4 w v) : Calls Tryz.prog 33 #[v] w (SomeB w) := by
  rcases id h with rfl | ⟨a, n, c, rfl, h1, h2, _⟩
  · clear h
    go_enter Tryz.func33, Tryz.ntmps33
    go_wp2_with (fail)
    refine wp_loop_rounds 2 ?_
    rw [rounds_succ]
    go_wp2_with (fail)
    go_ret
    exact ⟨_, rfl, Below.refl _ _⟩
  · have HSL := Lib.hid h
    unfold maxLen at h2
    have hl : n ≤ 9223372036854775807 := by omega
    clear h
    by_cases hbig : 2147483647 < n
    · have i1 : decide ((2147483647 : Int) < (n : Int)) = true := decide_eq_true (by omega)
      clear h1 h2 hl hbig
      go_enter Tryz.func33, Tryz.ntmps33
      go_wp2_with (fail)
      go_ret
      exact ⟨_, rfl, Below.refl _ _⟩
    · have i1 : decide ((2147483647 : Int) < (n : Int)) = false := decide_eq_false (by omega)
      have hl2 : n ≤ 2147483647 := by omega
      clear h2 hl hbig
      go_enter Tryz.func33, Tryz.ntmps33
      go_wp2_with (fail)
      go_loopw [10] (fun i wr => ∃ k : Nat, k ≤ n ∧ i = .int .i64 k ∧ Hid (Below w.heap.size w wr)) (fun i _ => n - (intOf i).toNat)
      case atStart => exact ⟨0, Nat.zero_le _, rfl, Below.refl _ _⟩
      case round =>
        obtain ⟨k, hk, rfl, HBR⟩ := hrel
        by_cases hlt : k < n
        · obtain ⟨s0, n1, a2, l2, c2, n3, e0, e1, e2, e3, h0, h1, h2, h3⟩ := elem_File HSL.out HBR.out k hlt
          have hba : Below wr.heap.size wr (wr.alloc (.cells #[.string s0, .int .i64 n1, .slice a2 l2 c2, .int .i64 n3] 54)) := (Below.refl _ _).alloc (Nat.le_refl _) _
          have HCE := Lib.hid (fits_File h0 (h2.stay (fun _ => PHash.stay hba) hba) (w := wr.alloc (.cells #[.string s0, .int .i64 n1, .slice a2 l2 c2, .int .i64 n3] 54)) (n1 := n1) (n3 := n3))
          have HBA := Lib.hid (HBR.out.trans (hba.mono HBR.out.size))
          clear hba h0 h1 h2 h3
          go_wp2_with (fail)
          refine HCE.out.mono ?_
          rintro e w3 ⟨b, rfl, hb⟩
          have HB3 : Hid (Below w.heap.size w w3) := HBA.out.trans (hb.mono HBA.out.size)
          clear hb
          cases b with
          | false =>
            go_wp2_with (fail)
            go_ret
            exact ⟨_, rfl, HB3.out⟩
          | true =>
            go_wp2_with (fail)
            go_roundw
            case rel => exact ⟨k + 1, by omega, by go_num, HB3⟩
            case measure => simp [intOf]; omega
        · go_wp2_with (fail)
          go_ret
          exact ⟨_, rfl, HBR.out⟩
set_option maxRecDepth 100000 in
set_option maxHeartbeats 8000000 in
theorem fits_DelRole {w : World} {s0 : ByteArray} {a1 : Option Addr} {l1 c1 : Nat} {n2 : Int} {y3 : Bool} {a4 : Option Addr} {l4 c4 : Nat} {a5 : Option Addr} {l5 c5 : Nat} (h0 : s0.size ≤ 140737488351232) (h1 : (∃ l, StrR w (.slice a1 l1 c1) l)) (h4 : (∃ l, StrR w (.slice a4 l4 c4) l)) (h5 : (∃ l, StrR w (.slice a5 l5 c5) l)) : Calls Tryz.prog 78 #[.agg #[.string s0, .slice a1 l1 c1, .int .i64 n2, .bool y3, .slice a4 l4 c4, .slice a5 l5 c5]] w (SomeB w) := by
  have H0 := Lib.hid h0
  have H1 := Lib.hid h1
  have hn1 : l1 ≤ maxLen := by obtain ⟨l, h⟩ := h1; obtain ⟨_, _, _, e, h⟩ := h.sl; injection e with _ e _; omega
  have H4 := Lib.hid h4
  have hn4 : l4 ≤ maxLen := by obtain ⟨l, h⟩ := h4; obtain ⟨_, _, _, e, h⟩ := h.sl; injection e with _ e _; omega
  have H5 := Lib.hid h5
  have hn5 : l5 ≤ maxLen := by obtain ⟨l, h⟩ := h5; obtain ⟨_, _, _, e, h⟩ := h.sl; injection e with _ e _; omega
  unfold maxLen at *
  obtain ⟨B, hB⟩ : ∃ B, B = w.heap.size := ⟨_, rfl⟩
  obtain ⟨W1, hW1⟩ : ∃ W1, W1 = w.alloc (.cells #[.string s0, .slice a1 l1 c1, .int .i64 n2, .bool y3, .slice a4 l4 c4, .slice a5 l5 c5] 98) := ⟨_, rfl⟩
  have HB1 : Hid (Below w.heap.size w W1) := by rw [hW1]; exact Lib.hid ((Below.refl _ _).alloc (Nat.le_refl _) _)
  have HS1 : Hid (W1.heap.size = B + 1) := by rw [hW1, World.size_alloc, hB]; exact Lib.hid rfl
  have HC : Hid (∀ W, Below W1.heap.size W1 W → W.cell? ⟨B, 0, none⟩ = some (.string s0) ∧ W.cell? ⟨B, 1, none⟩ = some (.slice a1 l1 c1) ∧ W.cell? ⟨B, 2, none⟩ = some (.int .i64 n2) ∧ W.cell? ⟨B, 3, none⟩ = some (.bool y3) ∧ W.cell? ⟨B, 4, none⟩ = some (.slice a4 l4 c4) ∧ W.cell? ⟨B, 5, none⟩ = some (.slice a5 l5 c5)) := by
    intro W hb
    have hc : W.heap[B]? = some (.cells #[.string s0, .slice a1 l1 c1, .int .i64 n2, .bool y3, .slice a4 l4 c4, .slice a5 l5 c5] 98 (0, 0)) := by
      rw [hb.block B (by rw [HS1.out]; omega), hW1, hB]; exact alloc_at _ _
    refine ⟨?_, ?_, ?_, ?_, ?_, ?_⟩ <;> simp [World.cell?, hc]
  have HB0 : Hid (B = w.heap.size) := hB
  have HW1 := Lib.hid hW1
  have HBW : Hid (Below W1.heap.size W1 W1) := Below.refl _ _
  have HE : Hid (∀ (b : Bool) (W : World), Below W1.heap.size W1 W → SomeB w (.returned (.bool b)) W) := fun b W hb => ⟨b, rfl, HB1.out.trans (hb.mono HB1.out.size)⟩
  obtain ⟨c0_, c1_, c2_, c3_, c4_, c5_⟩ := HC.out W1 (Below.refl _ _)
  clear hW1 hB h0 h1 h4 h5
  by_cases g0 : 2147483647 < s0.size
  · have i0 : decide ((2147483647 : Int) < (s0.size : Int)) = true := decide_eq_true (by have := H0.out; omega)
    clear g0
    go_enter Tryz.func78, Tryz.ntmps78
    go_wp2_with (fail)
    go_ret
    exact (by have h := HE.out false _ HBW.out; rw [HW1.out] at h; exact h)
  have i0 : decide ((2147483647 : Int) < (s0.size : Int)) = false := decide_eq_false (by omega)
  clear g0
  have hbx : Below w.heap.size w W1 := HB1.out.trans (HBW.out.mono HB1.out.size)
  have h1' := H1.out
  have HQ0 := Lib.hid (fits2_strR (h1'.choose_spec.stay hbx))
  clear hbx h1'
  go_enter Tryz.func78, Tryz.ntmps78
  go_wp2_with (fail)
  rw [← HB0.out, ← HW1.out]
  refine HQ0.out.mono ?_
  rintro e V0 ⟨b, rfl, rfl⟩
  cases b with
  | false =>
    go_wp2_with (fail)
    go_ret
    exact HE.out false _ HBW.out
  | true =>
    have hbx : Below w.heap.size w W1 := HB1.out.trans (HBW.out.mono HB1.out.size)
    have h4' := H4.out
    have HQ1 := Lib.hid (fits2_strR (h4'.choose_spec.stay hbx))
    clear hbx h4'
    go_wp2_with (fail)
    refine HQ1.out.mono ?_
    rintro e V1 ⟨b, rfl, rfl⟩
    cases b with
    | false =>
      go_wp2_with (fail)
      go_ret
      exact HE.out false _ HBW.out
    | true =>
      have hbx : Below w.heap.size w W1 := HB1.out.trans (HBW.out.mono HB1.out.size)
      have h5' := H5.out
      have HQ2 := Lib.hid (fits2_strR (h5'.choose_spec.stay hbx))
      clear hbx h5'
      go_wp2_with (fail)
      refine HQ2.out.mono ?_
      rintro e V2 ⟨b, rfl, rfl⟩
      cases b with
      | false =>
        go_wp2_with (fail)
        go_ret
        exact HE.out false _ HBW.out
      | true =>
        go_wp2_with (fail)
        go_ret
        exact HE.out true _ HBW.out
theorem elem_DelRole {w W : World} {a : Addr} {n c : Nat} (h : SL PDelRole 6 w (.slice (some a) n c)) (hb : Below w.heap.size w W) (j : Nat) (hj : j < n) :
    ∃ (s0 : ByteArray) (a1 : Option Addr) (l1 c1 : Nat) (n2 : Int) (y3 : Bool) (a4 : Option Addr) (l4 c4 : Nat) (a5 : Option Addr) (l5 c5 : Nat), W.cell? (a.add (j * 6)) = some (.string s0) ∧ W.cell? ⟨(a.add (j * 6)).block, (a.add (j * 6)).off + 1, none⟩ = some (.slice a1 l1 c1) ∧ W.cell? ⟨(a.add (j * 6)).block, (a.add (j * 6)).off + 2, none⟩ = some (.int .i64 n2) ∧ W.cell? ⟨(a.add (j * 6)).block, (a.add (j * 6)).off + 3, none⟩ = some (.bool y3) ∧ W.cell? ⟨(a.add (j * 6)).block, (a.add (j * 6)).off + 4, none⟩ = some (.slice a4 l4 c4) ∧ W.cell? ⟨(a.add (j * 6)).block, (a.add (j * 6)).off + 5, none⟩ = some (.slice a5 l5 c5) ∧ s0.size ≤ 140737488351232 ∧ (∃ l, StrR W (.slice a1 l1 c1) l) ∧ (-9223372036854775808 ≤ n2 ∧ n2 ≤ 9223372036854775807) ∧ (∃ l, StrR W (.slice a4 l4 c4) l) ∧ (∃ l, StrR W (.slice a5 l5 c5) l) := by
  rcases h with h | ⟨a', n', c', e, _, _, h⟩
  · cases h
  · cases e
    obtain ⟨cs, hp, hc⟩ := h j hj
    obtain ⟨s0, a1, l1, c1, n2, y3, a4, l4, c4, a5, l5, c5, rfl, h0, h1, h2, h4, h5⟩ := hp.stay hb
    have hcell : ∀ i u, ([.string s0, .slice a1 l1 c1, .int .i64 n2, .bool y3, .slice a4 l4 c4, .slice a5 l5 c5] : List Value)[i]? = some u → W.cell? (a.add (j * 6 + i)) = some u := fun i u hu => (hb.cell (cell_lt (hc i u hu))).trans (hc i u hu)
    exact ⟨s0, a1, l1, c1, n2, y3, a4, l4, c4, a5, l5, c5, hcell 0 _ rfl, by rw [← fieldU _ _ 1 (by omega)]; exact hcell 1 _ rfl, by rw [← fieldU _ _ 2 (by omega)]; exact hcell 2 _ rfl, by rw [← fieldU _ _ 3 (by omega)]; exact hcell 3 _ rfl, by rw [← fieldU _ _ 4 (by omega)]; exact hcell 4 _ rfl, by rw [← fieldU _ _ 5 (by omega)]; exact hcell 5 _ rfl, h0, h1, h2, h4, h5⟩
set_option maxRecDepth 100000 in
set_option maxHeartbeats 8000000 in
theorem fitsS_DelRole {w : World} {v : Value} (h : SL PDelRole 6 w v) : Calls Tryz.prog 61 #[v] w (SomeB w) := by
  rcases id h with rfl | ⟨a, n, c, rfl, h1, h2, _⟩
  · clear h
    go_enter Tryz.func61, Tryz.ntmps61
    go_wp2_with (fail)
    refine wp_loop_rounds 2 ?_
    rw [rounds_succ]
    go_wp2_with (fail)
    go_ret
    exact ⟨_, rfl, Below.refl _ _⟩
  · have HSL := Lib.hid h
    unfold maxLen at h2
    have hl : n ≤ 9223372036854775807 := by omega
    clear h
    by_cases hbig : 2147483647 < n
    · have i1 : decide ((2147483647 : Int) < (n : Int)) = true := decide_eq_true (by omega)
      clear h1 h2 hl hbig
      go_enter Tryz.func61, Tryz.ntmps61
      go_wp2_with (fail)
      go_ret
      exact ⟨_, rfl, Below.refl _ _⟩
    · have i1 : decide ((2147483647 : Int) < (n : Int)) = false := decide_eq_false (by omega)
      have hl2 : n ≤ 2147483647 := by omega
      clear h2 hl hbig
      go_enter Tryz.func61, Tryz.ntmps61
      go_wp2_with (fail)
      go_loopw [10] (fun i wr => ∃ k : Nat, k ≤ n ∧ i = .int .i64 k ∧ Hid (Below w.heap.size w wr)) (fun i _ => n - (intOf i).toNat)
      case atStart => exact ⟨0, Nat.zero_le _, rfl, Below.refl _ _⟩
      case round =>
        obtain ⟨k, hk, rfl, HBR⟩ := hrel
        by_cases hlt : k < n
        · obtain ⟨s0, a1, l1, c1, n2, y3, a4, l4, c4, a5, l5, c5, e0, e1, e2, e3, e4, e5, h0, h1, h2, h4, h5⟩ := elem_DelRole HSL.out HBR.out k hlt
          have hba : Below wr.heap.size wr (wr.alloc (.cells #[.string s0, .slice a1 l1 c1, .int .i64 n2, .bool y3, .slice a4 l4 c4, .slice a5 l5 c5] 98)) := (Below.refl _ _).alloc (Nat.le_refl _) _
          have HCE := Lib.hid (fits_DelRole h0 (h1.imp fun _ h => h.stay hba) (h4.imp fun _ h => h.stay hba) (h5.imp fun _ h => h.stay hba) (w := wr.alloc (.cells #[.string s0, .slice a1 l1 c1, .int .i64 n2, .bool y3, .slice a4 l4 c4, .slice a5 l5 c5] 98)) (n2 := n2) (y3 := y3))
          have HBA := Lib.hid (HBR.out.trans (hba.mono HBR.out.size))
          clear hba h0 h1 h2 h4 h5
          go_wp2_with (fail)
          refine HCE.out.mono ?_
          rintro e w3 ⟨b, rfl, hb⟩
          have HB3 : Hid (Below w.heap.size w w3) := HBA.out.trans (hb.mono HBA.out.size)
          clear hb
          cases b with
          | false =>
            go_wp2_with (fail)
            go_ret
            exact ⟨_, rfl, HB3.out⟩
          | true =>
            go_wp2_with (fail)
            go_roundw
            case rel => exact ⟨k + 1, by omega, by go_num, HB3⟩
            case measure => simp [intOf]; omega
        · go_wp2_with (fail)
          go_ret
          exact ⟨_, rfl, HBR.out⟩
set_option maxRecDepth 100000 in
set_option maxHeartbeats 8000000 in
theorem fits_Sig {w : World} {s0 : ByteArray} {n1 : Int} (h0 : s0.size ≤ 140737488351232) : Calls Tryz.prog 63 #[.agg #[.string s0, .int .i64 n1]] w (SomeB w) := by
  have H0 := Lib.hid h0
  obtain ⟨B, hB⟩ : ∃ B, B = w.heap.size := ⟨_, rfl⟩
  obtain ⟨W1, hW1⟩ : ∃ W1, W1 = w.alloc (.cells #[.string s0, .int .i64 n1] 38) := ⟨_, rfl⟩
  have HB1 : Hid (Below w.heap.size w W1) := by rw [hW1]; exact Lib.hid ((Below.refl _ _).alloc (Nat.le_refl _) _)
  have HS1 : Hid (W1.heap.size = B + 1) := by rw [hW1, World.size_alloc, hB]; exact Lib.hid rfl
  have HC : Hid (∀ W, Below W1.heap.size W1 W → W.cell? ⟨B, 0, none⟩ = some (.string s0) ∧ W.cell? ⟨B, 1, none⟩ = some (.int .i64 n1)) := by
    intro W hb
    have hc : W.heap[B]? = some (.cells #[.string s0, .int .i64 n1] 38 (0, 0)) := by
      rw [hb.block B (by rw [HS1.out]; omega), hW1, hB]; exact alloc_at _ _
    refine ⟨?_, ?_⟩ <;> simp [World.cell?, hc]
  have HB0 : Hid (B = w.heap.size) := hB
  have HW1 := Lib.hid hW1
  have HBW : Hid (Below W1.heap.size W1 W1) := Below.refl _ _
  have HE : Hid (∀ (b : Bool) (W : World), Below W1.heap.size W1 W → SomeB w (.returned (.bool b)) W) := fun b W hb => ⟨b, rfl, HB1.out.trans (hb.mono HB1.out.size)⟩
  obtain ⟨c0_, c1_⟩ := HC.out W1 (Below.refl _ _)
  clear hW1 hB h0
  by_cases g0 : 2147483647 < s0.size
  · have i0 : decide ((2147483647 : Int) < (s0.size : Int)) = true := decide_eq_true (by have := H0.out; omega)
    clear g0
    go_enter Tryz.func63, Tryz.ntmps63
    go_wp2_with (fail)
    go_ret
    exact (by have h := HE.out false _ HBW.out; rw [HW1.out] at h; exact h)
  have i0 : decide ((2147483647 : Int) < (s0.size : Int)) = false := decide_eq_false (by omega)
  clear g0
  go_enter Tryz.func63, Tryz.ntmps63
  go_wp2_with (fail)
  go_ret
  exact (by have h := HE.out true _ HBW.out; rw [HW1.out] at h; exact h)
theorem elem_Sig {w W : World} {a : Addr} {n c : Nat} (h : SL PSig 2 w (.slice (some a) n c)) (hb : Below w.heap.size w W) (j : Nat) (hj : j < n) :
    ∃ (s0 : ByteArray) (n1 : Int), W.cell? (a.add (j * 2)) = some (.string s0) ∧ W.cell? ⟨(a.add (j * 2)).block, (a.add (j * 2)).off + 1, none⟩ = some (.int .i64 n1) ∧ s0.size ≤ 140737488351232 ∧ (-9223372036854775808 ≤ n1 ∧ n1 ≤ 9223372036854775807) := by
  rcases h with h | ⟨a', n', c', e, _, _, h⟩
  · cases h
  · cases e
    obtain ⟨cs, hp, hc⟩ := h j hj
    obtain ⟨s0, n1, rfl, h0, h1⟩ := hp.stay hb
    have hcell : ∀ i u, ([.string s0, .int .i64 n1] : List Value)[i]? = some u → W.cell? (a.add (j * 2 + i)) = some u := fun i u hu => (hb.cell (cell_lt (hc i u hu))).trans (hc i u hu)
    exact ⟨s0, n1, hcell 0 _ rfl, by rw [← fieldU _ _ 1 (by omega)]; exact hcell 1 _ rfl, h0, h1⟩
set_option maxRecDepth 100000 in
set_option maxHeartbeats 8000000 in
theorem fitsS_Sig {w : World} {v : Value} (h : SL PSig 2 w v) : Calls Tryz.prog 35 #[v] w (SomeB w) := by
  rcases id h with rfl | ⟨a, n, c, rfl, h1, h2, _⟩
  · clear h
    go_enter Tryz.func35, Tryz.ntmps35
    go_wp2_with (fail)
    refine wp_loop_rounds 2 ?_
    rw [rounds_succ]
    go_wp2_with (fail)
    go_ret
    exact ⟨_, rfl, Below.refl _ _⟩
  · have HSL := Lib.hid h
    unfold maxLen at h2
    have hl : n ≤ 9223372036854775807 := by omega
    clear h
    by_cases hbig : 2147483647 < n
    · have i1 : decide ((2147483647 : Int) < (n : Int)) = true := decide_eq_true (by omega)
      clear h1 h2 hl hbig
      go_enter Tryz.func35, Tryz.ntmps35
      go_wp2_with (fail)
      go_ret
      exact ⟨_, rfl, Below.refl _ _⟩
    · have i1 : decide ((2147483647 : Int) < (n : Int)) = false := decide_eq_false (by omega)
      have hl2 : n ≤ 2147483647 := by omega
      clear h2 hl hbig
      go_enter Tryz.func35, Tryz.ntmps35
      go_wp2_with (fail)
      go_loopw [10] (fun i wr => ∃ k : Nat, k ≤ n ∧ i = .int .i64 k ∧ Hid (Below w.heap.size w wr)) (fun i _ => n - (intOf i).toNat)
      case atStart => exact ⟨0, Nat.zero_le _, rfl, Below.refl _ _⟩
      case round =>
        obtain ⟨k, hk, rfl, HBR⟩ := hrel
        by_cases hlt : k < n
        · obtain ⟨s0, n1, e0, e1, h0, h1⟩ := elem_Sig HSL.out HBR.out k hlt
          have hba : Below wr.heap.size wr (wr.alloc (.cells #[.string s0, .int .i64 n1] 38)) := (Below.refl _ _).alloc (Nat.le_refl _) _
          have HCE := Lib.hid (fits_Sig h0 (w := wr.alloc (.cells #[.string s0, .int .i64 n1] 38)) (n1 := n1))
          have HBA := Lib.hid (HBR.out.trans (hba.mono HBR.out.size))
          clear hba h0 h1
          go_wp2_with (fail)
          refine HCE.out.mono ?_
          rintro e w3 ⟨b, rfl, hb⟩
          have HB3 : Hid (Below w.heap.size w w3) := HBA.out.trans (hb.mono HBA.out.size)
          clear hb
          cases b with
          | false =>
            go_wp2_with (fail)
            go_ret
            exact ⟨_, rfl, HB3.out⟩
          | true =>
            go_wp2_with (fail)
            go_roundw
            case rel => exact ⟨k + 1, by omega, by go_num, HB3⟩
            case measure => simp [intOf]; omega
        · go_wp2_with (fail)
          go_ret
          exact ⟨_, rfl, HBR.out⟩
set_option maxRecDepth 100000 in
set_option maxHeartbeats 8000000 in
theorem fits_Succinct {w : World} {a0 : Option Addr} {l0 c0 : Nat} {n1 : Int} {n2 : Int} {s3 : ByteArray} (h0 : (∃ l, StrR w (.slice a0 l0 c0) l)) (h3 : s3.size ≤ 140737488351232) : Calls Tryz.prog 62 #[.agg #[.slice a0 l0 c0, .int .i64 n1, .int .i64 n2, .string s3]] w (SomeB w) := by
  have H0 := Lib.hid h0
  have hn0 : l0 ≤ maxLen := by obtain ⟨l, h⟩ := h0; obtain ⟨_, _, _, e, h⟩ := h.sl; injection e with _ e _; omega
  have H3 := Lib.hid h3
  unfold maxLen at *
  obtain ⟨B, hB⟩ : ∃ B, B = w.heap.size := ⟨_, rfl⟩
  obtain ⟨W1, hW1⟩ : ∃ W1, W1 = w.alloc (.cells #[.slice a0 l0 c0, .int .i64 n1, .int .i64 n2, .string s3] 28) := ⟨_, rfl⟩
  have HB1 : Hid (Below w.heap.size w W1) := by rw [hW1]; exact Lib.hid ((Below.refl _ _).alloc (Nat.le_refl _) _)
  have HS1 : Hid (W1.heap.size = B + 1) := by rw [hW1, World.size_alloc, hB]; exact Lib.hid rfl
  have HC : Hid (∀ W, Below W1.heap.size W1 W → W.cell? ⟨B, 0, none⟩ = some (.slice a0 l0 c0) ∧ W.cell? ⟨B, 1, none⟩ = some (.int .i64 n1) ∧ W.cell? ⟨B, 2, none⟩ = some (.int .i64 n2) ∧ W.cell? ⟨B, 3, none⟩ = some (.string s3)) := by
    intro W hb
    have hc : W.heap[B]? = some (.cells #[.slice a0 l0 c0, .int .i64 n1, .int .i64 n2, .string s3] 28 (0, 0)) := by
      rw [hb.block B (by rw [HS1.out]; omega), hW1, hB]; exact alloc_at _ _
    refine ⟨?_, ?_, ?_, ?_⟩ <;> simp [World.cell?, hc]
  have HB0 : Hid (B = w.heap.size) := hB
  have HW1 := Lib.hid hW1
  have HBW : Hid (Below W1.heap.size W1 W1) := Below.refl _ _
  have HE : Hid (∀ (b : Bool) (W : World), Below W1.heap.size W1 W → SomeB w (.returned (.bool b)) W) := fun b W hb => ⟨b, rfl, HB1.out.trans (hb.mono HB1.out.size)⟩
  obtain ⟨c0_, c1_, c2_, c3_⟩ := HC.out W1 (Below.refl _ _)
  clear hW1 hB h0 h3
  have hbx : Below w.heap.size w W1 := HB1.out.trans (HBW.out.mono HB1.out.size)
  have h0' := H0.out
  have HQ0 := Lib.hid (fits2_strR (h0'.choose_spec.stay hbx))
  clear hbx h0'
  go_enter Tryz.func62, Tryz.ntmps62
  go_wp2_with (fail)
  rw [← HB0.out, ← HW1.out]
  refine HQ0.out.mono ?_
  rintro e V0 ⟨b, rfl, rfl⟩
  cases b with
  | false =>
    go_wp2_with (fail)
    go_ret
    exact HE.out false _ HBW.out
  | true =>
    by_cases g3 : 2147483647 < s3.size
    · have i3 : decide ((2147483647 : Int) < (s3.size : Int)) = true := decide_eq_true (by have := H3.out; omega)
      clear g3
      go_wp2_with (fail)
      go_ret
      exact HE.out false _ HBW.out
    have i3 : decide ((2147483647 : Int) < (s3.size : Int)) = false := decide_eq_false (by omega)
    clear g3
    go_wp2_with (fail)
    go_ret
    exact HE.out true _ HBW.out
set_option maxRecDepth 100000 in
set_option maxHeartbeats 8000000 in
theorem fits_Delegations {w : World} {y0 : Bool} {a1 : Option Addr} {l1 c1 : Nat} {y2 : Bool} {a3 : Option Addr} {l3 c3 : Nat} {y4 : Bool} {a5 : Option Addr} {l5 c5 : Nat} {n6 : Int} {n7 : Int} {s8 : ByteArray} (h1 : SL PKey 3 w (.slice a1 l1 c1)) (h3 : SL PDelRole 6 w (.slice a3 l3 c3)) (h5 : (∃ l, StrR w (.slice a5 l5 c5) l)) (h8 : s8.size ≤ 140737488351232) : Calls Tryz.prog 34 #[.agg #[.bool y0, .slice a1 l1 c1, .bool y2, .slice a3 l3 c3, .bool y4, .slice a5 l5 c5, .int .i64 n6, .int .i64 n7, .string s8]] w (SomeB w) := by
  have H1 := Lib.hid h1
  have hn1 : l1 ≤ maxLen := by obtain ⟨_, _, _, e, h⟩ := h1.slice; injection e with _ e _; omega
  have H3 := Lib.hid h3
  have hn3 : l3 ≤ maxLen := by obtain ⟨_, _, _, e, h⟩ := h3.slice; injection e with _ e _; omega
  have H5 := Lib.hid h5
  have hn5 : l5 ≤ maxLen := by obtain ⟨l, h⟩ := h5; obtain ⟨_, _, _, e, h⟩ := h.sl; injection e with _ e _; omega
  have H8 := Lib.hid h8
  unfold maxLen at *
  obtain ⟨B, hB⟩ : ∃ B, B = w.heap.size := ⟨_, rfl⟩
  obtain ⟨W1, hW1⟩ : ∃ W1, W1 = w.alloc (.cells #[.bool y0, .slice a1 l1 c1, .bool y2, .slice a3 l3 c3, .bool y4, .slice a5 l5 c5, .int .i64 n6, .int .i64 n7, .string s8] 30) := ⟨_, rfl⟩
  have HB1 : Hid (Below w.heap.size w W1) := by rw [hW1]; exact Lib.hid ((Below.refl _ _).alloc (Nat.le_refl _) _)
  have HS1 : Hid (W1.heap.size = B + 1) := by rw [hW1, World.size_alloc, hB]; exact Lib.hid rfl
  have HC : Hid (∀ W, Below W1.heap.size W1 W → W.cell? ⟨B, 0, none⟩ = some (.bool y0) ∧ W.cell? ⟨B, 1, none⟩ = some (.slice a1 l1 c1) ∧ W.cell? ⟨B, 2, none⟩ = some (.bool y2) ∧ W.cell? ⟨B, 3, none⟩ = some (.slice a3 l3 c3) ∧ W.cell? ⟨B, 4, none⟩ = some (.bool y4) ∧ W.cell? ⟨B, 5, none⟩ = some (.slice a5 l5 c5) ∧ W.cell? ⟨B, 6, none⟩ = some (.int .i64 n6) ∧ W.cell? ⟨B, 7, none⟩ = some (.int .i64 n7) ∧ W.cell? ⟨B, 8, none⟩ = some (.string s8)) := by
    intro W hb
    have hc : W.heap[B]? = some (.cells #[.bool y0, .slice a1 l1 c1, .bool y2, .slice a3 l3 c3, .bool y4, .slice a5 l5 c5, .int .i64 n6, .int .i64 n7, .string s8] 30 (0, 0)) := by
      rw [hb.block B (by rw [HS1.out]; omega), hW1, hB]; exact alloc_at _ _
    refine ⟨?_, ?_, ?_, ?_, ?_, ?_, ?_, ?_, ?_⟩ <;> simp [World.cell?, hc]
  have HB0 : Hid (B = w.heap.size) := hB
  have HW1 := Lib.hid hW1
  have HBW : Hid (Below W1.heap.size W1 W1) := Below.refl _ _
  have HE : Hid (∀ (b : Bool) (W : World), Below W1.heap.size W1 W → SomeB w (.returned (.bool b)) W) := fun b W hb => ⟨b, rfl, HB1.out.trans (hb.mono HB1.out.size)⟩
  obtain ⟨c0_, c1_, c2_, c3_, c4_, c5_, c6_, c7_, c8_⟩ := HC.out W1 (Below.refl _ _)
  clear hW1 hB h1 h3 h5 h8
  have hbx : Below w.heap.size w W1 := HB1.out.trans (HBW.out.mono HB1.out.size)
  have HQ0 := Lib.hid (fitsS_Key (H1.out.stay (fun _ => PKey.stay hbx) hbx))
  clear hbx
  go_enter Tryz.func34, Tryz.ntmps34
  go_wp2_with (fail)
  rw [← HB0.out, ← HW1.out]
  refine HQ0.out.mono ?_
  rintro e V0 ⟨b, rfl, hb⟩
  have HV0 : Hid (Below W1.heap.size W1 V0) := HBW.out.trans (hb.mono HBW.out.size)
  clear hb
  clear c0_ c1_ c2_ c3_ c4_ c5_ c6_ c7_ c8_
  obtain ⟨c0_, c1_, c2_, c3_, c4_, c5_, c6_, c7_, c8_⟩ := HC.out V0 HV0.out
  cases b with
  | false =>
    go_wp2_with (fail)
    go_ret
    exact HE.out false _ HV0.out
  | true =>
    have hbx : Below w.heap.size w V0 := HB1.out.trans (HV0.out.mono HB1.out.size)
    have HQ1 := Lib.hid (fitsS_DelRole (H3.out.stay (fun _ => PDelRole.stay hbx) hbx))
    clear hbx
    go_wp2_with (fail)
    refine HQ1.out.mono ?_
    rintro e V1 ⟨b, rfl, hb⟩
    have HV1 : Hid (Below W1.heap.size W1 V1) := HV0.out.trans (hb.mono HV0.out.size)
    clear hb
    clear c0_ c1_ c2_ c3_ c4_ c5_ c6_ c7_ c8_
    obtain ⟨c0_, c1_, c2_, c3_, c4_, c5_, c6_, c7_, c8_⟩ := HC.out V1 HV1.out
    cases b with
    | false =>
      go_wp2_with (fail)
      go_ret
      exact HE.out false _ HV1.out
    | true =>
      have hbx : Below w.heap.size w V1 := HB1.out.trans (HV1.out.mono HB1.out.size)
      have HQ2 := Lib.hid (fits_Succinct (H5.out.imp fun _ h => h.stay hbx) H8.out (n1 := n6) (n2 := n7))
      clear hbx
      go_wp2_with (fail)
      refine HQ2.out.mono ?_
      rintro e V2 ⟨b, rfl, hb⟩
      have HV2 : Hid (Below W1.heap.size W1 V2) := HV1.out.trans (hb.mono HV1.out.size)
      clear hb
      clear c0_ c1_ c2_ c3_ c4_ c5_ c6_ c7_ c8_
      obtain ⟨c0_, c1_, c2_, c3_, c4_, c5_, c6_, c7_, c8_⟩ := HC.out V2 HV2.out
      cases b with
      | false =>
        go_wp2_with (fail)
        go_ret
        exact HE.out false _ HV2.out
      | true =>
        go_wp2_with (fail)
        go_ret
        exact HE.out true _ HV2.out
set_option maxRecDepth 100000 in
set_option maxHeartbeats 8000000 in
theorem fits_Meta {w : World} {s0 : ByteArray} {n1 : Int} {n2 : Int} {a3 : Option Addr} {l3 c3 : Nat} {a4 : Option Addr} {l4 c4 : Nat} {a5 : Option Addr} {l5 c5 : Nat} {y6 : Bool} {a7 : Option Addr} {l7 c7 : Nat} {y8 : Bool} {a9 : Option Addr} {l9 c9 : Nat} {y10 : Bool} {a11 : Option Addr} {l11 c11 : Nat} {n12 : Int} {n13 : Int} {s14 : ByteArray} {a15 : Option Addr} {l15 c15 : Nat} {a16 : Option Addr} {l16 c16 : Nat} (h0 : s0.size ≤ 140737488351232) (h3 : SL PKey 3 w (.slice a3 l3 c3)) (h4 : SL PRole 3 w (.slice a4 l4 c4)) (h5 : SL PFile 4 w (.slice a5 l5 c5)) (h7 : SL PKey 3 w (.slice a7 l7 c7)) (h9 : SL PDelRole 6 w (.slice a9 l9 c9)) (h11 : (∃ l, StrR w (.slice a11 l11 c11) l)) (h14 : s14.size ≤ 140737488351232) (h15 : SL PSig 2 w (.slice a15 l15 c15)) (h16 : (∃ l, BSrc w (.slice a16 l16 c16) l)) : Calls Tryz.prog 9 #[.agg #[.string s0, .int .i64 n1, .int .i64 n2, .slice a3 l3 c3, .slice a4 l4 c4, .slice a5 l5 c5, .bool y6, .slice a7 l7 c7, .bool y8, .slice a9 l9 c9, .bool y10, .slice a11 l11 c11, .int .i64 n12, .int .i64 n13, .string s14, .slice a15 l15 c15, .slice a16 l16 c16]] w (SomeB w) := by
  have H0 := Lib.hid h0
  have H3 := Lib.hid h3
  have hn3 : l3 ≤ maxLen := by obtain ⟨_, _, _, e, h⟩ := h3.slice; injection e with _ e _; omega
  have H4 := Lib.hid h4
  have hn4 : l4 ≤ maxLen := by obtain ⟨_, _, _, e, h⟩ := h4.slice; injection e with _ e _; omega
  have H5 := Lib.hid h5
  have hn5 : l5 ≤ maxLen := by obtain ⟨_, _, _, e, h⟩ := h5.slice; injection e with _ e _; omega
  have H7 := Lib.hid h7
  have hn7 : l7 ≤ maxLen := by obtain ⟨_, _, _, e, h⟩ := h7.slice; injection e with _ e _; omega
  have H9 := Lib.hid h9
  have hn9 : l9 ≤ maxLen := by obtain ⟨_, _, _, e, h⟩ := h9.slice; injection e with _ e _; omega
  have H11 := Lib.hid h11
  have hn11 : l11 ≤ maxLen := by obtain ⟨l, h⟩ := h11; obtain ⟨_, _, _, e, h⟩ := h.sl; injection e with _ e _; omega
  have H14 := Lib.hid h14
  have H15 := Lib.hid h15
  have hn15 : l15 ≤ maxLen := by obtain ⟨_, _, _, e, h⟩ := h15.slice; injection e with _ e _; omega
  have H16 := Lib.hid h16
  have hn16 : l16 ≤ maxLen := by obtain ⟨l, h⟩ := h16; obtain ⟨_, _, _, e, h⟩ := h.sl; injection e with _ e _; omega
  unfold maxLen at *
  obtain ⟨B, hB⟩ : ∃ B, B = w.heap.size := ⟨_, rfl⟩
  obtain ⟨W1, hW1⟩ : ∃ W1, W1 = w.alloc (.cells #[.string s0, .int .i64 n1, .int .i64 n2, .slice a3 l3 c3, .slice a4 l4 c4, .slice a5 l5 c5, .bool y6, .slice a7 l7 c7, .bool y8, .slice a9 l9 c9, .bool y10, .slice a11 l11 c11, .int .i64 n12, .int .i64 n13, .string s14, .slice a15 l15 c15, .slice a16 l16 c16] 34) := ⟨_, rfl⟩
  have HB1 : Hid (Below w.heap.size w W1) := by rw [hW1]; exact Lib.hid ((Below.refl _ _).alloc (Nat.le_refl _) _)
  have HS1 : Hid (W1.heap.size = B + 1) := by rw [hW1, World.size_alloc, hB]; exact Lib.hid rfl
  have HC : Hid (∀ W, Below W1.heap.size W1 W → W.cell? ⟨B, 0, none⟩ = some (.string s0) ∧ W.cell? ⟨B, 1, none⟩ = some (.int .i64 n1) ∧ W.cell? ⟨B, 2, none⟩ = some (.int .i64 n2) ∧ W.cell? ⟨B, 3, none⟩ = some (.slice a3 l3 c3) ∧ W.cell? ⟨B, 4, none⟩ = some (.slice a4 l4 c4) ∧ W.cell? ⟨B, 5, none⟩ = some (.slice a5 l5 c5) ∧ W.cell? ⟨B, 6, none⟩ = some (.bool y6) ∧ W.cell? ⟨B, 7, none⟩ = some (.slice a7 l7 c7) ∧ W.cell? ⟨B, 8, none⟩ = some (.bool y8) ∧ W.cell? ⟨B, 9, none⟩ = some (.slice a9 l9 c9) ∧ W.cell? ⟨B, 10, none⟩ = some (.bool y10) ∧ W.cell? ⟨B, 11, none⟩ = some (.slice a11 l11 c11) ∧ W.cell? ⟨B, 12, none⟩ = some (.int .i64 n12) ∧ W.cell? ⟨B, 13, none⟩ = some (.int .i64 n13) ∧ W.cell? ⟨B, 14, none⟩ = some (.string s14) ∧ W.cell? ⟨B, 15, none⟩ = some (.slice a15 l15 c15) ∧ W.cell? ⟨B, 16, none⟩ = some (.slice a16 l16 c16)) := by
    intro W hb
    have hc : W.heap[B]? = some (.cells #[.string s0, .int .i64 n1, .int .i64 n2, .slice a3 l3 c3, .slice a4 l4 c4, .slice a5 l5 c5, .bool y6, .slice a7 l7 c7, .bool y8, .slice a9 l9 c9, .bool y10, .slice a11 l11 c11, .int .i64 n12, .int .i64 n13, .string s14, .slice a15 l15 c15, .slice a16 l16 c16] 34 (0, 0)) := by
      rw [hb.block B (by rw [HS1.out]; omega), hW1, hB]; exact alloc_at _ _
    refine ⟨?_, ?_, ?_, ?_, ?_, ?_, ?_, ?_, ?_, ?_, ?_, ?_, ?_, ?_, ?_, ?_, ?_⟩ <;> simp [World.cell?, hc]
  have HB0 : Hid (B = w.heap.size) := hB
  have HW1 := Lib.hid hW1
  have HBW : Hid (Below W1.heap.size W1 W1) := Below.refl _ _
  have HE : Hid (∀ (b : Bool) (W : World), Below W1.heap.size W1 W → SomeB w (.returned (.bool b)) W) := fun b W hb => ⟨b, rfl, HB1.out.trans (hb.mono HB1.out.size)⟩
  obtain ⟨c0_, c1_, c2_, c3_, c4_, c5_, c6_, c7_, c8_, c9_, c10_, c11_, c12_, c13_, c14_, c15_, c16_⟩ := HC.out W1 (Below.refl _ _)
  clear hW1 hB h0 h3 h4 h5 h7 h9 h11 h14 h15 h16
  by_cases g0 : 2147483647 < s0.size
  · have i0 : decide ((2147483647 : Int) < (s0.size : Int)) = true := decide_eq_true (by have := H0.out; omega)
    clear g0
    go_enter Tryz.func9, Tryz.ntmps9
    go_wp2_with (fail)
    go_ret
    exact (by have h := HE.out false _ HBW.out; rw [HW1.out] at h; exact h)
  have i0 : decide ((2147483647 : Int) < (s0.size : Int)) = false := decide_eq_false (by omega)
  clear g0
  have hbx : Below w.heap.size w W1 := HB1.out.trans (HBW.out.mono HB1.out.size)
  have HQ0 := Lib.hid (fitsS_Key (H3.out.stay (fun _ => PKey.stay hbx) hbx))
  clear hbx
  go_enter Tryz.func9, Tryz.ntmps9
  go_wp2_with (fail)
  rw [← HB0.out, ← HW1.out]
  refine HQ0.out.mono ?_
  rintro e V0 ⟨b, rfl, hb⟩
  have HV0 : Hid (Below W1.heap.size W1 V0) := HBW.out.trans (hb.mono HBW.out.size)
  clear hb
  clear c0_ c1_ c2_ c3_ c4_ c5_ c6_ c7_ c8_ c9_ c10_ c11_ c12_ c13_ c14_ c15_ c16_
  obtain ⟨c0_, c1_, c2_, c3_, c4_, c5_, c6_, c7_, c8_, c9_, c10_, c11_, c12_, c13_, c14_, c15_, c16_⟩ := HC.out V0 HV0.out
  cases b with
  | false =>
    go_wp2_with (fail)
    go_ret
    exact HE.out false _ HV0.out
  | true =>
    have hbx : Below w.heap.size w V0 := HB1.out.trans (HV0.out.mono HB1.out.size)
    have HQ1 := Lib.hid (fitsS_Role (H4.out.stay (fun _ => PRole.stay hbx) hbx))
    clear hbx
    go_wp2_with (fail)
    refine HQ1.out.mono ?_
    rintro e V1 ⟨b, rfl, hb⟩
    have HV1 : Hid (Below W1.heap.size W1 V1) := HV0.out.trans (hb.mono HV0.out.size)
    clear hb
    clear c0_ c1_ c2_ c3_ c4_ c5_ c6_ c7_ c8_ c9_ c10_ c11_ c12_ c13_ c14_ c15_ c16_
    obtain ⟨c0_, c1_, c2_, c3_, c4_, c5_, c6_, c7_, c8_, c9_, c10_, c11_, c12_, c13_, c14_, c15_, c16_⟩ := HC.out V1 HV1.out
    cases b with
    | false =>
      go_wp2_with (fail)
      go_ret
      exact HE.out false _ HV1.out
    | true =>
      have hbx : Below w.heap.size w V1 := HB1.out.trans (HV1.out.mono HB1.out.size)
      have HQ2 := Lib.hid (fitsS_File (H5.out.stay (fun _ => PFile.stay hbx) hbx))
      clear hbx
      go_wp2_with (fail)
      refine HQ2.out.mono ?_
      rintro e V2 ⟨b, rfl, hb⟩
      have HV2 : Hid (Below W1.heap.size W1 V2) := HV1.out.trans (hb.mono HV1.out.size)
      clear hb
      clear c0_ c1_ c2_ c3_ c4_ c5_ c6_ c7_ c8_ c9_ c10_ c11_ c12_ c13_ c14_ c15_ c16_
      obtain ⟨c0_, c1_, c2_, c3_, c4_, c5_, c6_, c7_, c8_, c9_, c10_, c11_, c12_, c13_, c14_, c15_, c16_⟩ := HC.out V2 HV2.out
      cases b with
      | false =>
        go_wp2_with (fail)
        go_ret
        exact HE.out false _ HV2.out
      | true =>
        have hbx : Below w.heap.size w V2 := HB1.out.trans (HV2.out.mono HB1.out.size)
        have HQ3 := Lib.hid (fits_Delegations (H7.out.stay (fun _ => PKey.stay hbx) hbx) (H9.out.stay (fun _ => PDelRole.stay hbx) hbx) (H11.out.imp fun _ h => h.stay hbx) H14.out (y0 := y6) (y2 := y8) (y4 := y10) (n6 := n12) (n7 := n13))
        clear hbx
        go_wp2_with (fail)
        refine HQ3.out.mono ?_
        rintro e V3 ⟨b, rfl, hb⟩
        have HV3 : Hid (Below W1.heap.size W1 V3) := HV2.out.trans (hb.mono HV2.out.size)
        clear hb
        clear c0_ c1_ c2_ c3_ c4_ c5_ c6_ c7_ c8_ c9_ c10_ c11_ c12_ c13_ c14_ c15_ c16_
        obtain ⟨c0_, c1_, c2_, c3_, c4_, c5_, c6_, c7_, c8_, c9_, c10_, c11_, c12_, c13_, c14_, c15_, c16_⟩ := HC.out V3 HV3.out
        cases b with
        | false =>
          go_wp2_with (fail)
          go_ret
          exact HE.out false _ HV3.out
        | true =>
          have hbx : Below w.heap.size w V3 := HB1.out.trans (HV3.out.mono HB1.out.size)
          have HQ4 := Lib.hid (fitsS_Sig (H15.out.stay (fun _ => PSig.stay hbx) hbx))
          clear hbx
          go_wp2_with (fail)
          refine HQ4.out.mono ?_
          rintro e V4 ⟨b, rfl, hb⟩
          have HV4 : Hid (Below W1.heap.size W1 V4) := HV3.out.trans (hb.mono HV3.out.size)
          clear hb
          clear c0_ c1_ c2_ c3_ c4_ c5_ c6_ c7_ c8_ c9_ c10_ c11_ c12_ c13_ c14_ c15_ c16_
          obtain ⟨c0_, c1_, c2_, c3_, c4_, c5_, c6_, c7_, c8_, c9_, c10_, c11_, c12_, c13_, c14_, c15_, c16_⟩ := HC.out V4 HV4.out
          cases b with
          | false =>
            go_wp2_with (fail)
            go_ret
            exact HE.out false _ HV4.out
          | true =>
            by_cases g16 : 2147483647 < l16
            · have i16 : decide ((2147483647 : Int) < (l16 : Int)) = true := decide_eq_true (by have := H16.out; omega)
              clear g16
              go_wp2_with (fail)
              go_ret
              exact HE.out false _ HV4.out
            have i16 : decide ((2147483647 : Int) < (l16 : Int)) = false := decide_eq_false (by omega)
            clear g16
            go_wp2_with (fail)
            go_ret
            exact HE.out true _ HV4.out
end Go.Proofs.YthafpdceknleiaaGreatDoor
