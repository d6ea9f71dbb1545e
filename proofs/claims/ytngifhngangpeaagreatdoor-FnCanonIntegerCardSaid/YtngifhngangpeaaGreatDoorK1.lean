/- utf16.RuneLen, EncodeRune, Encode; compareSortKeys. -/
import Derived.Test.YtngifhngangpeaaGreatDoorN1
import Derived.Deep.OwnRows
import Derived.Deep.LoopGhost
import Derived.Deep.DeepFit
open Go Go.RowKit
namespace Go.Proofs.YtngifhngangpeaaGreatDoor
open Go in
theorem i32_and10 {x : Int} (h₀ : 0 ≤ x) (h₁ : x < 2147483648) : bits .and .i32 x 1023 = x % 1024 :=
  bits_mask .i32 31 (by decide) wraps_i32 10 (by decide) x h₀ h₁
set_option maxHeartbeats 1000000 in
theorem runeLen_1a (r : Int) (w : World) (h0 : 0 ≤ r) (h1 : r < 55296) : Calls Tryz.prog 156 #[.int .i32 r] w fun e w' => e = .returned (.int .i64 1) ∧ w = w' := by
  go_enter Tryz.func156, Tryz.ntmps156
  go_wp2
  go_ret
  exact ⟨rfl, rfl⟩
set_option maxHeartbeats 1000000 in
theorem runeLen_1b (r : Int) (w : World) (h0 : 57344 ≤ r) (h1 : r < 65536) : Calls Tryz.prog 156 #[.int .i32 r] w fun e w' => e = .returned (.int .i64 1) ∧ w = w' := by
  have h2 : 0 ≤ r := by omega
  have h3 : ¬ r < 55296 := by omega
  go_enter Tryz.func156, Tryz.ntmps156
  go_wp2
  go_ret
  exact ⟨rfl, rfl⟩
set_option maxHeartbeats 1000000 in
theorem runeLen_2 (r : Int) (w : World) (h0 : 65536 ≤ r) (h1 : r ≤ 1114111) : Calls Tryz.prog 156 #[.int .i32 r] w fun e w' => e = .returned (.int .i64 2) ∧ w = w' := by
  have h2 : 0 ≤ r := by omega
  have h3 : ¬ r < 55296 := by omega
  have h4 : 57344 ≤ r := by omega
  have h5 : ¬ r < 65536 := by omega
  go_enter Tryz.func156, Tryz.ntmps156
  go_wp2
  go_ret
  exact ⟨rfl, rfl⟩
set_option maxHeartbeats 1000000 in
theorem runeLen_no (r : Int) (w : World) (h0 : 55296 ≤ r) (h1 : r < 57344) : Calls Tryz.prog 156 #[.int .i32 r] w fun e w' => e = .returned (.int .i64 (-1)) ∧ w = w' := by
  have h2 : 0 ≤ r := by omega
  have h3 : ¬ r < 55296 := by omega
  have h4 : ¬ 57344 ≤ r := by omega
  have h5 : ¬ 65536 ≤ r := by omega
  go_enter Tryz.func156, Tryz.ntmps156
  go_wp2
  go_ret
  exact ⟨rfl, rfl⟩
set_option maxHeartbeats 1000000 in
theorem encodeRune_2 (r : Int) (w : World) (h0 : 65536 ≤ r) (h1 : r ≤ 1114111) : Calls Tryz.prog 157 #[.int .i32 r] w fun e w' => e = .returned (.tuple #[.int .i32 (55296 + (r - 65536) / 1024), .int .i32 (56320 + (r - 65536) % 1024)]) ∧ w = w' := by
  have h5 : ¬ r < 65536 := by omega
  have h6 : ¬ 1114111 < r := by omega
  have HB1 : Hid (bits .and .i32 ((r - 65536) / 1024) 1023 = (r - 65536) / 1024) := by
    show _ = _
    rw [i32_and10 (by omega) (by omega)]; omega
  have HB2 : Hid (bits .and .i32 (r - 65536) 1023 = (r - 65536) % 1024) := i32_and10 (by omega) (by omega)
  have HW1 : Hid (wrap32 (55296 + (r - 65536) / 1024) = 55296 + (r - 65536) / 1024) := by show _ = _; unfold wrap32; omega
  have HW2 : Hid (wrap32 (56320 + (r - 65536) % 1024) = 56320 + (r - 65536) % 1024) := by show _ = _; unfold wrap32; omega
  go_enter Tryz.func157, Tryz.ntmps157
  go_wp2
  go_ret2
  refine ⟨?_, rfl⟩
  rw [HB1.out, HB2.out, HW1.out, HW2.out]
  rfl

/-- The runes as the decoder gives them are no larger than U+10FFFF; a unit is one of 16 bits. -/
theorem unit16_lt {r u : Nat} (h : u ∈ unit16 r) : u < 65536 := by
  unfold unit16 at h
  split at h
  · simp at h; omega
  split at h
  · simp at h; omega
  · simp at h; omega
/-- Whether a rune has two units. -/
def two (r : Nat) : Nat := if 65536 ≤ r then 1 else 0
theorem two_le (r : Nat) : two r ≤ 1 := by unfold two; split <;> omega
def cnt2 (l : List Nat) : Nat := (l.map two).sum
theorem cnt2_snoc (l : List Nat) (r : Nat) : cnt2 (l ++ [r]) = cnt2 l + two r := by simp [cnt2]
theorem unit16_len {r : Nat} (h : r ≤ 1114111) : (unit16 r).length = 1 + two r := by
  unfold unit16 two
  split
  · rw [if_neg (by omega)]; rfl
  split
  · rw [if_pos (by omega)]; rfl
  · rw [if_neg (by omega)]; rfl
theorem units_len {l : List Nat} (h : ∀ r ∈ l, r ≤ 1114111) : (l.flatMap unit16).length = l.length + cnt2 l := by
  induction l with
  | nil => rfl
  | cons x l ih =>
    have h1 := unit16_len (h x (by simp))
    have h2 := ih (fun r hr => h r (by simp [hr]))
    simp only [List.flatMap_cons, List.length_append, List.length_cons, h1, h2, cnt2, List.map_cons, List.sum_cons]
    omega
theorem cnt2_le (l : List Nat) : cnt2 l ≤ l.length := by
  induction l with
  | nil => simp [cnt2]
  | cons x l ih => simp only [cnt2, List.map_cons, List.sum_cons, List.length_cons] at *; have := two_le x; omega
/-- A row of units in block b, N cells long, that begins with l. -/
def ERow (b N : Nat) (l : List Nat) (W : World) : Prop := ∃ cs : Array Value, W.heap[b]? = some (.cells cs 60 (0, 0)) ∧ cs.size = N ∧ ∀ (i u : Nat), l[i]? = some u → cs[i]? = some (Value.int .u16 (u : Int))
theorem ERow.cells {b N : Nat} {l : List Nat} {W : World} (h : ERow b N l W) : ∀ (i u : Nat), l[i]? = some u → W.cell? ⟨b, i, none⟩ = some (Value.int .u16 (u : Int)) := by
  obtain ⟨cs, h1, _, h3⟩ := h
  intro i u hu
  simp only [World.cell?, h1]; exact h3 i u hu
theorem ERow.any {b N : Nat} {l : List Nat} {W : World} (h : ERow b N l W) {i : Nat} (hi : i < N) : ∃ v, W.cell? ⟨b, i, none⟩ = some v := by
  obtain ⟨cs, h1, h2, h3⟩ := h
  exact ⟨cs[i]'(by omega), by simp only [World.cell?, h1]; exact Array.getElem?_eq_getElem (by omega)⟩
theorem ERow.fz {b N : Nat} {l : List Nat} {W : World} (h : ERow b N l W) (i : Nat) : W.frozen? ⟨b, i, none⟩ = false := by
  obtain ⟨cs, h1, h2, h3⟩ := h
  simp [World.frozen?, h1]
theorem ERow.push {b N : Nat} {l : List Nat} {W : World} (h : ERow b N l W) (hl : l.length < N) (u : Nat) : ERow b N (l ++ [u]) (W.setCell ⟨b, l.length, none⟩ (Value.int .u16 (u : Int))) := by
  obtain ⟨cs, h1, h2, h3⟩ := h
  refine ⟨_, setAt h1 l.length _, by simpa using h2, fun i v hv => ?_⟩
  rcases Nat.lt_or_ge i l.length with hi | hi
  · rw [List.getElem?_append_left hi] at hv
    rw [Array.getElem?_setIfInBounds_ne (by omega)]; exact h3 i v hv
  · rw [List.getElem?_append_right hi] at hv
    have h0 : i - l.length = 0 := by
      rcases Nat.eq_zero_or_pos (i - l.length) with h | h
      · exact h
      · rw [List.getElem?_eq_none (by simp; omega)] at hv; cases hv
    rw [h0] at hv
    simp only [List.getElem?_cons_zero, Option.some.injEq] at hv
    subst hv
    obtain rfl : i = l.length := by omega
    rw [Array.getElem?_setIfInBounds_self_of_lt (by omega)]
theorem ERow.set {b N : Nat} {l : List Nat} {W : World} (h : ERow b N l W) {W' : World} (hk : W'.heap[b]? = W.heap[b]?) : ERow b N l W' := by
  obtain ⟨cs, h1, h2, h3⟩ := h
  exact ⟨cs, by rw [hk]; exact h1, h2, h3⟩
theorem info_u16 : (Tryz.prog.info? 60).map (fun i => (i.zero, i.size, i.bytes)) = some (some (.int .u16 0), 1, 2) := by kernel_rfl

def EncP (l : List Nat) (w : World) (e : Ending) (w' : World) : Prop :=
  ∃ b cp, e = .returned (.slice (some ⟨b, 0, none⟩) l.length cp) ∧ w.heap.size ≤ b ∧ b < w'.heap.size ∧ Below w.heap.size w w' ∧ (∀ (i u : Nat), l[i]? = some u → w'.cell? ⟨b, i, none⟩ = some (Value.int .u16 (u : Int))) ∧ l.length ≤ cp ∧ cp ≤ maxLen
set_option maxRecDepth 100000 in
set_option maxHeartbeats 4000000 in
theorem encode_any (rs : List Nat) (g cp : Nat) (w : World) (hrow : ∀ i r, rs[i]? = some r → w.cell? ⟨g, i, none⟩ = some (.int .i32 (r : Nat))) (hg : g < w.heap.size) (hr : ∀ r ∈ rs, r ≤ 1114111) (hlen : rs.length ≤ 4294967296) :
    Calls Tryz.prog 127 #[.slice (some ⟨g, 0, none⟩) rs.length cp] w (EncP (rs.flatMap unit16) w) := by
  obtain ⟨i0, hi, hz0, hz1, hz2⟩ := info_parts info_u16
  have HROW := Lib.hid hrow
  have HR := Lib.hid hr
  have HUL := Lib.hid (units_len hr)
  have hc2 := cnt2_le rs
  clear hrow hr
  go_enter Tryz.func127, Tryz.ntmps127
  go_wp2
  go_loop [3, 15] (fun n i => ∃ k : Nat, k ≤ rs.length ∧ i = .int .i64 k ∧ n = .int .i64 ((rs.length + cnt2 (rs.take k) : Nat) : Int)) (fun _ i => rs.length - (intOf i).toNat)
  case atStart => exact ⟨0, Nat.zero_le _, rfl, by simp [cnt2]⟩
  case round =>
    obtain ⟨k, hk, rfl, rfl⟩ := hrel
    have hck : cnt2 (rs.take k) ≤ k := Nat.le_trans (cnt2_le _) (List.length_take_le _ _)
    by_cases hlt : k < rs.length
    · have hx : rs[k]? = some rs[k] := List.getElem?_eq_getElem hlt
      have hcell := HROW.out k _ hx
      have HTK : Hid (cnt2 (rs.take (k + 1)) = cnt2 (rs.take k) + two rs[k]) := by
        show _ = _
        rw [List.take_succ_eq_append_getElem hlt, cnt2_snoc]
      clear hx
      obtain ⟨x, hxx⟩ : ∃ x, x = rs[k] := ⟨_, rfl⟩
      rw [← hxx] at hcell HTK
      clear hxx
      obtain ⟨C, hC⟩ : ∃ C, C = cnt2 (rs.take k) := ⟨_, rfl⟩
      rw [← hC] at hck HTK ⊢
      clear hC
      obtain ⟨X, hX⟩ : ∃ X : Int, X = (x : Int) := ⟨_, rfl⟩
      rw [← hX] at hcell
      have HX := Lib.hid hX
      have hX0 : 0 ≤ X := by omega
      clear hX
      by_cases h6 : 65536 ≤ X
      · go_wp2
        go_round
        case rel => exact ⟨k + 1, by omega, by go_num, by rw [HTK.out, two, if_pos (by have := HX.out; omega)]; go_num⟩
        case measure => simp [intOf]; omega
      · go_wp2
        go_round
        case rel => exact ⟨k + 1, by omega, by go_num, by rw [HTK.out, two, if_neg (by have := HX.out; omega)]; rfl⟩
        case measure => simp [intOf]; omega
    · obtain rfl : k = rs.length := by omega
      have HN : Hid ((rs.length + cnt2 (rs.take rs.length) : Nat) = (rs.flatMap unit16).length) := by show _ = _; rw [List.take_length, HUL.out]
      rw [HN.out]
      obtain ⟨N, hN⟩ : ∃ N, N = (rs.flatMap unit16).length := ⟨_, rfl⟩
      rw [← hN]
      have HNN := Lib.hid hN
      have hN2 : N ≤ 8589934592 := by rw [hN, HUL.out]; omega
      clear hN hk hlt HN
      go_wp2_with (at_make; refine wpList_make_row _ rfl _ _ 153 rfl 60 i0 (.int .u16 0) Tryz.underlying153 hi hz0 hz1 rfl .i64 .i64 N rfl rfl (by rw [hz2]; omega) (by omega) ?_)
      have HW0 : Hid (ERow w.heap.size N [] (w.alloc (.cells (madeCells #[.int .u16 0] N) 60)) ∧ Below w.heap.size w (w.alloc (.cells (madeCells #[.int .u16 0] N) 60))) :=
        ⟨⟨_, alloc_at _ _, by rw [size_madeCells], fun i u hu => by cases hu⟩, (Below.refl _ _).alloc (Nat.le_refl _) _⟩
      go_loopw [3, 28] (fun n i wr => ∃ k m : Nat, k ≤ rs.length ∧ i = .int .i64 k ∧ n = .int .i64 m ∧ Hid (m = ((rs.take k).flatMap unit16).length) ∧ Hid (ERow w.heap.size N ((rs.take k).flatMap unit16) wr ∧ Below w.heap.size w wr)) (fun _ i _ => rs.length - (intOf i).toNat)
      case atStart => exact ⟨0, 0, Nat.zero_le _, rfl, rfl, rfl, HW0.out⟩
      case round =>
        obtain ⟨k, m, hk, rfl, rfl, HM, HE⟩ := hrel
        clear HW0
        by_cases hlt : k < rs.length
        · have hx : rs[k]? = some rs[k] := List.getElem?_eq_getElem hlt
          have hcell := (HE.out.2.cell (p := ⟨g, k, none⟩) hg).trans (HROW.out k _ hx)
          have HTK : Hid ((rs.take (k + 1)).flatMap unit16 = (rs.take k).flatMap unit16 ++ unit16 rs[k]) := by
            show _ = _
            rw [List.take_succ_eq_append_getElem hlt, List.flatMap_append]; simp
          have HLE : Hid (((rs.take k).flatMap unit16).length + (unit16 rs[k]).length ≤ N) := by
            show _ ≤ _
            rw [← List.length_append, ← HTK.out, HNN.out]
            have : rs = rs.take (k + 1) ++ rs.drop (k + 1) := (List.take_append_drop _ _).symm
            conv => rhs; rw [this, List.flatMap_append, List.length_append]
            omega
          have hrx := HR.out rs[k] (List.getElem_mem _)
          clear hx
          obtain ⟨x, hxx⟩ : ∃ x, x = rs[k] := ⟨_, rfl⟩
          rw [← hxx] at hcell HTK HLE hrx
          clear hxx
          obtain ⟨U, hU⟩ : ∃ U, U = (rs.take k).flatMap unit16 := ⟨_, rfl⟩
          rw [← hU] at HTK HLE HM HE
          clear hU
          obtain ⟨X, hX⟩ : ∃ X : Int, X = (x : Int) := ⟨_, rfl⟩
          rw [← hX] at hcell
          have HX := Lib.hid hX
          have hX0 : 0 ≤ X := by omega
          have hX1 : X ≤ 1114111 := by omega
          have hz := HE.out.2.size
          clear hX hrx
          by_cases h6 : 65536 ≤ X
          · have HU : Hid (unit16 x = [55296 + (x - 65536) / 1024, 56320 + (x - 65536) % 1024]) := by
              show _ = _
              have := HX.out
              unfold unit16; rw [if_neg (by omega), if_pos (by omega)]
            have hm1 : m + 1 < N := by have := HLE.out; rw [HU.out] at this; have := HM.out; simp at *; omega
            obtain ⟨u1, hu1⟩ : ∃ u1 : Nat, u1 = 55296 + (x - 65536) / 1024 := ⟨_, rfl⟩
            obtain ⟨u2, hu2⟩ : ∃ u2 : Nat, u2 = 56320 + (x - 65536) % 1024 := ⟨_, rfl⟩
            have HC1 : Hid ((55296 + (X - 65536) / 1024) = (u1 : Int)) := by show _ = _; have := HX.out; omega
            have HC2 : Hid ((56320 + (X - 65536) % 1024) = (u2 : Int)) := by show _ = _; have := HX.out; omega
            rw [← hu1, ← hu2] at HU
            have hu1l : u1 < 65536 := by have := HX.out; omega
            have hu2l : u2 < 65536 := by have := HX.out; omega
            clear hu1 hu2
            have hf0 := HE.out.1.fz m
            have hf1 := HE.out.1.fz (m + 1)
            obtain ⟨v1, hv1⟩ := HE.out.1.any (i := m) (by omega)
            obtain ⟨v2, hv2⟩ := HE.out.1.any (i := m + 1) (by omega)
            have he2 := encodeRune_2 X wr h6 hX1
            rw [HC1.out, HC2.out] at he2
            have HE2 := Lib.hid he2
            clear he2
            go_wp2_with (fail)
            refine (runeLen_2 X _ h6 hX1).mono ?_
            rintro e w' ⟨rfl, rfl⟩
            go_wp2_with (fail)
            refine HE2.out.mono ?_
            rintro e w' ⟨rfl, rfl⟩
            go_wp2_with (fail)
            go_roundw
            case rel =>
              have hp := HE.out.1.push (by have := HM.out; omega) u1
              have hp2 := hp.push (by rw [List.length_append]; have := HM.out; simp; omega) u2
              rw [List.length_append, ← HM.out, List.append_assoc] at hp2
              exact ⟨k + 1, m + 2, by omega, by go_num, by go_num, by show _ = _; rw [HTK.out, HU.out, List.length_append, ← HM.out]; rfl, by rw [HTK.out, HU.out]; exact hp2, (HE.out.2.setCell (Nat.le_refl _) _).setCell (Nat.le_refl _) _⟩
            case measure => simp [intOf]; omega
          · have h5 : (X < 55296) ∨ (57344 ≤ X ∧ X < 65536) ∨ (55296 ≤ X ∧ X < 57344) := by omega
            rcases h5 with h5 | ⟨h5, h5'⟩ | ⟨h5, h5'⟩
            · obtain ⟨u1, hu1⟩ : ∃ u1 : Nat, u1 = x := ⟨_, rfl⟩
              have HUX : Hid (unit16 x = [u1]) := by show _ = _; have := HX.out; unfold unit16; rw [if_pos (by omega), hu1]
              have HC1 : Hid (X = (u1 : Int)) := by show _ = _; rw [hu1]; exact HX.out
              clear hu1
              have HU : Hid (unit16 x = [u1]) := by
                show _ = _
                exact HUX.out
              have hm1 : m < N := by have := HLE.out; rw [HU.out] at this; have := HM.out; simp at *; omega
              have hf0 := HE.out.1.fz m
              obtain ⟨v1, hv1⟩ := HE.out.1.any (i := m) (by omega)
              go_wp2_with (fail)
              refine (runeLen_1a X _ hX0 h5).mono ?_
              rintro e w' ⟨rfl, rfl⟩
              go_wp2_with (fail)
              rw [HC1.out]
              go_roundw
              case rel =>
                have hp := HE.out.1.push (by have := HM.out; omega) u1
                rw [← HM.out] at hp
                exact ⟨k + 1, m + 1, by omega, by go_num, by go_num, by show _ = _; rw [HTK.out, HU.out, List.length_append, ← HM.out]; rfl, by rw [HTK.out, HU.out]; exact hp, HE.out.2.setCell (Nat.le_refl _) _⟩
              case measure => simp [intOf]; omega
            · obtain ⟨u1, hu1⟩ : ∃ u1 : Nat, u1 = x := ⟨_, rfl⟩
              have HUX : Hid (unit16 x = [u1]) := by show _ = _; have := HX.out; unfold unit16; rw [if_pos (by omega), hu1]
              have HC1 : Hid (X = (u1 : Int)) := by show _ = _; rw [hu1]; exact HX.out
              clear hu1
              have HU : Hid (unit16 x = [u1]) := by
                show _ = _
                exact HUX.out
              have hm1 : m < N := by have := HLE.out; rw [HU.out] at this; have := HM.out; simp at *; omega
              have hf0 := HE.out.1.fz m
              obtain ⟨v1, hv1⟩ := HE.out.1.any (i := m) (by omega)
              go_wp2_with (fail)
              refine (runeLen_1b X _ h5 h5').mono ?_
              rintro e w' ⟨rfl, rfl⟩
              go_wp2_with (fail)
              rw [HC1.out]
              go_roundw
              case rel =>
                have hp := HE.out.1.push (by have := HM.out; omega) u1
                rw [← HM.out] at hp
                exact ⟨k + 1, m + 1, by omega, by go_num, by go_num, by show _ = _; rw [HTK.out, HU.out, List.length_append, ← HM.out]; rfl, by rw [HTK.out, HU.out]; exact hp, HE.out.2.setCell (Nat.le_refl _) _⟩
              case measure => simp [intOf]; omega
            · obtain ⟨u1, hu1⟩ : ∃ u1 : Nat, u1 = 65533 := ⟨_, rfl⟩
              have HUX : Hid (unit16 x = [u1]) := by show _ = _; have := HX.out; unfold unit16; rw [if_neg (by omega), if_neg (by omega), hu1]
              have HC1 : Hid ((65533 : Int) = (u1 : Int)) := by show _ = _; rw [hu1]; rfl
              clear hu1
              have HU : Hid (unit16 x = [u1]) := by
                show _ = _
                exact HUX.out
              have hm1 : m < N := by have := HLE.out; rw [HU.out] at this; have := HM.out; simp at *; omega
              have hf0 := HE.out.1.fz m
              obtain ⟨v1, hv1⟩ := HE.out.1.any (i := m) (by omega)
              go_wp2_with (fail)
              refine (runeLen_no X _ h5 h5').mono ?_
              rintro e w' ⟨rfl, rfl⟩
              go_wp2_with (fail)
              rw [HC1.out]
              go_roundw
              case rel =>
                have hp := HE.out.1.push (by have := HM.out; omega) u1
                rw [← HM.out] at hp
                exact ⟨k + 1, m + 1, by omega, by go_num, by go_num, by show _ = _; rw [HTK.out, HU.out, List.length_append, ← HM.out]; rfl, by rw [HTK.out, HU.out]; exact hp, HE.out.2.setCell (Nat.le_refl _) _⟩
              case measure => simp [intOf]; omega
        · obtain rfl : k = rs.length := by omega
          rw [List.take_length] at HM HE
          rw [← HNN.out] at HM
          obtain rfl : m = N := HM.out
          have hz := HE.out.2.size
          go_wp2_with (fail)
          go_ret
          refine ⟨w.heap.size, m, by rw [← HNN.out]; rfl, Nat.le_refl _, ?_, HE.out.2, HE.out.1.cells, by rw [← HNN.out]; exact Nat.le_refl _, by unfold maxLen; omega⟩
          obtain ⟨cs, h1, _⟩ := HE.out.1
          rcases Nat.lt_or_ge w.heap.size wr.heap.size with h | h
          · exact h
          · rw [Array.getElem?_eq_none h] at h1; cases h1

theorem cmpK_drop {a b : List Nat} {k x y : Nat} (ha : a[k]? = some x) (hb : b[k]? = some y) : cmpK (a.drop k) (b.drop k) = if x = y then cmpK (a.drop (k + 1)) (b.drop (k + 1)) else (x : Int) - y := by
  have h1 := (List.getElem?_eq_some_iff.1 ha)
  have h2 := (List.getElem?_eq_some_iff.1 hb)
  obtain ⟨h1, rfl⟩ := h1
  obtain ⟨h2, rfl⟩ := h2
  rw [List.drop_eq_getElem_cons h1, List.drop_eq_getElem_cons h2, cmpK_cons]
theorem cmpK_end {a b : List Nat} {k : Nat} (ha : k ≤ a.length) (hb : k ≤ b.length) (h : k = a.length ∨ k = b.length) : cmpK (a.drop k) (b.drop k) = (a.length : Int) - b.length := by
  rcases h with rfl | rfl
  · rw [List.drop_length, cmpK_nil, List.length_drop]; omega
  · rw [List.drop_length, cmpK_nil', List.length_drop]; omega
/-- A key as it lies in memory. -/
def KeyAt (w : World) (a : List Nat) (g _c : Nat) : Prop := (∀ (i u : Nat), a[i]? = some u → w.cell? ⟨g, i, none⟩ = some (Value.int .u16 (u : Int))) ∧ (∀ u ∈ a, u < 65536) ∧ a.length ≤ 8589934592
def CmpP (a b : List Nat) (w : World) (e : Ending) (w' : World) : Prop := e = .returned (.int .i64 (cmpK a b)) ∧ ∃ n, w' = w.drewN n
set_option maxRecDepth 100000 in
set_option maxHeartbeats 4000000 in
theorem cmpKeys_any (a b : List Nat) (ga ca gb cb : Nat) (w : World) (ha : KeyAt w a ga ca) (hb : KeyAt w b gb cb) :
    Calls Tryz.prog 131 #[.slice (some ⟨ga, 0, none⟩) a.length ca, .slice (some ⟨gb, 0, none⟩) b.length cb] w (CmpP a b w) := by
  have HA := Lib.hid ha
  have HB := Lib.hid hb
  have hla := ha.2.2
  have hlb := hb.2.2
  clear ha hb
  obtain ⟨M, hM1, hM2, hM3⟩ : ∃ M, M ≤ a.length ∧ M ≤ b.length ∧ (M = a.length ∨ M = b.length) := by
    rcases Nat.lt_or_ge b.length a.length with h | h
    · exact ⟨b.length, by omega, Nat.le_refl _, Or.inr rfl⟩
    · exact ⟨a.length, Nat.le_refl _, h, Or.inl rfl⟩
  have HM3 := Lib.hid hM3
  clear hM3
  go_enter Tryz.func131, Tryz.ntmps131
  go_wp2
  all_goals
    go_loopw [6] (fun i wr => ∃ k : Nat, k ≤ a.length ∧ k ≤ b.length ∧ i = .int .i64 k ∧ Hid (cmpK a b = cmpK (a.drop k) (b.drop k)) ∧ Hid (∃ q, wr = w.drewN q)) (fun i _ => a.length - (intOf i).toNat)
    case atStart => exact ⟨0, Nat.zero_le _, Nat.zero_le _, rfl, rfl, 0, rfl⟩
    case round =>
      obtain ⟨k, hk1, hk2, rfl, HK, HW⟩ := hrel
      by_cases hlt : k < a.length ∧ k < b.length
      · obtain ⟨hl1, hl2⟩ := hlt
        have hx1 : a[k]? = some a[k] := List.getElem?_eq_getElem hl1
        have hx2 : b[k]? = some b[k] := List.getElem?_eq_getElem hl2
        have hcA : wr.cell? ⟨ga, k, none⟩ = some (Value.int .u16 ((a[k] : Nat) : Int)) := by obtain ⟨q, hq⟩ := HW.out; rw [hq]; exact HA.out.1 k _ hx1
        have hcB : wr.cell? ⟨gb, k, none⟩ = some (Value.int .u16 ((b[k] : Nat) : Int)) := by obtain ⟨q, hq⟩ := HW.out; rw [hq]; exact HB.out.1 k _ hx2
        have hX : a[k] < 65536 := HA.out.2.1 _ (List.getElem_mem _)
        have hY : b[k] < 65536 := HB.out.2.1 _ (List.getElem_mem _)
        have HD : Hid (cmpK (a.drop k) (b.drop k) = if a[k] = b[k] then cmpK (a.drop (k + 1)) (b.drop (k + 1)) else ((a[k] : Nat) : Int) - ((b[k] : Nat) : Int)) := cmpK_drop hx1 hx2
        clear hx1 hx2
        obtain ⟨x, hxx⟩ : ∃ x, x = a[k] := ⟨_, rfl⟩
        obtain ⟨y, hyy⟩ : ∃ y, y = b[k] := ⟨_, rfl⟩
        rw [← hxx] at hcA hX HD
        rw [← hyy] at hcB hY HD
        clear hxx hyy
        by_cases hxy : x = y
        · rw [if_pos hxy] at HD
          subst hxy
          have e0 : (x : Int) - (x : Int) = 0 := by omega
          go_wp2
          go_quiet (fail)
          go_wp2_with (fail)
          go_roundw
          case rel => exact ⟨k + 1, by omega, by omega, by go_num, HK.out.trans HD.out, by obtain ⟨q, hq⟩ := HW.out; rw [hq]; exact ⟨_, World.drewN_drewN _ _ _⟩⟩
          case measure => simp [intOf]; omega
        · rw [if_neg hxy] at HD
          have e0 : ((x : Int) - (y : Int) == 0) = false := by rw [beq_eq_false_iff_ne]; omega
          have e1 : ¬ ((x : Int) - (y : Int) = 0) := by omega
          go_wp2
          go_quiet (fail)
          go_wp2_with (fail)
          go_ret
          exact ⟨by rw [HK.out, HD.out]; rfl, by obtain ⟨q, hq⟩ := HW.out; rw [hq]; exact ⟨_, World.drewN_drewN _ _ _⟩⟩
      · first
        | have hn : ¬ k < a.length := by omega
        | have hn : ¬ k < b.length := by omega
        have HE : Hid (cmpK a b = (a.length : Int) - b.length) := HK.out.trans (cmpK_end hk1 hk2 (by omega))
        clear hlt
        go_wp2_with (fail)
        go_ret
        exact ⟨by rw [HE.out]; rfl, HW.out⟩
end Go.Proofs.YtngifhngangpeaaGreatDoor
