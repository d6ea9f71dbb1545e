/- laws.ways: the next choice. laws.hex4. Pieces of a text of JSON's string, and what the reader makes of them: plain. A rune's own bytes, wherever they stand: plain. The runes of a well-formed text and the pieces that tell them: plain. A made map of named escapes, plain; laws on a map's literal and on the look-up of a string. The run of a made map of named escapes and of its look-up. laws.quoted: a text's pieces within the marks, by choices. -/
import Derived.Test.YtpkkokhoeiimcaaGreatDoorD2
import Derived.BigRegion
import Derived.Test.YtpkkokhoeiimcaaGreatDoorP3
import Derived.Lib.MapLaws
import Derived.Test.YtpkkokhoeiimcaaGreatDoorV1
import Derived.Maps.OwnOps
import Derived.Maps.StringElems
import Derived.Maps.Views
import Derived.Laws.Runes
import Derived.Lib.OthersKept
open Go Go.RowKit
namespace Go.Proofs.YtpkkokhoeiimcaaGreatDoor
/-- Choices L in block b, at the at-th. -/
def WY (b : Nat) (L : List UInt8) (k : Nat) (w : World) : Prop :=
  ∃ lv, w.heap[b]? = some (.cells #[lv, .int .i64 k] 29 (0, 0)) ∧ BSrc w lv L ∧ ∀ ad n c, lv = .slice (some ad) n c → L ≠ [] → ad.block ≠ b
theorem WY.new (w : World) {lv : Value} {L : List UInt8} (h : BSrc w lv L) : WY w.heap.size L 0 (w.alloc (.cells #[lv, .int .i64 0] 29)) := by
  refine ⟨lv, alloc_at w _, h.stay ((Below.refl _ _).alloc (Nat.le_refl _) _), ?_⟩
  rintro ad n c rfl hne e
  rcases h with ⟨h, _⟩ | ⟨ad', cp, h, _, hc⟩
  · cases h
  · cases h
    obtain ⟨x, l, rfl⟩ := List.exists_cons_of_ne_nil hne
    have := cell_lt (hc 0 x rfl)
    rw [show (ad.add 0).block = ad.block from by unfold Addr.add; split <;> rfl] at this
    omega
def nx (L : List UInt8) (k n : Nat) : Nat := (match L[k]? with | some c => c.toNat | none => 0) % n
theorem BSrc.fr {b : Nat} {w w' : World} {v : Value} {l : List UInt8} (h : BSrc w v l) (hf : Fr b w w') (hb : ∀ ad n c, v = .slice (some ad) n c → l ≠ [] → ad.block ≠ b) : BSrc w' v l := by
  rcases h with h | ⟨ad, cp, rfl, h1, h3⟩
  · exact .inl h
  · refine .inr ⟨ad, cp, rfl, h1, fun j x hj => ?_⟩
    have hbl : (ad.add j).block = ad.block := by unfold Addr.add; split <;> rfl
    rw [hf.cell (p := ad.add j) (cell_lt (h3 j x hj)) (by rw [hbl]; exact hb _ _ _ rfl (by rintro rfl; simp at hj))]
    exact h3 j x hj
theorem WY.step {b : Nat} {L : List UInt8} {k : Nat} {w : World} {lv : Value} (h : w.heap[b]? = some (.cells #[lv, .int .i64 k] 29 (0, 0))) (hs : BSrc w lv L) (ha : ∀ ad n c, lv = .slice (some ad) n c → L ≠ [] → ad.block ≠ b) (n : Nat) :
    WY b L (k + 1) ((w.drewN n).setCell ⟨b, 1, none⟩ (.int .i64 ((k : Int) + 1))) ∧ Fr b w ((w.drewN n).setCell ⟨b, 1, none⟩ (.int .i64 ((k : Int) + 1))) := by
  have hf : Fr b w ((w.drewN n).setCell ⟨b, 1, none⟩ (.int .i64 ((k : Int) + 1))) := ((Fr.refl b w).drewN n).setCell (.inl rfl) _
  refine ⟨⟨lv, ?_, hs.fr hf ha, ha⟩, hf⟩
  have h' : (w.drewN n).heap[b]? = some (.cells #[lv, .int .i64 k] 29 (0, 0)) := h
  simp [World.setCell, Array.getElem?_modify, h]
set_option maxRecDepth 100000 in
set_option maxHeartbeats 4000000 in
theorem next_any (n : Nat) (h1 : 1 ≤ n) (h2 : n ≤ 100) {b : Nat} {L : List UInt8} {k : Nat} {w : World} (h : WY b L k w) (hk : k ≤ 1099511627776) :
    Calls Tryz.prog 30 #[.pointer (some ⟨b, 0, none⟩), .int .i64 n] w fun e w' => e = .returned (.int .i64 (nx L k n)) ∧ WY b L (k + 1) w' ∧ Fr b w w' := by
  obtain ⟨lv, hb, hs, ha⟩ := h
  have HS := Lib.hid (WY.step hb hs ha)
  have c0 : w.cell? ⟨b, 0, none⟩ = some lv := by simp [World.cell?, hb]
  have c1 : w.cell? ⟨b, 1, none⟩ = some (.int .i64 k) := by simp [World.cell?, hb]
  have z1 : w.frozen? ⟨b, 1, none⟩ = false := by simp [World.frozen?, hb]
  have hw : IntKind.i64.wrap ((k : Int) + 1) = (k : Int) + 1 := by rw [IntKind.wrap_i64]; omega
  by_cases hlt : k < L.length
  · obtain ⟨c, hc⟩ : ∃ c, L[k]? = some c := ⟨_, List.getElem?_eq_getElem hlt⟩
    obtain ⟨r, hr⟩ : ∃ r, r = nx L k n := ⟨_, rfl⟩
    have hrv : r = c.toNat % n := by rw [hr, nx, hc]
    rcases hs with ⟨_, rfl⟩ | ⟨ad, cp, rfl, hl, hcell⟩
    · simp at hlt
    · have cc := hcell k c hc
      have hi : (k : Int) < (L.length : Int) := by omega
      have hz : (0 : Int) ≤ (k : Int) := by omega
      have hR : (((c.toNat : Nat) : Int) % (n : Int)) = (r : Int) := by rw [hrv]; omega
      have hc8 : ((c.toNat : Nat) : Int) ≤ 255 := by have := c.toNat_lt; omega
      have hc0 : (0 : Int) ≤ ((c.toNat : Nat) : Int) := by omega
      have hn1 : (1 : Int) ≤ (n : Int) := by omega
      rw [← hr]
      unfold maxLen at hl
      clear hr hrv hcell hb ha hc
      go_enter Tryz.func30, Tryz.ntmps30
      go_wp2_with (fail)
      go_quiet (fail)
      go_wp2_with (fail)
      go_quiet (fail)
      go_wp2_with (fail)
      go_ret
      exact ⟨congrArg (fun z => Ending.returned (.int .i64 z)) hR, (HS.out _).1, (HS.out _).2⟩
  · obtain ⟨r, hr⟩ : ∃ r, r = nx L k n := ⟨_, rfl⟩
    have hr0 : r = 0 := by rw [hr, nx, List.getElem?_eq_none (by omega)]; simp
    rw [← hr]
    subst hr0
    have hn1 : (1 : Int) ≤ (n : Int) := by omega
    have h0n : (0 : Int) % (n : Int) = 0 := by simp
    obtain ⟨ao, cp, rfl⟩ : ∃ ao cp, lv = .slice ao L.length cp := by
      rcases hs with ⟨rfl, rfl⟩ | ⟨ad, cp, rfl, _⟩
      · exact ⟨none, 0, rfl⟩
      · exact ⟨some ad, cp, rfl⟩
    have hi : ¬ (k : Int) < (L.length : Int) := by omega
    clear hr hb ha hs
    go_enter Tryz.func30, Tryz.ntmps30
    go_wp2_with (fail)
    go_quiet (fail)
    go_wp2_with (fail)
    go_ret
    exact ⟨rfl, (HS.out _).1, (HS.out _).2⟩
theorem i32_and15 (a : Nat) (ha : a < 2147483648) : bits .and .i32 (a : Int) 15 = ((a % 16 : Nat) : Int) := by
  have hx : a &&& 15 < 2 ^ 32 := Nat.and_lt_two_pow _ (by omega)
  have h1 : (BitVec.ofInt 32 (a : Int)).toNat = a := by
    rw [BitVec.ofInt_natCast, BitVec.toNat_ofNat]; exact Nat.mod_eq_of_lt (by omega)
  have h2 : (BitVec.ofInt 32 (15 : Int)).toNat = 15 := by decide
  show IntKind.i32.wrap ((BitVec.ofInt 32 (a : Int) &&& BitVec.ofInt 32 (15 : Int)).toNat : Int) = _
  have h3 : a &&& 15 = a % 16 := Nat.and_two_pow_sub_one_eq_mod a 4
  rw [BitVec.toNat_and, h1, h2, IntKind.wrap_i32, h3]
  omega
/-- The letters of an alphabet of hexadecimal digits. -/
def hexA : Bool → ByteArray
  | true => ⟨#[48, 49, 50, 51, 52, 53, 54, 55, 56, 57, 65, 66, 67, 68, 69, 70]⟩
  | false => ⟨#[48, 49, 50, 51, 52, 53, 54, 55, 56, 57, 97, 98, 99, 100, 101, 102]⟩
def hexL (up : Bool) (d : Nat) : UInt8 := (hexA up).data.toList.getD d 0
/-- An escape of a unit. -/
def hexT (up : Bool) (n : Nat) : List UInt8 := [92, 117, hexL up (n / 4096 % 16), hexL up (n / 256 % 16), hexL up (n / 16 % 16), hexL up (n % 16)]
theorem hexL_at (up : Bool) (d : Nat) (h : d < (hexA up).size) : hexL up d = (hexA up)[d] := by
  unfold hexL
  rw [List.getD_eq_getElem?_getD, List.getElem?_eq_getElem (by simpa using h)]
  rfl
theorem WY.below {b : Nat} {L : List UInt8} {k : Nat} {w w' : World} (h : WY b L k w) (hb : Below w.heap.size w w') : WY b L k w' := by
  obtain ⟨lv, h1, h2, h3⟩ := h
  have hl : b < w.heap.size := by
    rcases Nat.lt_or_ge b w.heap.size with h | h
    · exact h
    · rw [Array.getElem?_eq_none h] at h1; cases h1
  exact ⟨lv, by rw [hb.block b hl]; exact h1, h2.stay hb, h3⟩
theorem conv_new4 (w : World) (c3 c2 c1 c0 : UInt8) : (convert 22 9 (.slice (some ⟨w.heap.size, 0, none⟩) 4 4)).run Tryz.prog (w.alloc (.cells #[.int .u8 c3.toNat, .int .u8 c2.toNat, .int .u8 c1.toNat, .int .u8 c0.toNat] 5)).drew = .ok (.string ⟨#[c3, c2, c1, c0]⟩) (w.alloc (.cells #[.int .u8 c3.toNat, .int .u8 c2.toNat, .int .u8 c1.toNat, .int .u8 c0.toNat] 5)).drew := by
  refine BSrc.conv (l := [c3, c2, c1, c0]) (.inr ⟨⟨w.heap.size, 0, none⟩, 4, rfl, by simp [maxLen], fun j x hj => ?_⟩)
  have ha := alloc_at w (.cells #[.int .u8 c3.toNat, .int .u8 c2.toNat, .int .u8 c1.toNat, .int .u8 c0.toNat] 5)
  rw [addrAdd, Nat.zero_add]
  show (w.alloc _).cell? _ = _
  rw [World.cell?, ha]
  match j, hj with
  | 0, hj => cases hj; rfl
  | 1, hj => cases hj; rfl
  | 2, hj => cases hj; rfl
  | 3, hj => cases hj; rfl
  | j + 4, hj => cases hj
set_option maxRecDepth 100000 in
set_option maxHeartbeats 4000000 in
theorem hex4_true (n : Nat) (hn : n < 65536) {b : Nat} {L : List UInt8} {k : Nat} {w : World} (h : WY b L k w) (hk : k ≤ 1099511627776) (hu : nx L k 2 = 1) :
    Calls Tryz.prog 15 #[.pointer (some ⟨b, 0, none⟩), .int .i32 n] w fun e w' => e = .returned (.string ⟨(hexT true n).toArray⟩) ∧ WY b L (k + 1) w' ∧ Fr b w w' := by
  have HN := Lib.hid (next_any 2 (by decide) (by decide) h hk)
  rw [hu] at HN
  clear h hu
  obtain ⟨d0, hd0⟩ : ∃ d, d = n % 16 := ⟨_, rfl⟩
  obtain ⟨d1, hd1⟩ : ∃ d, d = n / 16 % 16 := ⟨_, rfl⟩
  obtain ⟨d2, hd2⟩ : ∃ d, d = n / 256 % 16 := ⟨_, rfl⟩
  obtain ⟨d3, hd3⟩ : ∃ d, d = n / 4096 % 16 := ⟨_, rfl⟩
  have e0 : bits .and .i32 (n : Int) 15 = (d0 : Int) := by rw [i32_and15 n (by omega), hd0]
  have e1 : bits .and .i32 ((n : Int) / 16) 15 = (d1 : Int) := by rw [show (n : Int) / 16 = ((n / 16 : Nat) : Int) by omega, i32_and15 _ (by omega), hd1]
  have e2 : bits .and .i32 ((n : Int) / 256) 15 = (d2 : Int) := by rw [show (n : Int) / 256 = ((n / 256 : Nat) : Int) by omega, i32_and15 _ (by omega), hd2]
  have e3 : bits .and .i32 ((n : Int) / 4096) 15 = (d3 : Int) := by rw [show (n : Int) / 4096 = ((n / 4096 : Nat) : Int) by omega, i32_and15 _ (by omega), hd3]
  have s0 : d0 < (⟨#[48, 49, 50, 51, 52, 53, 54, 55, 56, 57, 65, 66, 67, 68, 69, 70]⟩ : ByteArray).size := by show _ < 16; omega
  have s1 : d1 < (⟨#[48, 49, 50, 51, 52, 53, 54, 55, 56, 57, 65, 66, 67, 68, 69, 70]⟩ : ByteArray).size := by show _ < 16; omega
  have s2 : d2 < (⟨#[48, 49, 50, 51, 52, 53, 54, 55, 56, 57, 65, 66, 67, 68, 69, 70]⟩ : ByteArray).size := by show _ < 16; omega
  have s3 : d3 < (⟨#[48, 49, 50, 51, 52, 53, 54, 55, 56, 57, 65, 66, 67, 68, 69, 70]⟩ : ByteArray).size := by show _ < 16; omega
  have HT : Hid ((⟨#[92, 117]⟩ ++ ⟨#[(⟨#[48, 49, 50, 51, 52, 53, 54, 55, 56, 57, 65, 66, 67, 68, 69, 70]⟩ : ByteArray)[d3], (⟨#[48, 49, 50, 51, 52, 53, 54, 55, 56, 57, 65, 66, 67, 68, 69, 70]⟩ : ByteArray)[d2], (⟨#[48, 49, 50, 51, 52, 53, 54, 55, 56, 57, 65, 66, 67, 68, 69, 70]⟩ : ByteArray)[d1], (⟨#[48, 49, 50, 51, 52, 53, 54, 55, 56, 57, 65, 66, 67, 68, 69, 70]⟩ : ByteArray)[d0]]⟩ : ByteArray) = ⟨(hexT true n).toArray⟩) := by
    show _ = _
    rw [hexT, ← hd0, ← hd1, ← hd2, ← hd3, hexL_at true d3 s3, hexL_at true d2 s2, hexL_at true d1 s1, hexL_at true d0 s0]
    rfl
  have b0 : (d0 : Int) < 16 := by omega
  have b1 : (d1 : Int) < 16 := by omega
  have b2 : (d2 : Int) < 16 := by omega
  have b3 : (d3 : Int) < 16 := by omega
  have z0 : (0 : Int) ≤ (d0 : Int) := by omega
  have z1 : (0 : Int) ≤ (d1 : Int) := by omega
  have z2 : (0 : Int) ≤ (d2 : Int) := by omega
  have z3 : (0 : Int) ≤ (d3 : Int) := by omega
  have n0 : (0 : Int) ≤ (n : Int) := by omega
  have n1 : (n : Int) < 65536 := by omega
  have hcv := conv_new4
  clear hd0 hd1 hd2 hd3
  go_enter Tryz.func15, Tryz.ntmps15
  go_wp2_with (fail)
  refine HN.out.mono ?_
  rintro e w1 ⟨rfl, hy, hf⟩
  have HY := Lib.hid hy
  have HF := Lib.hid hf
  clear hy hf HN
  go_wp2_with (fail)
  go_region
  all_goals
    go_wp2_with (fail)
    go_ret
    exact ⟨congrArg (fun z => Ending.returned (.string z)) HT.out, HY.out.below ((Below.refl _ _).alloc (Nat.le_refl _) _).drew, HF.out.below ((Below.refl _ _).alloc (Nat.le_refl _) _).drew⟩
set_option maxRecDepth 100000 in
set_option maxHeartbeats 4000000 in
theorem hex4_false (n : Nat) (hn : n < 65536) {b : Nat} {L : List UInt8} {k : Nat} {w : World} (h : WY b L k w) (hk : k ≤ 1099511627776) (hu : nx L k 2 = 0) :
    Calls Tryz.prog 15 #[.pointer (some ⟨b, 0, none⟩), .int .i32 n] w fun e w' => e = .returned (.string ⟨(hexT false n).toArray⟩) ∧ WY b L (k + 1) w' ∧ Fr b w w' := by
  have HN := Lib.hid (next_any 2 (by decide) (by decide) h hk)
  rw [hu] at HN
  clear h hu
  obtain ⟨d0, hd0⟩ : ∃ d, d = n % 16 := ⟨_, rfl⟩
  obtain ⟨d1, hd1⟩ : ∃ d, d = n / 16 % 16 := ⟨_, rfl⟩
  obtain ⟨d2, hd2⟩ : ∃ d, d = n / 256 % 16 := ⟨_, rfl⟩
  obtain ⟨d3, hd3⟩ : ∃ d, d = n / 4096 % 16 := ⟨_, rfl⟩
  have e0 : bits .and .i32 (n : Int) 15 = (d0 : Int) := by rw [i32_and15 n (by omega), hd0]
  have e1 : bits .and .i32 ((n : Int) / 16) 15 = (d1 : Int) := by rw [show (n : Int) / 16 = ((n / 16 : Nat) : Int) by omega, i32_and15 _ (by omega), hd1]
  have e2 : bits .and .i32 ((n : Int) / 256) 15 = (d2 : Int) := by rw [show (n : Int) / 256 = ((n / 256 : Nat) : Int) by omega, i32_and15 _ (by omega), hd2]
  have e3 : bits .and .i32 ((n : Int) / 4096) 15 = (d3 : Int) := by rw [show (n : Int) / 4096 = ((n / 4096 : Nat) : Int) by omega, i32_and15 _ (by omega), hd3]
  have s0 : d0 < (⟨#[48, 49, 50, 51, 52, 53, 54, 55, 56, 57, 97, 98, 99, 100, 101, 102]⟩ : ByteArray).size := by show _ < 16; omega
  have s1 : d1 < (⟨#[48, 49, 50, 51, 52, 53, 54, 55, 56, 57, 97, 98, 99, 100, 101, 102]⟩ : ByteArray).size := by show _ < 16; omega
  have s2 : d2 < (⟨#[48, 49, 50, 51, 52, 53, 54, 55, 56, 57, 97, 98, 99, 100, 101, 102]⟩ : ByteArray).size := by show _ < 16; omega
  have s3 : d3 < (⟨#[48, 49, 50, 51, 52, 53, 54, 55, 56, 57, 97, 98, 99, 100, 101, 102]⟩ : ByteArray).size := by show _ < 16; omega
  have HT : Hid ((⟨#[92, 117]⟩ ++ ⟨#[(⟨#[48, 49, 50, 51, 52, 53, 54, 55, 56, 57, 97, 98, 99, 100, 101, 102]⟩ : ByteArray)[d3], (⟨#[48, 49, 50, 51, 52, 53, 54, 55, 56, 57, 97, 98, 99, 100, 101, 102]⟩ : ByteArray)[d2], (⟨#[48, 49, 50, 51, 52, 53, 54, 55, 56, 57, 97, 98, 99, 100, 101, 102]⟩ : ByteArray)[d1], (⟨#[48, 49, 50, 51, 52, 53, 54, 55, 56, 57, 97, 98, 99, 100, 101, 102]⟩ : ByteArray)[d0]]⟩ : ByteArray) = ⟨(hexT false n).toArray⟩) := by
    show _ = _
    rw [hexT, ← hd0, ← hd1, ← hd2, ← hd3, hexL_at false d3 s3, hexL_at false d2 s2, hexL_at false d1 s1, hexL_at false d0 s0]
    rfl
  have b0 : (d0 : Int) < 16 := by omega
  have b1 : (d1 : Int) < 16 := by omega
  have b2 : (d2 : Int) < 16 := by omega
  have b3 : (d3 : Int) < 16 := by omega
  have z0 : (0 : Int) ≤ (d0 : Int) := by omega
  have z1 : (0 : Int) ≤ (d1 : Int) := by omega
  have z2 : (0 : Int) ≤ (d2 : Int) := by omega
  have z3 : (0 : Int) ≤ (d3 : Int) := by omega
  have n0 : (0 : Int) ≤ (n : Int) := by omega
  have n1 : (n : Int) < 65536 := by omega
  have hcv := conv_new4
  clear hd0 hd1 hd2 hd3
  go_enter Tryz.func15, Tryz.ntmps15
  go_wp2_with (fail)
  refine HN.out.mono ?_
  rintro e w1 ⟨rfl, hy, hf⟩
  have HY := Lib.hid hy
  have HF := Lib.hid hf
  clear hy hf HN
  go_wp2_with (fail)
  go_region
  all_goals
    go_wp2_with (fail)
    go_ret
    exact ⟨congrArg (fun z => Ending.returned (.string z)) HT.out, HY.out.below ((Below.refl _ _).alloc (Nat.le_refl _) _).drew, HF.out.below ((Below.refl _ _).alloc (Nat.le_refl _) _).drew⟩
theorem nx2 (L : List UInt8) (k : Nat) : nx L k 2 = 0 ∨ nx L k 2 = 1 := by
  have : nx L k 2 < 2 := Nat.mod_lt _ (by decide)
  omega
theorem hex4_any (n : Nat) (hn : n < 65536) {b : Nat} {L : List UInt8} {k : Nat} {w : World} (h : WY b L k w) (hk : k ≤ 1099511627776) :
    Calls Tryz.prog 15 #[.pointer (some ⟨b, 0, none⟩), .int .i32 n] w fun e w' => ∃ up, e = .returned (.string ⟨(hexT up n).toArray⟩) ∧ WY b L (k + 1) w' ∧ Fr b w w' := by
  rcases nx2 L k with hu | hu
  · exact (hex4_false n hn h hk hu).mono fun _ _ h => ⟨false, h⟩
  · exact (hex4_true n hn h hk hu).mono fun _ _ h => ⟨true, h⟩
/-- A piece within the marks, that reads as bs. -/
def Piece (q bs : List UInt8) : Prop := ∀ rest, pStep (q ++ rest) = .go bs rest
theorem pStr_pieces : ∀ (ps : List (List UInt8 × List UInt8)), (∀ p ∈ ps, Piece p.1 p.2) → ∀ (k : Nat) (acc r : List UInt8), ps.length < k →
    pStr k acc (ps.flatMap (·.1) ++ 34 :: r) = some (acc ++ ps.flatMap (·.2), r)
  | [], _, k, acc, r, hk => by
    obtain ⟨k, rfl⟩ : ∃ m, k = m + 1 := ⟨k - 1, by simp at hk; omega⟩
    simp [pStr, pStep_cons]
  | p :: ps, hp, k, acc, r, hk => by
    obtain ⟨k, rfl⟩ : ∃ m, k = m + 1 := ⟨k - 1, by simp at hk; omega⟩
    have h1 := hp p List.mem_cons_self (ps.flatMap (·.1) ++ 34 :: r)
    have ih := pStr_pieces ps (fun x hx => hp x (List.mem_cons_of_mem _ hx)) k (acc ++ p.2) r (by simp at hk; omega)
    rw [List.flatMap_cons, List.append_assoc, pStr, h1]
    simp only
    rw [ih, List.flatMap_cons, List.append_assoc]
theorem piece_letter {y z : UInt8} (h : escB y = some z) (h1 : y ≠ 117) (h2 : y ≠ 47) : Piece [92, y] [z] := fun rest => by
  show pStep (92 :: y :: rest) = _
  rw [pStep_cons, if_neg (by decide), if_neg (by decide), if_pos rfl, esc_cons, if_neg h1, if_neg h2, h]
theorem piece_slash : Piece [92, 47] [47] := fun rest => by
  show pStep (92 :: 47 :: rest) = _
  rw [pStep_cons, if_neg (by decide), if_neg (by decide), if_pos rfl, esc_cons, if_neg (by decide), if_pos rfl]
theorem piece_ascii {x : UInt8} (h1 : 32 ≤ x.toNat) (h2 : x.toNat < 128) (h3 : x ≠ 34) (h4 : x ≠ 92) : Piece [x] [x] := fun rest => by
  show pStep (x :: rest) = _
  rw [pStep_cons, if_neg h3, if_neg (by omega), if_neg h4, if_pos h2]
theorem hexD_L : ∀ up : Bool, ∀ d, d < 16 → hexD (hexL up d) = some d := by decide +kernel
theorem hex4_T (up : Bool) (n : Nat) (hn : n < 65536) (rest : List UInt8) : hex4 (hexL up (n / 4096 % 16) :: hexL up (n / 256 % 16) :: hexL up (n / 16 % 16) :: hexL up (n % 16) :: rest) = some (n, rest) := by
  simp only [hex4, hexN, hexD_L up _ (Nat.mod_lt _ (by decide))]
  simp only [Option.map_some, Option.some.injEq, Prod.mk.injEq, and_true]
  omega
theorem piece_hex (up : Bool) (n : Nat) (hn : n < 65536) (hs : surr n = false) : Piece (hexT up n) (Lib.encodeRune n) := fun rest => by
  show pStep (92 :: 117 :: (hexL up (n / 4096 % 16) :: hexL up (n / 256 % 16) :: hexL up (n / 16 % 16) :: hexL up (n % 16) :: rest)) = _
  rw [pStep_cons, if_neg (by decide), if_neg (by decide), if_pos rfl, esc_cons, if_pos rfl]
  unfold uni
  have := hex4_T up n hn rest
  rw [this]
  simp only
  rw [if_neg (by rw [hs]; decide)]
theorem piece_pair (u1 u2 : Bool) (n m : Nat) (h1 : 55296 ≤ n) (h2 : n ≤ 56319) (h3 : 56320 ≤ m) (h4 : m ≤ 57343) : Piece (hexT u1 n ++ hexT u2 m) (Lib.encodeRune ((n - 55296 : Int) * 1024 + (m - 56320) + 65536)) := fun rest => by
  show pStep (92 :: 117 :: (hexL u1 (n / 4096 % 16) :: hexL u1 (n / 256 % 16) :: hexL u1 (n / 16 % 16) :: hexL u1 (n % 16) :: (92 :: 117 :: (hexL u2 (m / 4096 % 16) :: hexL u2 (m / 256 % 16) :: hexL u2 (m / 16 % 16) :: hexL u2 (m % 16) :: rest)))) = _
  rw [pStep_cons, if_neg (by decide), if_neg (by decide), if_pos rfl, esc_cons, if_pos rfl]
  unfold uni
  have e1 := hex4_T u1 n (by omega) (92 :: 117 :: (hexL u2 (m / 4096 % 16) :: hexL u2 (m / 256 % 16) :: hexL u2 (m / 16 % 16) :: hexL u2 (m % 16) :: rest))
  have e2 := hex4_T u2 m (by omega) rest
  rw [e1]
  simp only
  rw [if_pos (by simp [surr]; omega)]
  unfold pair
  rw [if_neg (by omega)]
  simp only [and_self, if_true, e2]
  rw [if_pos ⟨h3, h4⟩]
open Go.Lib
theorem decodeN_pre (n n' b0 b1 b2 b3 c1 c2 c3 : Nat) (hv : decodeN n b0 b1 b2 b3 ≠ (65533, 1)) (hw : (decodeN n b0 b1 b2 b3).2 ≤ n') (e1 : 2 ≤ (decodeN n b0 b1 b2 b3).2 → c1 = b1) (e2 : 3 ≤ (decodeN n b0 b1 b2 b3).2 → c2 = b2) (e3 : 4 ≤ (decodeN n b0 b1 b2 b3).2 → c3 = b3) :
    decodeN n' b0 c1 c2 c3 = decodeN n b0 b1 b2 b3 := by
  rcases decodeN_shape n b0 b1 b2 b3 with ⟨c, e⟩ | ⟨h1, h2, h3, h4, e⟩ | ⟨h1, h2, h3, h4, h5, h6, e⟩ | ⟨h1, h2, h3, h4, h5, h6, h7, e⟩ | e
  · rw [e, decodeN, if_pos c]
  · rw [e] at hw e1 ⊢
    obtain rfl := e1 (Nat.le_refl _)
    rw [decodeN, if_neg (by omega), if_pos ⟨h1, by simp at hw; omega, h3⟩, if_pos h4]
  · rw [e] at hw e1 e2 ⊢
    obtain rfl := e1 (by simp)
    obtain rfl := e2 (Nat.le_refl _)
    simp at hw
    rw [decodeN, if_neg (by omega), if_neg (by omega), if_pos ⟨h1, ⟨by omega, h3⟩, by omega, h4⟩, if_pos (by omega)]
  · rw [e] at hw e1 e2 e3 ⊢
    obtain rfl := e1 (by simp)
    obtain rfl := e2 (by simp)
    obtain rfl := e3 (Nat.le_refl _)
    simp at hw
    rw [decodeN, if_neg (by omega), if_neg (by omega), if_neg (by omega), if_pos ⟨h1, ⟨by omega, h3⟩, ⟨by omega, h4⟩, by omega, h5⟩, if_pos (by omega)]
  · exact absurd e hv
theorem decodeL_pre (l rest : List UInt8) (hv : ¬ ((decodeL l).1 = 65533 ∧ (decodeL l).2 = 1)) (hl : (decodeL l).2 ≤ l.length) : decodeL (l.take (decodeL l).2 ++ rest) = decodeL l := by
  have hg : ∀ i, i < (decodeL l).2 → (l.take (decodeL l).2 ++ rest).getD i 0 = l.getD i 0 := by
    intro i hi
    rw [List.getD_eq_getElem?_getD, List.getD_eq_getElem?_getD, List.getElem?_append_left (by rw [List.length_take]; omega), List.getElem?_take_of_lt hi]
  have h0 : 0 < (decodeL l).2 := by rw [decodeL_N]; exact decodeN_ge1 _ _ _ _ _
  have hlen : (decodeL l).2 ≤ (l.take (decodeL l).2 ++ rest).length := by rw [List.length_append, List.length_take]; omega
  obtain ⟨w, hw⟩ : ∃ w, w = (decodeL l).2 := ⟨_, rfl⟩
  rw [← hw] at hg h0 hlen ⊢
  rw [decodeL_N (l.take w ++ rest), hg 0 h0]
  rw [decodeL_N l] at hw hv ⊢
  refine decodeN_pre _ _ _ _ _ _ _ _ _ (fun e => hv (by rw [e]; exact ⟨rfl, rfl⟩)) (by rw [← hw]; exact hlen) (fun h => ?_) (fun h => ?_) (fun h => ?_)
  · rw [hg 1 (by omega)]
  · rw [hg 2 (by omega)]
  · rw [hg 3 (by omega)]
/-- The bytes of a rune that stands in a text. -/
theorem piece_raw (l : List UInt8) (x : UInt8) (r : List UInt8) (hx : l = x :: r) (h128 : 128 ≤ x.toNat) (hv : ¬ ((decodeL l).1 = 65533 ∧ (decodeL l).2 = 1)) (hl : (decodeL l).2 ≤ l.length) : Piece (l.take (decodeL l).2) (l.take (decodeL l).2) := fun rest => by
  have h0 : 0 < (decodeL l).2 := by rw [decodeL_N]; exact decodeN_ge1 _ _ _ _ _
  have hp := decodeL_pre l rest hv hl
  obtain ⟨w, hw⟩ : ∃ w, w = (decodeL l).2 := ⟨_, rfl⟩
  have hlt : (l.take w).length = w := by rw [List.length_take]; omega
  obtain ⟨q, hq⟩ : ∃ q, l.take w = x :: q := by
    obtain ⟨v, rfl⟩ : ∃ v, w = v + 1 := ⟨w - 1, by omega⟩
    rw [hx]; exact ⟨r.take v, rfl⟩
  have n1 : x ≠ 34 := fun e => by rw [e] at h128; revert h128; decide
  have n2 : x ≠ 92 := fun e => by rw [e] at h128; revert h128; decide
  rw [← hw] at hp ⊢
  have hm : multi (l.take w ++ rest) = .go (l.take w) rest := by
    have hd : Lib.decodeGo ⟨(l.take w ++ rest).toArray⟩ = decodeL l := by
      rw [← hp]
      have hs : (⟨(l.take w ++ rest).toArray⟩ : ByteArray).size ≠ 0 := by rw [hq]; simp [ByteArray.size]
      unfold Lib.decodeGo decodeL
      rw [if_neg hs]
    unfold multi
    rw [hd]
    simp only
    rw [if_neg (fun h => hv ⟨h.1, by omega⟩), ← hw]
    have t1 : (l.take w ++ rest).take w = l.take w := by rw [List.take_append_of_le_length (by omega), List.take_of_length_le (by omega)]
    have t2 : (l.take w ++ rest).drop w = rest := by rw [List.drop_append_of_le_length (by omega), List.drop_of_length_le (by omega)]; rfl
    rw [t1, t2]
  rw [hq] at hm ⊢
  rw [List.cons_append, pStep_cons, if_neg n1, if_neg (by omega), if_neg n2, if_neg (by omega)]
  exact hm
open Go.Lib
/-- All is well at a place. -/
def okAt (s : ByteArray) (pos : Nat) : Prop := ¬ ((Utf8.decode s pos).1 = 65533 ∧ (s.extract pos (pos + 3)).toList ≠ [239, 191, 189])
theorem vld_okAt (s : ByteArray) (b pos : Nat) (h : pos < s.size) (hv : vld s (b + 1) pos = true) : okAt s pos ∧ vld s b (pos + (Utf8.decode s pos).2) = true := by
  by_cases h1 : (Utf8.decode s pos).1 = 65533 ∧ (s.extract pos (pos + 3)).toList ≠ [239, 191, 189]
  · rw [vld_bad s b pos h h1.1 h1.2] at hv; cases hv
  · exact ⟨h1, by rw [vld_ok s b pos h h1] at hv; exact hv⟩
theorem drop_ne (s : ByteArray) (pos : Nat) (h : pos < s.size) : s.data.toList.drop pos ≠ [] := by
  intro e
  have := congrArg List.length e
  simp at this
  have h' : pos < s.data.size := h
  omega
theorem ext3 (s : ByteArray) (pos : Nat) : (s.extract pos (pos + 3)).toList = (s.data.toList.drop pos).take 3 := by
  rw [ByteArray.toList_eq]
  simp [List.take_drop]
theorem okAt_hv {s : ByteArray} {pos : Nat} (h : okAt s pos) : ¬ ((decodeL (s.data.toList.drop pos)).1 = 65533 ∧ (decodeL (s.data.toList.drop pos)).2 = 1) := by
  intro ⟨h1, h2⟩
  have e := decodeL_drop s pos
  apply h
  rw [← e]
  refine ⟨h1, fun h3 => ?_⟩
  rw [ext3] at h3
  generalize hl : s.data.toList.drop pos = l at *
  match l, h3 with
  | a :: b :: c :: r, h3 =>
    simp at h3
    obtain ⟨rfl, rfl, rfl⟩ := h3
    rw [decodeL_N] at h2
    revert h2
    simp [decodeN]
theorem rune_facts (l : List UInt8) : (decodeL l).1 ≤ 1114111 ∧ ¬ (55296 ≤ (decodeL l).1 ∧ (decodeL l).1 ≤ 57343) ∧ (decodeL l).2 ≤ 4 := by
  have k0 := (l.getD 0 0).toNat_lt
  have k1 := (l.getD 1 0).toNat_lt
  have k2 := (l.getD 2 0).toNat_lt
  have k3 := (l.getD 3 0).toNat_lt
  rw [decodeL_N]
  rcases decodeN_shape l.length (l.getD 0 0).toNat (l.getD 1 0).toNat (l.getD 2 0).toNat (l.getD 3 0).toNat with ⟨c, e⟩ | ⟨c1, c2, c3, cv, e⟩ | ⟨c1, c2, c3, c4, cv, cs, e⟩ | ⟨c1, c2, c3, c4, c5, cv, cw, e⟩ | e
  all_goals (rw [e]; dsimp only; omega)
theorem rune_low (x : UInt8) (t : List UInt8) (h : (decodeL (x :: t)).1 < 128) : x.toNat = (decodeL (x :: t)).1 ∧ (decodeL (x :: t)).2 = 1 := by
  rw [decodeL_N] at h ⊢
  rcases decodeN_shape (x :: t).length ((x :: t).getD 0 0).toNat ((x :: t).getD 1 0).toNat ((x :: t).getD 2 0).toNat ((x :: t).getD 3 0).toNat with ⟨c, e⟩ | ⟨c1, c2, c3, cv, e⟩ | ⟨c1, c2, c3, c4, cv, cs, e⟩ | ⟨c1, c2, c3, c4, c5, cv, cw, e⟩ | e
  all_goals (rw [e] at h ⊢; dsimp only at h ⊢)
  · exact ⟨rfl, rfl⟩
  all_goals omega
theorem rune_high (x : UInt8) (t : List UInt8) (h : 128 ≤ (decodeL (x :: t)).1) : 128 ≤ x.toNat := by
  rw [decodeL_N] at h
  have e0 : (x :: t).getD 0 0 = x := rfl
  rcases Nat.lt_or_ge x.toNat 128 with hx | hx
  · rw [e0, decodeN, if_pos hx] at h
    exact absurd h (by simpa using hx)
  · exact hx
theorem qp_raw {l : List UInt8} (hne : l ≠ []) (hv : ¬ ((decodeL l).1 = 65533 ∧ (decodeL l).2 = 1)) (h1 : 32 ≤ (decodeL l).1) (h2 : (decodeL l).1 ≠ 34) (h3 : (decodeL l).1 ≠ 92) : Piece (l.take (decodeL l).2) (l.take (decodeL l).2) := by
  match l, hne with
  | x :: t, hne =>
    by_cases hlow : (decodeL (x :: t)).1 < 128
    · obtain ⟨e1, e2⟩ := rune_low x t hlow
      rw [e2]
      refine piece_ascii (by omega) (by omega) (fun e => ?_) (fun e => ?_)
      · exact h2 (by rw [← e1, e]; rfl)
      · exact h3 (by rw [← e1, e]; rfl)
    · exact piece_raw (x :: t) x t rfl (rune_high x t (by omega)) hv (decodeL_le _ hne)
theorem qp_hex {l : List UInt8} (hne : l ≠ []) (hv : ¬ ((decodeL l).1 = 65533 ∧ (decodeL l).2 = 1)) (h1 : (decodeL l).1 < 65536) (up : Bool) : Piece (hexT up (decodeL l).1) (l.take (decodeL l).2) := by
  have hf := rune_facts l
  rw [← encode_decode l hne hv]
  refine piece_hex up _ h1 ?_
  unfold surr
  simp only [Bool.and_eq_false_iff, decide_eq_false_iff_not]
  omega
theorem qp_pair {l : List UInt8} (hne : l ≠ []) (hv : ¬ ((decodeL l).1 = 65533 ∧ (decodeL l).2 = 1)) (h1 : 65536 ≤ (decodeL l).1) (u1 u2 : Bool) : Piece (hexT u1 (55296 + ((decodeL l).1 - 65536) / 1024) ++ hexT u2 (56320 + ((decodeL l).1 - 65536) % 1024)) (l.take (decodeL l).2) := by
  have hf := rune_facts l
  have hp := piece_pair u1 u2 (55296 + ((decodeL l).1 - 65536) / 1024) (56320 + ((decodeL l).1 - 65536) % 1024) (by omega) (by omega) (by omega) (by omega)
  rw [← encode_decode l hne hv]
  have e : (((55296 + ((decodeL l).1 - 65536) / 1024 : Nat) : Int) - 55296) * 1024 + (((56320 + ((decodeL l).1 - 65536) % 1024 : Nat) : Int) - 56320) + 65536 = (((decodeL l).1 : Nat) : Int) := by omega
  rw [e] at hp
  exact hp
/-- The letter of an escape; none. -/
def nameR (r : Nat) : List UInt8 := if r = 34 then [34] else if r = 92 then [92] else if r = 47 then [47] else if r = 8 then [98] else if r = 12 then [102] else if r = 10 then [110] else if r = 13 then [114] else if r = 9 then [116] else []
theorem nameR_table : ∀ r : Nat, nameR r ≠ [] → ∃ y z : UInt8, nameR r = [y] ∧ z.toNat = r ∧ r < 128 ∧ ((y = 47 ∧ z = 47) ∨ (escB y = some z ∧ y ≠ 117 ∧ y ≠ 47)) := by
  intro r h
  unfold nameR at h ⊢
  by_cases h1 : r = 34
  · subst h1; exact ⟨34, 34, rfl, rfl, by decide, by decide⟩
  by_cases h2 : r = 92
  · subst h2; exact ⟨92, 92, rfl, rfl, by decide, by decide⟩
  by_cases h3 : r = 47
  · subst h3; exact ⟨47, 47, rfl, rfl, by decide, by decide⟩
  by_cases h4 : r = 8
  · subst h4; exact ⟨98, 8, rfl, rfl, by decide, by decide⟩
  by_cases h5 : r = 12
  · subst h5; exact ⟨102, 12, rfl, rfl, by decide, by decide⟩
  by_cases h6 : r = 10
  · subst h6; exact ⟨110, 10, rfl, rfl, by decide, by decide⟩
  by_cases h7 : r = 13
  · subst h7; exact ⟨114, 13, rfl, rfl, by decide, by decide⟩
  by_cases h8 : r = 9
  · subst h8; exact ⟨116, 9, rfl, rfl, by decide, by decide⟩
  rw [if_neg h1, if_neg h2, if_neg h3, if_neg h4, if_neg h5, if_neg h6, if_neg h7, if_neg h8] at h
  exact absurd rfl h
theorem qp_name {l : List UInt8} (hne : l ≠ []) (h : nameR (decodeL l).1 ≠ []) : Piece (92 :: nameR (decodeL l).1) (l.take (decodeL l).2) := by
  match l, hne with
  | x :: t, hne =>
    obtain ⟨y, z, hy, hz, hlt, hc⟩ := nameR_table _ h
    obtain ⟨e1, e2⟩ := rune_low x t hlt
    have hx : x = z := by apply UInt8.toNat_inj.1; omega
    rw [hy, e2]
    subst hx
    rcases hc with ⟨rfl, rfl⟩ | ⟨h1, h2, h3⟩
    · exact piece_slash
    · exact piece_letter h1 h2 h3
/-- What of a text within the marks has been written up to a place. -/
def QS (s : ByteArray) (pos : Nat) (Q : List UInt8) : Prop := ∃ ps : List (List UInt8 × List UInt8), (∀ p ∈ ps, Piece p.1 p.2) ∧ Q = ps.flatMap (·.1) ∧ ps.flatMap (·.2) = s.data.toList.take pos ∧ ps.length ≤ pos ∧ Q.length ≤ 12 * pos
theorem QS.zero (s : ByteArray) : QS s 0 [] := ⟨[], by simp, rfl, rfl, Nat.le_refl _, Nat.le_refl _⟩
theorem QS.add {s : ByteArray} {pos : Nat} {Q q : List UInt8} (h : QS s pos Q) (hp : pos < s.size) (hq : Piece q ((s.data.toList.drop pos).take (Utf8.decode s pos).2)) (hl : q.length ≤ 12) : QS s (pos + (Utf8.decode s pos).2) (Q ++ q) := by
  obtain ⟨ps, h1, h2, h3, h4, h5⟩ := h
  have hw := width_pos s pos hp
  refine ⟨ps ++ [(q, (s.data.toList.drop pos).take (Utf8.decode s pos).2)], ?_, ?_, ?_, ?_, ?_⟩
  · intro p hm
    rcases List.mem_append.1 hm with hm | hm
    · exact h1 p hm
    · rw [List.mem_singleton.1 hm]; exact hq
  · rw [List.flatMap_append, ← h2]; simp
  · rw [List.flatMap_append, h3, List.take_add]; simp
  · rw [List.length_append]; simp; omega
  · rw [List.length_append]; omega
theorem QS.done {s : ByteArray} {pos : Nat} {Q : List UInt8} (h : QS s pos Q) (hp : s.size ≤ pos) (k : Nat) (hk : pos < k) (r : List UInt8) : pStr k [] (Q ++ 34 :: r) = some (s.data.toList, r) := by
  obtain ⟨ps, h1, h2, h3, h4, h5⟩ := h
  have := pStr_pieces ps h1 k [] r (by omega)
  rw [h2, this, h3, List.take_of_length_le (by simpa using hp)]
  rfl
open Go.Maps
/-- An entry of a map's literal. -/
theorem wpList_insert_own {H : Type} {P : Program} (w : World) {ops : Array Oper} {rest : List Oper} {o : Oper} {a : Act} {Q : Exit → Act → World → Prop}
    (hg : o.guard = none) (m x v : Operand) (t : TypeId) (hop : o.op = Op.insert t m x v)
    (k e : TypeId) (K : Keyed P k) (ht : P.underlying t = some (.map k e)) (R : Value → Option (DataW H × List MemPlace)) (b n : Nat) (D : DataW H)
    (hm : a.eval m = .map (some b)) (hown : w.ownsMap P k R b n D) (hn : n < maxLen) (key val : Value) (kl : Go.Lit) (hx : a.eval x = key) (hv : a.eval v = val) (hkey : keyOf P k key = some kl)
    (d : DataW H) (ps : List MemPlace) (hval : R val = some (d, ps))
    (hK : ∀ w', w'.ownsMap P k R b (n + 1) (D.put kl d) → w.grownBy w' (some b) → wpList P ops Q rest (a.put o.dst undef) w') :
    wpList P ops Q (o :: rest) a w := by
  refine wpList_plain hg fun K' hK' => ?_
  obtain ⟨w', hrun, r1, r2⟩ := hown.update K ht hn hkey hval
  unfold Oper.wp
  simp [execOp, hop, hm, hx, hv, hrun, Result.andThen]
  exact hK' _ _ (hK w' r1 r2)
theorem wpList_lookup_own_str {H : Type} {P : Program} (w : World) {ops : Array Oper} {rest : List Oper} {o : Oper} {a : Act} {Q : Exit → Act → World → Prop}
    (hg : o.guard = none) (m x : Operand) (t : TypeId) (hop : o.op = Op.lookup t m x false)
    (k e : TypeId) (K : Keyed P k) (ht : P.underlying t = some (.map k e)) (he : P.underlying e = some .string) (hz : (zeroValue e).run P w = .ok (.string ⟨#[]⟩) w) (b n : Nat) (D : DataW H)
    (hm : a.eval m = .map (some b)) (hown : w.ownsMap P k (plainElem P e) b n D) (key : Value) (kl : Go.Lit) (hx : a.eval x = key) (hkey : keyOf P k key = some kl) (r : List UInt8) (hr : D.atKey kl (.lit (.string [])) = .lit (.string r))
    (hK : wpList P ops Q rest (a.put o.dst (.string ⟨r.toArray⟩)) w) :
    wpList P ops Q (o :: rest) a w := by
  refine wpList_plain hg fun K' hK' => ?_
  obtain ⟨v, ps, hrun, hv⟩ := hown.lookup K ht hz (plainElem_string he (s := ⟨#[]⟩) (by decide)) hkey
  obtain ⟨s, rfl, hc, hwc⟩ := plainElem_string_inv he hv
  rw [hr] at hc
  simp only [Prod.mk.injEq, DataW.lit.injEq, Go.Lit.string.injEq] at hc
  have e1 : s = ⟨r.toArray⟩ := by rw [hc.1]
  subst e1
  unfold Oper.wp
  simp [execOp, hop, hm, hx, hrun, Result.andThen]
  exact hK' _ _ hK
def nmD (H : Type) : DataW H := (((((((((DataW.map []).put (.int .i32 34) (.lit (.string [34]))).put (.int .i32 92) (.lit (.string [92]))).put (.int .i32 47) (.lit (.string [47]))).put (.int .i32 8) (.lit (.string [98]))).put (.int .i32 12) (.lit (.string [102]))).put (.int .i32 10) (.lit (.string [110]))).put (.int .i32 13) (.lit (.string [114]))).put (.int .i32 9) (.lit (.string [116])))
theorem nm_step {H : Type} (D : DataW H) (hD : IsMap D) (kz : Int) (k : Nat) (hk : kz = k) (r : Nat) (l : List UInt8) (z : DataW H) : (D.put (.int .i32 kz) (.lit (.string l))).atKey (.int .i32 r) z = if r = k then .lit (.string l) else D.atKey (.int .i32 r) z := by
  subst hk
  split
  · subst r; exact atKey_put_same hD (by trivial) _ _
  · rename_i h; exact atKey_put_other (fun e => h (by injection e with _ e; omega)) _ _
theorem nm_at {H : Type} (r : Nat) : (nmD H).atKey (.int .i32 r) (.lit (.string [])) = .lit (.string (nameR r)) := by
  have m0 : IsMap (DataW.map [] : DataW H) := ⟨_, rfl⟩
  have m1 := m0.put (.int .i32 34) (.lit (.string [34]))
  have m2 := m1.put (.int .i32 92) (.lit (.string [92]))
  have m3 := m2.put (.int .i32 47) (.lit (.string [47]))
  have m4 := m3.put (.int .i32 8) (.lit (.string [98]))
  have m5 := m4.put (.int .i32 12) (.lit (.string [102]))
  have m6 := m5.put (.int .i32 10) (.lit (.string [110]))
  have m7 := m6.put (.int .i32 13) (.lit (.string [114]))
  unfold nmD
  rw [nm_step _ m7 9 9 rfl, nm_step _ m6 13 13 rfl, nm_step _ m5 10 10 rfl, nm_step _ m4 12 12 rfl, nm_step _ m3 8 8 rfl, nm_step _ m2 47 47 rfl, nm_step _ m1 92 92 rfl, nm_step _ m0 34 34 rfl]
  unfold nameR
  have e0 : (DataW.map [] : DataW H).atKey (.int .i32 r) (.lit (.string [])) = .lit (.string []) := rfl
  rw [e0]
  by_cases h1 : r = 34
  · subst h1; rfl
  by_cases h2 : r = 92
  · subst h2; rfl
  by_cases h3 : r = 47
  · subst h3; rfl
  by_cases h4 : r = 8
  · subst h4; rfl
  by_cases h5 : r = 12
  · subst h5; rfl
  by_cases h6 : r = 10
  · subst h6; rfl
  by_cases h7 : r = 13
  · subst h7; rfl
  by_cases h8 : r = 9
  · subst h8; rfl
  simp only [if_neg h1, if_neg h2, if_neg h3, if_neg h4, if_neg h5, if_neg h6, if_neg h7, if_neg h8]
open Go.Maps
theorem encode_eq (r : Nat) (h1 : r ≤ 1114111) (h2 : ¬ (55296 ≤ r ∧ r ≤ 57343)) : Utf8.encode (r : Int) = ⟨(Lib.encodeRune (r : Int)).toArray⟩ := by
  have hv : Utf8.valid (r : Int) = true := by
    unfold Utf8.valid
    simp only [Bool.or_eq_true, Bool.and_eq_true, decide_eq_true_eq]
    omega
  unfold Utf8.encode
  simp only [hv, if_true, Int.toNat_natCast]
  unfold Lib.encodeRune
  by_cases c1 : r < 128
  · rw [if_pos c1, Lib.encodeRuneZ_one (by omega) (by omega)]
    simp
  rw [if_neg c1]
  by_cases c2 : r < 2048
  · rw [if_pos c2, Lib.encodeRuneZ_two (by omega) (by omega)]
    simp only [List.map_cons, List.map_nil]
    have e1 : (192 + (r : Int) / 64).toNat = 192 + r / 64 := by omega
    have e2 : (128 + (r : Int) % 64).toNat = 128 + r % 64 := by omega
    rw [e1, e2]
  rw [if_neg c2]
  by_cases c3 : r < 65536
  · rw [if_pos c3, Lib.encodeRuneZ_three (by omega)]
    simp only [List.map_cons, List.map_nil]
    have e1 : (224 + (r : Int) / 4096).toNat = 224 + r / 4096 := by omega
    have e2 : (128 + (r : Int) / 64 % 64).toNat = 128 + r / 64 % 64 := by omega
    have e3 : (128 + (r : Int) % 64).toNat = 128 + r % 64 := by omega
    rw [e1, e2, e3]
  rw [if_neg c3, Lib.encodeRuneZ_four (by omega) (by omega)]
  simp only [List.map_cons, List.map_nil]
  have e1 : (240 + (r : Int) / 262144).toNat = 240 + r / 262144 := by omega
  have e2 : (128 + (r : Int) / 4096 % 64).toNat = 128 + r / 4096 % 64 := by omega
  have e3 : (128 + (r : Int) / 64 % 64).toNat = 128 + r / 64 % 64 := by omega
  have e4 : (128 + (r : Int) % 64).toNat = 128 + r % 64 := by omega
  rw [e1, e2, e3, e4]
theorem grown_own {w w' : World} {b : Nat} (hg : w.grownBy w' (some b)) {B : Nat} {w0 : World} (h : Below B w0 w) (hb : B ≤ b) (hB : B ≤ w0.heap.size) : Below B w0 w' :=
  have hgb : ∀ i, i < B → w'.heap[i]? = w.heap[i]? := fun i hi => hg.block i (by have := h.size; omega) (fun e => by injection e with e; omega)
  h.trans ⟨hg.os, hg.tape, hg.output, hg.size, fun i hi => hgb i hi⟩
set_option maxRecDepth 10000 in
theorem nm_runs (w : World) : ∃ w1 w2 w3 w4 w5 w6 w7 w8 : World,
    (Instr.mapUpdate 73 (.map (some w.heap.size)) (.int .i32 34) (.string ⟨#[34]⟩)).run Tryz.prog (w.alloc (.map #[] 0)) = .ok () w1 ∧
    (Instr.mapUpdate 73 (.map (some w.heap.size)) (.int .i32 92) (.string ⟨#[92]⟩)).run Tryz.prog w1 = .ok () w2 ∧
    (Instr.mapUpdate 73 (.map (some w.heap.size)) (.int .i32 47) (.string ⟨#[47]⟩)).run Tryz.prog w2 = .ok () w3 ∧
    (Instr.mapUpdate 73 (.map (some w.heap.size)) (.int .i32 8) (.string ⟨#[98]⟩)).run Tryz.prog w3 = .ok () w4 ∧
    (Instr.mapUpdate 73 (.map (some w.heap.size)) (.int .i32 12) (.string ⟨#[102]⟩)).run Tryz.prog w4 = .ok () w5 ∧
    (Instr.mapUpdate 73 (.map (some w.heap.size)) (.int .i32 10) (.string ⟨#[110]⟩)).run Tryz.prog w5 = .ok () w6 ∧
    (Instr.mapUpdate 73 (.map (some w.heap.size)) (.int .i32 13) (.string ⟨#[114]⟩)).run Tryz.prog w6 = .ok () w7 ∧
    (Instr.mapUpdate 73 (.map (some w.heap.size)) (.int .i32 9) (.string ⟨#[116]⟩)).run Tryz.prog w7 = .ok () w8 ∧
    (∀ r : Nat, r < 2147483648 → (Instr.lookup 73 (.map (some w.heap.size)) (.int .i32 r) false).run Tryz.prog w8 = .ok (.string ⟨(nameR r).toArray⟩) w8) ∧ Below w.heap.size w w8 := by
  have K : Keyed Tryz.prog 21 := int_keyed Tryz.underlying21
  have ht : Tryz.prog.underlying 73 = some (.map 21 9) := Tryz.underlying73
  have he : Tryz.prog.underlying 9 = some .string := Tryz.underlying9
  have hb0 : Below w.heap.size w (w.alloc (.map #[] 0)) := (Below.refl _ _).alloc (Nat.le_refl _) _
  have h0 := World.ownsMap_made (H := Unit) w Tryz.prog 21 (plainElem Tryz.prog 9)
  obtain ⟨w1, e1, h1, g1⟩ := h0.update K ht (by decide) (keyOf_int_mk (k := 21) Tryz.underlying21 (a := 34) (by decide)) (plainElem_string (H := Unit) he (s := ⟨#[34]⟩) (by decide))
  have hb1 := grown_own g1 hb0 (Nat.le_refl _) (Nat.le_refl _)
  obtain ⟨w2, e2, h2, g2⟩ := h1.update K ht (by decide) (keyOf_int_mk (k := 21) Tryz.underlying21 (a := 92) (by decide)) (plainElem_string (H := Unit) he (s := ⟨#[92]⟩) (by decide))
  have hb2 := grown_own g2 hb1 (Nat.le_refl _) (Nat.le_refl _)
  obtain ⟨w3, e3, h3, g3⟩ := h2.update K ht (by decide) (keyOf_int_mk (k := 21) Tryz.underlying21 (a := 47) (by decide)) (plainElem_string (H := Unit) he (s := ⟨#[47]⟩) (by decide))
  have hb3 := grown_own g3 hb2 (Nat.le_refl _) (Nat.le_refl _)
  obtain ⟨w4, e4, h4, g4⟩ := h3.update K ht (by decide) (keyOf_int_mk (k := 21) Tryz.underlying21 (a := 8) (by decide)) (plainElem_string (H := Unit) he (s := ⟨#[98]⟩) (by decide))
  have hb4 := grown_own g4 hb3 (Nat.le_refl _) (Nat.le_refl _)
  obtain ⟨w5, e5, h5, g5⟩ := h4.update K ht (by decide) (keyOf_int_mk (k := 21) Tryz.underlying21 (a := 12) (by decide)) (plainElem_string (H := Unit) he (s := ⟨#[102]⟩) (by decide))
  have hb5 := grown_own g5 hb4 (Nat.le_refl _) (Nat.le_refl _)
  obtain ⟨w6, e6, h6, g6⟩ := h5.update K ht (by decide) (keyOf_int_mk (k := 21) Tryz.underlying21 (a := 10) (by decide)) (plainElem_string (H := Unit) he (s := ⟨#[110]⟩) (by decide))
  have hb6 := grown_own g6 hb5 (Nat.le_refl _) (Nat.le_refl _)
  obtain ⟨w7, e7, h7, g7⟩ := h6.update K ht (by decide) (keyOf_int_mk (k := 21) Tryz.underlying21 (a := 13) (by decide)) (plainElem_string (H := Unit) he (s := ⟨#[114]⟩) (by decide))
  have hb7 := grown_own g7 hb6 (Nat.le_refl _) (Nat.le_refl _)
  obtain ⟨w8, e8, h8, g8⟩ := h7.update K ht (by decide) (keyOf_int_mk (k := 21) Tryz.underlying21 (a := 9) (by decide)) (plainElem_string (H := Unit) he (s := ⟨#[116]⟩) (by decide))
  have hb8 := grown_own g8 hb7 (Nat.le_refl _) (Nat.le_refl _)
  refine ⟨w1, w2, w3, w4, w5, w6, w7, w8, e1, e2, e3, e4, e5, e6, e7, e8, fun r hr => ?_, hb8⟩
  obtain ⟨v, ps, hrun, hv⟩ := h8.lookup K ht (z := .string ⟨#[]⟩) (by kernel_rfl) (plainElem_string (H := Unit) he (s := ⟨#[]⟩) (by decide)) (keyOf_int_mk (k := 21) Tryz.underlying21 (a := (r : Int)) (by have h1 : IntKind.i32.min = -2147483648 := rfl; have h2 : IntKind.i32.max = 2147483647 := rfl; simp only [Go.Lit.wf, h1, h2, Bool.and_eq_true, decide_eq_true_eq]; omega))
  obtain ⟨s, rfl, hc, hwc⟩ := plainElem_string_inv he hv
  have hat := nm_at (H := Unit) r
  unfold nmD at hat
  rw [show (({ data := #[] } : ByteArray).data.toList) = [] from rfl] at hc
  simp only [Prod.mk.injEq] at hc
  have hc' : (DataW.lit (.string (nameR r)) : DataW Unit) = .lit (.string s.data.toList) := hat.symm.trans hc.1
  have hc2 : nameR r = s.data.toList := by simpa using hc'
  have e1 : s = ⟨(nameR r).toArray⟩ := by rw [hc2]
  rw [← e1]
  exact hrun
open Go.Lib
theorem WY.other {b : Nat} {L : List UInt8} {k : Nat} {w w' : World} {H : Nat} (h : WY b L k w) (hk : ∀ i, i ≠ H → w'.heap[i]? = w.heap[i]?) (hb : b ≠ H) (hH2 : ∀ p : Addr, p.block = H → w.cell? p = none) : WY b L k w' := by
  obtain ⟨lv, h1, h2, h3⟩ := h
  refine ⟨lv, by rw [hk b hb]; exact h1, ?_, h3⟩
  rcases h2 with h2 | ⟨ad, cp, rfl, hl, hc⟩
  · exact .inl h2
  · refine .inr ⟨ad, cp, rfl, hl, fun j x hj => ?_⟩
    have hne : (ad.add j).block ≠ H := fun e => by
      have := hc j x hj
      rw [hH2 _ e] at this; cases this
    rw [World.cell?_of_block (hk _ hne)]
    exact hc j x hj
theorem iter_nocell {w : World} {H : Nat} {s : ByteArray} {pos : Nat} (h : w.heap[H]? = some (.stringIter s pos)) : ∀ p : Addr, p.block = H → w.cell? p = none := by
  intro p hp
  subst hp
  simp [World.cell?, h]
theorem iterPos_of {w : World} {H : Nat} {s : ByteArray} {pos : Nat} (h : w.heap[H]? = some (.stringIter s pos)) : w.iterPos H = pos := by
  simp [World.iterPos, h]
/-- What holds at a round's head. -/
structure QF (s : ByteArray) (L : List UInt8) (b : Nat) (k0 : Nat) (w : World) (pos k : Nat) (Q : List UInt8) (wr : World) : Prop where
  it : wr.heap[w.heap.size]? = some (.stringIter s pos)
  wy : WY b L k wr
  fr : Fr b w wr
  qs : QS s pos Q
  ok : ∃ f, vld s f pos = true ∧ s.size ≤ pos + f
  hk : k ≤ k0 + 4 * pos
  hp : pos ≤ s.size
/-- The iterator, the choices and the frame. -/
def IW (s : ByteArray) (L : List UInt8) (b p k : Nat) (w W : World) : Prop := W.heap[w.heap.size]? = some (.stringIter s p) ∧ WY b L k W ∧ Fr b w W
theorem IW.fr {s : ByteArray} {L : List UInt8} {b p k k' : Nat} {w W W' : World} (h : IW s L b p k w W) (hb : b < w.heap.size) (hy : WY b L k' W') (hf : Fr b W W') : IW s L b p k' w W' :=
  have hlt : w.heap.size < W.heap.size := (Array.getElem?_eq_some_iff.1 h.1).1
  ⟨by rw [hf.block _ hlt (by omega)]; exact h.1, hy, h.2.2.trans hf⟩
theorem IW.below {s : ByteArray} {L : List UInt8} {b p k : Nat} {w W W' : World} (h : IW s L b p k w W) (hf : Below W.heap.size W W') : IW s L b p k w W' :=
  have hlt : w.heap.size < W.heap.size := (Array.getElem?_eq_some_iff.1 h.1).1
  ⟨by rw [hf.block _ hlt]; exact h.1, h.2.1.below hf, h.2.2.below hf⟩
/-- What quoted comes to. -/
def QuP (s : ByteArray) (L : List UInt8) (b k : Nat) (w : World) (e : Ending) (w' : World) : Prop :=
  ∃ Q k', e = .returned (.string ⟨(34 :: Q ++ [34]).toArray⟩) ∧ QS s s.size Q ∧ WY b L k' w' ∧ Fr b w w' ∧ k' ≤ k + 4 * s.size
theorem i32_and10' {x : Int} (h₀ : 0 ≤ x) (h₁ : x < 2147483648) : bits .and .i32 x 1023 = x % 1024 :=
  bits_mask .i32 31 (by decide) wraps_i32 10 (by decide) x h₀ h₁
theorem ba_eq {S : ByteArray} {l : List UInt8} (h : S.data.toList = l) : S = ⟨l.toArray⟩ := by
  cases S with
  | mk d => simp only at h; rw [← h]
theorem ba_app (S T : ByteArray) : (S ++ T).data.toList = S.data.toList ++ T.data.toList := by rw [ByteArray.data_append, Array.toList_append]
theorem ba_len (S : ByteArray) : S.size = S.data.toList.length := Lib.size_eq S
set_option maxRecDepth 100000 in
set_option maxHeartbeats 16000000 in
theorem wquoted_any (s : ByteArray) (hs : s.size ≤ 1048576) (hv : vld s s.size 0 = true) {b : Nat} {L : List UInt8} {k0 : Nat} {w : World} (h : WY b L k0 w) (hk0 : k0 ≤ 1073741824) :
    Calls Tryz.prog 12 #[.pointer (some ⟨b, 0, none⟩), .string s] w (QuP s L b k0 w) := by
  have hmm := @run_makeMap Tryz.prog
  have H0 : Hid (QF s L b k0 w 0 k0 [] (w.iter s 0)) := by
    have hbw : Below w.heap.size w (w.iter s 0) := iter_below w s 0
    exact ⟨World.iter_heap w s 0, h.below hbw, Fr.of_below hbw, QS.zero s, ⟨s.size, hv, by omega⟩, by omega, by omega⟩
  have HBL : Hid (b < w.heap.size) := by
    obtain ⟨lv, h1, _⟩ := h
    rcases Nat.lt_or_ge b w.heap.size with hl | hl
    · exact hl
    · rw [Array.getElem?_eq_none hl] at h1; cases h1
  have HS := Lib.hid hs
  have HK0 := Lib.hid hk0
  clear h hv hs hk0
  go_enter Tryz.func12, Tryz.ntmps12
  go_wp2_with (fail)
  go_loopw [5] (fun v wr => ∃ (pos k : Nat) (Q : List UInt8) (S : ByteArray), v = .string S ∧ Hid (S.data.toList = 34 :: Q) ∧ Hid (QF s L b k0 w pos k Q wr)) (fun _ wr => s.size - wr.iterPos w.heap.size)
  case atStart => exact ⟨0, k0, [], _, rfl, rfl, H0.out⟩
  case round =>
    obtain ⟨pos, k, Q, S, rfl, HQ, HF⟩ := hrel
    have hSz : S.size ≤ 20000000 := by
      have h1 := HF.out.qs
      obtain ⟨_, _, _, _, _, h5⟩ := h1
      have := HF.out.hp; have := HS.out
      rw [ba_len, HQ.out, List.length_cons]; omega
    by_cases hp : pos < s.size
    · have F := HF.out
      have hl := drop_ne s pos hp
      have hde := decodeL_drop s pos
      have hwp := width_pos s pos hp
      have hrf := rune_facts (s.data.toList.drop pos)
      have hwl := decodeL_le (s.data.toList.drop pos) hl
      rw [hde] at hrf hwl
      have hwl' : pos + (Utf8.decode s pos).2 ≤ s.size := by
        rw [List.length_drop] at hwl
        have : s.data.toList.length = s.size := (Lib.size_eq s).symm
        omega
      obtain ⟨hok, f', hv', hf'⟩ : okAt s pos ∧ ∃ f, vld s f (pos + (Utf8.decode s pos).2) = true ∧ s.size ≤ pos + (Utf8.decode s pos).2 + f := by
        obtain ⟨f, hv, hf⟩ := F.ok
        obtain ⟨f, rfl⟩ : ∃ c, f = c + 1 := ⟨f - 1, by omega⟩
        obtain ⟨h1, h2⟩ := vld_okAt s f pos hp hv
        exact ⟨h1, f, h2, by omega⟩
      have hvd := okAt_hv hok
      have hRAW := fun h1 h2 h3 => qp_raw (l := s.data.toList.drop pos) hl hvd h1 h2 h3
      have hENC := Lib.encode_decode (s.data.toList.drop pos) hl hvd
      have hHEX := qp_hex (l := s.data.toList.drop pos) hl hvd
      have hPAIR := qp_pair (l := s.data.toList.drop pos) hl hvd
      have hNAME := qp_name (l := s.data.toList.drop pos) hl
      have hADD := fun q => F.qs.add (q := q) hp
      have hnx : ∀ ty, (Instr.next (.pointer (some ⟨w.heap.size, 0, none⟩)) true ty).run Tryz.prog wr = _ := fun ty => Lib.run_next_any_at wr w.heap.size s pos ty F.it hp
      rw [hde] at hRAW hENC hHEX hPAIR hNAME
      obtain ⟨r, hr⟩ : ∃ r, r = (Utf8.decode s pos).1 := ⟨_, rfl⟩
      obtain ⟨wd, hwd⟩ : ∃ wd, wd = (Utf8.decode s pos).2 := ⟨_, rfl⟩
      obtain ⟨W1, hW1⟩ : ∃ W1, W1 = wr.iterAt w.heap.size s (pos + (Utf8.decode s pos).2) := ⟨_, rfl⟩
      have HW : Hid (IW s L b (pos + wd) k w W1) := by
        rw [hW1, hwd]
        have hbl := HBL.out
        refine ⟨Lib.iterAt_heap wr w.heap.size s pos _ F.it, F.wy.other (H := w.heap.size) (fun i hi => Lib.iterAt_other wr w.heap.size i s _ hi) (by omega) (iter_nocell F.it), ?_⟩
        exact ⟨F.fr.os, F.fr.tape, F.fr.output, by rw [Lib.iterAt_size]; exact F.fr.size, fun i hi hj => by rw [Lib.iterAt_other wr w.heap.size i s _ (by omega)]; exact F.fr.block i hi hj⟩
      have HM : Hid (wr.iterPos w.heap.size = pos) := iterPos_of F.it
      have hk1 : k ≤ 2000000000 := by have := F.hk; have := HS.out; have := HK0.out; omega
      rw [← hW1, ← hr] at hnx
      rw [← hr, ← hwd] at hRAW hENC hHEX hPAIR
      rw [← hr, ← hwd] at hNAME hrf
      simp only [← hwd] at hADD
      rw [← hwd] at hwp hwl' hv' hf'
      have HEND : Hid (∀ (q : List UInt8) (k' : Nat) (W : World), Piece q ((s.data.toList.drop pos).take wd) → q.length ≤ 12 → IW s L b (pos + wd) k' w W → k' ≤ k + 4 → QF s L b k0 w (pos + wd) k' (Q ++ q) W) := by
        intro q k' W hq hl12 hit hkk
        exact ⟨hit.1, hit.2.1, hit.2.2, hADD q hq hl12, ⟨f', hv', hf'⟩, by have := F.hk; omega, hwl'⟩
      have HMS : Hid (∀ (k' : Nat) (W : World), IW s L b (pos + wd) k' w W → s.size - W.iterPos w.heap.size < s.size - wr.iterPos w.heap.size) := by
        intro k' W hit
        rw [iterPos_of hit.1, HM.out]; omega
      have HRAW := Lib.hid hRAW
      have HENC := Lib.hid hENC
      have HHEX := Lib.hid hHEX
      have HPAIR := Lib.hid hPAIR
      have HNAME := Lib.hid hNAME
      have hr0 : (0 : Int) ≤ (r : Int) := by omega
      have hr1 : (r : Int) ≤ 1114111 := by omega
      have HRF := Lib.hid hrf
      have HK1 := Lib.hid hk1
      clear F hl hde hrf hwl hok hv' hf' hvd hADD hr hwd hW1 HF hRAW hENC hHEX hPAIR hNAME HM hk1 hwl' hwp f'
      by_cases hraw : (r ≠ 34 ∧ r ≠ 92 ∧ 32 ≤ r) ∧ nx L k 5 ≠ 1
      · obtain ⟨⟨n1, n2, n3⟩, hx⟩ := hraw
        have HP := Lib.hid (HRAW.out n3 n1 n2)
        have HE := encode_eq r (by omega) (HRF.out).2.1
        rw [HENC.out] at HE
        have hcv : ∀ w, (convert 21 9 (.int .i32 r)).run Tryz.prog w = _ := fun w => run_convert_int_string w 21 9 .i32 r (by kernel_rfl) Tryz.underlying9
        rw [HE] at hcv
        clear HE
        obtain ⟨T, hT⟩ : ∃ T : ByteArray, T = ⟨((s.data.toList.drop pos).take wd).toArray⟩ := ⟨_, rfl⟩
        rw [← hT] at hcv
        have HT : Hid (T.data.toList = (s.data.toList.drop pos).take wd) := by rw [hT]; exact Lib.hid (by simp)
        have HTL : Hid (((s.data.toList.drop pos).take wd).length ≤ 4) := by have := HRF.out.2.2; exact Lib.hid (by rw [List.length_take]; omega)
        have hTz : T.size ≤ 4 := by rw [ba_len, HT.out]; exact HTL.out
        clear hT
        have i1 : ((r : Int) == 34) = false := by simp; omega
        have i2 : ((r : Int) == 92) = false := by simp; omega
        have i3 : ¬ (r : Int) < 32 := by omega
        have i4 : decide ((r : Int) < 32) = false := by simp; omega
        obtain ⟨c5, hc5⟩ : ∃ c, c = nx L k 5 := ⟨_, rfl⟩
        have HN := Lib.hid (next_any 5 (by decide) (by decide) HW.out.2.1 (by have := HK1.out; omega))
        rw [← hc5] at HN hx
        have i5 : ¬ (c5 : Int) = 1 := by omega
        have i6 : ((c5 : Int) == 1) = false := by simp; omega
        clear hc5 hx n1 n2 n3
        go_wp2_with (fail)
        refine HN.out.mono ?_
        rintro e W2 ⟨rfl, hwy, hfr⟩
        have HW2 := Lib.hid (HW.out.fr HBL.out hwy hfr)
        clear hwy hfr
        go_wp2_with (fail)
        go_roundw
        case rel => exact ⟨pos + wd, k + 1, Q ++ (s.data.toList.drop pos).take wd, S ++ T, rfl, by show _ = _; rw [ba_app, HQ.out, HT.out]; rfl, HEND.out _ _ _ HP.out (by have := HTL.out; omega) HW2.out (by omega)⟩
        case measure => exact HMS.out _ _ HW2.out
      by_cases hfree : r ≠ 34 ∧ r ≠ 92 ∧ 32 ≤ r
      · obtain ⟨n1, n2, n3⟩ := hfree
        have hx : nx L k 5 = 1 := by
          rcases Decidable.em (nx L k 5 = 1) with h | h
          · exact h
          · exact absurd ⟨⟨n1, n2, n3⟩, h⟩ hraw
        have i1 : ((r : Int) == 34) = false := by simp; omega
        have i2 : ((r : Int) == 92) = false := by simp; omega
        have i3 : ¬ (r : Int) < 32 := by omega
        have i4 : decide ((r : Int) < 32) = false := by simp; omega
        have HN := Lib.hid (next_any 5 (by decide) (by decide) HW.out.2.1 (by have := HK1.out; omega))
        rw [hx] at HN
        clear hx n1 n2 n3
        go_wp2_with (fail)
        refine HN.out.mono ?_
        rintro e W2 ⟨rfl, hwy, hfr⟩
        have HW2 := Lib.hid (HW.out.fr HBL.out hwy hfr)
        clear hwy hfr
        obtain ⟨m1, m2, m3, m4, m5, m6, m7, m8, e1, e2, e3, e4, e5, e6, e7, e8, hlk, hbm⟩ := nm_runs W2
        have hlk := hlk r (by omega)
        have HW3 := Lib.hid (HW2.out.below hbm)
        clear hbm
        by_cases hn : nameR r = []
        · rw [hn] at hlk
          by_cases hbig : 65536 ≤ r
          · have j1 : (65536 : Int) ≤ (r : Int) := by omega
            have hHP := HPAIR.out hbig
            obtain ⟨ca, hca⟩ : ∃ c, c = 55296 + (r - 65536) / 1024 := ⟨_, rfl⟩
            obtain ⟨cb, hcb⟩ : ∃ c, c = 56320 + (r - 65536) % 1024 := ⟨_, rfl⟩
            rw [← hca, ← hcb] at hHP
            have HHP := Lib.hid hHP
            have a1 : IntKind.i32.wrap (55296 + ((r : Int) - 65536) / 1024) = (ca : Int) := by rw [IntKind.wrap_i32, hca]; omega
            have a2 : bits .and .i32 ((r : Int) - 65536) 1023 = ((r : Int) - 65536) % 1024 := i32_and10' (by omega) (by omega)
            have a3 : (56320 : Int) + ((r : Int) - 65536) % 1024 = (cb : Int) := by rw [hcb]; omega
            have a4 : (55296 : Int) + ((r : Int) - 65536) / 1024 = (ca : Int) := by rw [hca]; omega
            have HCA : Hid (ca < 65536) := by show _ < _; omega
            have HCB : Hid (cb < 65536) := by show _ < _; omega
            clear hca hcb hHP hn hbig hraw
            go_wp2_with (fail)
            refine (hex4_any ca HCA.out HW3.out.2.1 (by have := HK1.out; omega)).mono ?_
            rintro e W4 ⟨u1, rfl, hwy, hfr⟩
            have HW4 := Lib.hid (HW3.out.fr HBL.out hwy hfr)
            clear hwy hfr
            obtain ⟨T1, hT1⟩ : ∃ T : ByteArray, T = ⟨(hexT u1 ca).toArray⟩ := ⟨_, rfl⟩
            rw [← hT1]
            have HT1 : Hid (T1.data.toList = hexT u1 ca) := by rw [hT1]; exact Lib.hid rfl
            have hz1 : T1.size = 6 := by rw [ba_len, HT1.out]; rfl
            clear hT1
            go_wp2_with (fail)
            refine (hex4_any cb HCB.out HW4.out.2.1 (by have := HK1.out; omega)).mono ?_
            rintro e W5 ⟨u2, rfl, hwy, hfr⟩
            have HW5 := Lib.hid (HW4.out.fr HBL.out hwy hfr)
            clear hwy hfr
            obtain ⟨T2, hT2⟩ : ∃ T : ByteArray, T = ⟨(hexT u2 cb).toArray⟩ := ⟨_, rfl⟩
            rw [← hT2]
            have HT2 : Hid (T2.data.toList = hexT u2 cb) := by rw [hT2]; exact Lib.hid rfl
            have hz2 : T2.size = 6 := by rw [ba_len, HT2.out]; rfl
            clear hT2
            go_wp2_with (fail)
            go_roundw
            case rel => exact ⟨pos + wd, _, Q ++ (hexT u1 ca ++ hexT u2 cb), S ++ (T1 ++ T2), rfl, by show _ = _; rw [ba_app, ba_app, HQ.out, HT1.out, HT2.out]; rfl, HEND.out _ _ _ (HHP.out u1 u2) (by rw [List.length_append]; exact Nat.le_refl 12) HW5.out (by omega)⟩
            case measure => exact HMS.out _ _ HW5.out
          · have j1 : decide ((65536 : Int) ≤ (r : Int)) = false := by simp; omega
            have HHP := Lib.hid (HHEX.out (by omega))
            have HR6 : Hid (r < 65536) := by show _ < _; omega
            clear hn hbig hraw
            go_wp2_with (fail)
            refine (hex4_any r HR6.out HW3.out.2.1 (by have := HK1.out; omega)).mono ?_
            rintro e W4 ⟨u1, rfl, hwy, hfr⟩
            have HW4 := Lib.hid (HW3.out.fr HBL.out hwy hfr)
            clear hwy hfr
            obtain ⟨T1, hT1⟩ : ∃ T : ByteArray, T = ⟨(hexT u1 r).toArray⟩ := ⟨_, rfl⟩
            rw [← hT1]
            have HT1 : Hid (T1.data.toList = hexT u1 r) := by rw [hT1]; exact Lib.hid rfl
            have hz1 : T1.size = 6 := by rw [ba_len, HT1.out]; rfl
            clear hT1
            go_wp2_with (fail)
            go_roundw
            case rel => exact ⟨pos + wd, _, Q ++ hexT u1 r, S ++ T1, rfl, by show _ = _; rw [ba_app, HQ.out, HT1.out]; rfl, HEND.out _ _ _ (HHP.out u1) (by exact of_decide_eq_true rfl) HW4.out (by omega)⟩
            case measure => exact HMS.out _ _ HW4.out
        · obtain ⟨y, z, hy, _, hlt, _⟩ := nameR_table r hn
          have HHN := HNAME.out hn
          rw [hy] at hlk HHN
          have HHN := Lib.hid HHN
          obtain ⟨T, hT⟩ : ∃ T : ByteArray, T = ⟨[y].toArray⟩ := ⟨_, rfl⟩
          rw [← hT] at hlk
          have HT : Hid (T.data.toList = [y]) := by rw [hT]; exact Lib.hid rfl
          have hz1 : T.size = 1 := by rw [ba_len, HT.out]; rfl
          have n1 : T.toList = [y] := by rw [ByteArray.toList_eq]; exact HT.out
          have n2 : (T.toList == []) = false := by rw [n1]; rfl
          have n3 : T.toList.isEmpty = false := by rw [n1]; rfl
          have n4 : (!T.toList.isEmpty) = true := by rw [n1]; rfl
          have n5 : (T.toList != []) = true := by rw [n1]; rfl
          have j1 : decide ((65536 : Int) ≤ (r : Int)) = false := by simp; omega
          have HR6 : Hid (r < 65536) := by show _ < _; omega
          have HHP := Lib.hid (HHEX.out (by omega))
          obtain ⟨c2, hc2⟩ : ∃ c, c = nx L (k + 1) 2 := ⟨_, rfl⟩
          have HN2 := Lib.hid (next_any 2 (by decide) (by decide) HW3.out.2.1 (by have := HK1.out; omega))
          rw [← hc2] at HN2
          clear hc2 hT hn n1 hy hlt hraw
          by_cases h20 : c2 = 0
          · have i7 : (c2 : Int) = 0 := by omega
            have i8 : ((c2 : Int) == 0) = true := by simp; omega
            clear h20
            go_wp2_with (fail)
            refine HN2.out.mono ?_
            rintro e W4 ⟨rfl, hwy, hfr⟩
            have HW4 := Lib.hid (HW3.out.fr HBL.out hwy hfr)
            clear hwy hfr
            go_wp2_with (fail)
            go_roundw
            case rel => exact ⟨pos + wd, _, Q ++ (92 :: [y]), _, rfl, by show _ = _; rw [ba_app, ba_app, HQ.out, HT.out]; rfl, HEND.out _ _ _ HHN.out (by exact of_decide_eq_true rfl) HW4.out (by omega)⟩
            case measure => exact HMS.out _ _ HW4.out
          · have i7 : ¬ (c2 : Int) = 0 := by omega
            have i8 : ((c2 : Int) == 0) = false := by simp; omega
            clear h20
            go_wp2_with (fail)
            refine HN2.out.mono ?_
            rintro e W4 ⟨rfl, hwy, hfr⟩
            have HW4 := Lib.hid (HW3.out.fr HBL.out hwy hfr)
            clear hwy hfr
            go_wp2_with (fail)
            refine (hex4_any r HR6.out HW4.out.2.1 (by have := HK1.out; omega)).mono ?_
            rintro e W5 ⟨u1, rfl, hwy, hfr⟩
            have HW5 := Lib.hid (HW4.out.fr HBL.out hwy hfr)
            clear hwy hfr
            obtain ⟨T1, hT1⟩ : ∃ T : ByteArray, T = ⟨(hexT u1 r).toArray⟩ := ⟨_, rfl⟩
            rw [← hT1]
            have HT1 : Hid (T1.data.toList = hexT u1 r) := by rw [hT1]; exact Lib.hid rfl
            have hz2 : T1.size = 6 := by rw [ba_len, HT1.out]; rfl
            clear hT1
            go_wp2_with (fail)
            go_roundw
            case rel => exact ⟨pos + wd, _, Q ++ hexT u1 r, S ++ T1, rfl, by show _ = _; rw [ba_app, HQ.out, HT1.out]; rfl, HEND.out _ _ _ (HHP.out u1) (by exact of_decide_eq_true rfl) HW5.out (by omega)⟩
            case measure => exact HMS.out _ _ HW5.out
      rcases (show r = 34 ∨ (r ≠ 34 ∧ r = 92) ∨ (r ≠ 34 ∧ r ≠ 92 ∧ r < 32) by omega) with h34 | ⟨n1, h92⟩ | ⟨n1, n2, n3⟩
      · have i1 : ((r : Int) == 34) = true := by simp; omega
        have HLOW : Hid (r < 128) := by show _ < _; omega
        clear h34 hfree
        obtain ⟨m1, m2, m3, m4, m5, m6, m7, m8, e1, e2, e3, e4, e5, e6, e7, e8, hlk, hbm⟩ := nm_runs W1
        have hlk := hlk r (by omega)
        have HW3 := Lib.hid (HW.out.below hbm)
        clear hbm
        by_cases hn : nameR r = []
        · rw [hn] at hlk
          by_cases hbig : 65536 ≤ r
          · have := HLOW.out
            omega
          · have j1 : decide ((65536 : Int) ≤ (r : Int)) = false := by simp; omega
            have HHP := Lib.hid (HHEX.out (by omega))
            have HR6 : Hid (r < 65536) := by show _ < _; omega
            clear hn hbig hraw
            go_wp2_with (fail)
            refine (hex4_any r HR6.out HW3.out.2.1 (by have := HK1.out; omega)).mono ?_
            rintro e W4 ⟨u1, rfl, hwy, hfr⟩
            have HW4 := Lib.hid (HW3.out.fr HBL.out hwy hfr)
            clear hwy hfr
            obtain ⟨T1, hT1⟩ : ∃ T : ByteArray, T = ⟨(hexT u1 r).toArray⟩ := ⟨_, rfl⟩
            rw [← hT1]
            have HT1 : Hid (T1.data.toList = hexT u1 r) := by rw [hT1]; exact Lib.hid rfl
            have hz1 : T1.size = 6 := by rw [ba_len, HT1.out]; rfl
            clear hT1
            go_wp2_with (fail)
            go_roundw
            case rel => exact ⟨pos + wd, _, Q ++ hexT u1 r, S ++ T1, rfl, by show _ = _; rw [ba_app, HQ.out, HT1.out]; rfl, HEND.out _ _ _ (HHP.out u1) (by exact of_decide_eq_true rfl) HW4.out (by omega)⟩
            case measure => exact HMS.out _ _ HW4.out
        · obtain ⟨y, z, hy, _, hlt, _⟩ := nameR_table r hn
          have HHN := HNAME.out hn
          rw [hy] at hlk HHN
          have HHN := Lib.hid HHN
          obtain ⟨T, hT⟩ : ∃ T : ByteArray, T = ⟨[y].toArray⟩ := ⟨_, rfl⟩
          rw [← hT] at hlk
          have HT : Hid (T.data.toList = [y]) := by rw [hT]; exact Lib.hid rfl
          have hz1 : T.size = 1 := by rw [ba_len, HT.out]; rfl
          have n1 : T.toList = [y] := by rw [ByteArray.toList_eq]; exact HT.out
          have n2 : (T.toList == []) = false := by rw [n1]; rfl
          have n3 : T.toList.isEmpty = false := by rw [n1]; rfl
          have n4 : (!T.toList.isEmpty) = true := by rw [n1]; rfl
          have n5 : (T.toList != []) = true := by rw [n1]; rfl
          have j1 : decide ((65536 : Int) ≤ (r : Int)) = false := by simp; omega
          have HR6 : Hid (r < 65536) := by show _ < _; omega
          have HHP := Lib.hid (HHEX.out (by omega))
          obtain ⟨c2, hc2⟩ : ∃ c, c = nx L k 2 := ⟨_, rfl⟩
          have HN2 := Lib.hid (next_any 2 (by decide) (by decide) HW3.out.2.1 (by have := HK1.out; omega))
          rw [← hc2] at HN2
          clear hc2 hT hn n1 hy hlt hraw
          by_cases h20 : c2 = 0
          · have i7 : (c2 : Int) = 0 := by omega
            have i8 : ((c2 : Int) == 0) = true := by simp; omega
            clear h20
            go_wp2_with (fail)
            refine HN2.out.mono ?_
            rintro e W4 ⟨rfl, hwy, hfr⟩
            have HW4 := Lib.hid (HW3.out.fr HBL.out hwy hfr)
            clear hwy hfr
            go_wp2_with (fail)
            go_roundw
            case rel => exact ⟨pos + wd, _, Q ++ (92 :: [y]), _, rfl, by show _ = _; rw [ba_app, ba_app, HQ.out, HT.out]; rfl, HEND.out _ _ _ HHN.out (by exact of_decide_eq_true rfl) HW4.out (by omega)⟩
            case measure => exact HMS.out _ _ HW4.out
          · have i7 : ¬ (c2 : Int) = 0 := by omega
            have i8 : ((c2 : Int) == 0) = false := by simp; omega
            clear h20
            go_wp2_with (fail)
            refine HN2.out.mono ?_
            rintro e W4 ⟨rfl, hwy, hfr⟩
            have HW4 := Lib.hid (HW3.out.fr HBL.out hwy hfr)
            clear hwy hfr
            go_wp2_with (fail)
            refine (hex4_any r HR6.out HW4.out.2.1 (by have := HK1.out; omega)).mono ?_
            rintro e W5 ⟨u1, rfl, hwy, hfr⟩
            have HW5 := Lib.hid (HW4.out.fr HBL.out hwy hfr)
            clear hwy hfr
            obtain ⟨T1, hT1⟩ : ∃ T : ByteArray, T = ⟨(hexT u1 r).toArray⟩ := ⟨_, rfl⟩
            rw [← hT1]
            have HT1 : Hid (T1.data.toList = hexT u1 r) := by rw [hT1]; exact Lib.hid rfl
            have hz2 : T1.size = 6 := by rw [ba_len, HT1.out]; rfl
            clear hT1
            go_wp2_with (fail)
            go_roundw
            case rel => exact ⟨pos + wd, _, Q ++ hexT u1 r, S ++ T1, rfl, by show _ = _; rw [ba_app, HQ.out, HT1.out]; rfl, HEND.out _ _ _ (HHP.out u1) (by exact of_decide_eq_true rfl) HW5.out (by omega)⟩
            case measure => exact HMS.out _ _ HW5.out
      · have i1 : ((r : Int) == 34) = false := by simp; omega
        have i2 : ((r : Int) == 92) = true := by simp; omega
        have HLOW : Hid (r < 128) := by show _ < _; omega
        clear h92 hfree n1
        obtain ⟨m1, m2, m3, m4, m5, m6, m7, m8, e1, e2, e3, e4, e5, e6, e7, e8, hlk, hbm⟩ := nm_runs W1
        have hlk := hlk r (by omega)
        have HW3 := Lib.hid (HW.out.below hbm)
        clear hbm
        by_cases hn : nameR r = []
        · rw [hn] at hlk
          by_cases hbig : 65536 ≤ r
          · have := HLOW.out
            omega
          · have j1 : decide ((65536 : Int) ≤ (r : Int)) = false := by simp; omega
            have HHP := Lib.hid (HHEX.out (by omega))
            have HR6 : Hid (r < 65536) := by show _ < _; omega
            clear hn hbig hraw
            go_wp2_with (fail)
            refine (hex4_any r HR6.out HW3.out.2.1 (by have := HK1.out; omega)).mono ?_
            rintro e W4 ⟨u1, rfl, hwy, hfr⟩
            have HW4 := Lib.hid (HW3.out.fr HBL.out hwy hfr)
            clear hwy hfr
            obtain ⟨T1, hT1⟩ : ∃ T : ByteArray, T = ⟨(hexT u1 r).toArray⟩ := ⟨_, rfl⟩
            rw [← hT1]
            have HT1 : Hid (T1.data.toList = hexT u1 r) := by rw [hT1]; exact Lib.hid rfl
            have hz1 : T1.size = 6 := by rw [ba_len, HT1.out]; rfl
            clear hT1
            go_wp2_with (fail)
            go_roundw
            case rel => exact ⟨pos + wd, _, Q ++ hexT u1 r, S ++ T1, rfl, by show _ = _; rw [ba_app, HQ.out, HT1.out]; rfl, HEND.out _ _ _ (HHP.out u1) (by exact of_decide_eq_true rfl) HW4.out (by omega)⟩
            case measure => exact HMS.out _ _ HW4.out
        · obtain ⟨y, z, hy, _, hlt, _⟩ := nameR_table r hn
          have HHN := HNAME.out hn
          rw [hy] at hlk HHN
          have HHN := Lib.hid HHN
          obtain ⟨T, hT⟩ : ∃ T : ByteArray, T = ⟨[y].toArray⟩ := ⟨_, rfl⟩
          rw [← hT] at hlk
          have HT : Hid (T.data.toList = [y]) := by rw [hT]; exact Lib.hid rfl
          have hz1 : T.size = 1 := by rw [ba_len, HT.out]; rfl
          have n1 : T.toList = [y] := by rw [ByteArray.toList_eq]; exact HT.out
          have n2 : (T.toList == []) = false := by rw [n1]; rfl
          have n3 : T.toList.isEmpty = false := by rw [n1]; rfl
          have n4 : (!T.toList.isEmpty) = true := by rw [n1]; rfl
          have n5 : (T.toList != []) = true := by rw [n1]; rfl
          have j1 : decide ((65536 : Int) ≤ (r : Int)) = false := by simp; omega
          have HR6 : Hid (r < 65536) := by show _ < _; omega
          have HHP := Lib.hid (HHEX.out (by omega))
          obtain ⟨c2, hc2⟩ : ∃ c, c = nx L k 2 := ⟨_, rfl⟩
          have HN2 := Lib.hid (next_any 2 (by decide) (by decide) HW3.out.2.1 (by have := HK1.out; omega))
          rw [← hc2] at HN2
          clear hc2 hT hn n1 hy hlt hraw
          by_cases h20 : c2 = 0
          · have i7 : (c2 : Int) = 0 := by omega
            have i8 : ((c2 : Int) == 0) = true := by simp; omega
            clear h20
            go_wp2_with (fail)
            refine HN2.out.mono ?_
            rintro e W4 ⟨rfl, hwy, hfr⟩
            have HW4 := Lib.hid (HW3.out.fr HBL.out hwy hfr)
            clear hwy hfr
            go_wp2_with (fail)
            go_roundw
            case rel => exact ⟨pos + wd, _, Q ++ (92 :: [y]), _, rfl, by show _ = _; rw [ba_app, ba_app, HQ.out, HT.out]; rfl, HEND.out _ _ _ HHN.out (by exact of_decide_eq_true rfl) HW4.out (by omega)⟩
            case measure => exact HMS.out _ _ HW4.out
          · have i7 : ¬ (c2 : Int) = 0 := by omega
            have i8 : ((c2 : Int) == 0) = false := by simp; omega
            clear h20
            go_wp2_with (fail)
            refine HN2.out.mono ?_
            rintro e W4 ⟨rfl, hwy, hfr⟩
            have HW4 := Lib.hid (HW3.out.fr HBL.out hwy hfr)
            clear hwy hfr
            go_wp2_with (fail)
            refine (hex4_any r HR6.out HW4.out.2.1 (by have := HK1.out; omega)).mono ?_
            rintro e W5 ⟨u1, rfl, hwy, hfr⟩
            have HW5 := Lib.hid (HW4.out.fr HBL.out hwy hfr)
            clear hwy hfr
            obtain ⟨T1, hT1⟩ : ∃ T : ByteArray, T = ⟨(hexT u1 r).toArray⟩ := ⟨_, rfl⟩
            rw [← hT1]
            have HT1 : Hid (T1.data.toList = hexT u1 r) := by rw [hT1]; exact Lib.hid rfl
            have hz2 : T1.size = 6 := by rw [ba_len, HT1.out]; rfl
            clear hT1
            go_wp2_with (fail)
            go_roundw
            case rel => exact ⟨pos + wd, _, Q ++ hexT u1 r, S ++ T1, rfl, by show _ = _; rw [ba_app, HQ.out, HT1.out]; rfl, HEND.out _ _ _ (HHP.out u1) (by exact of_decide_eq_true rfl) HW5.out (by omega)⟩
            case measure => exact HMS.out _ _ HW5.out
      · have i1 : ((r : Int) == 34) = false := by simp; omega
        have i2 : ((r : Int) == 92) = false := by simp; omega
        have i3 : (r : Int) < 32 := by omega
        have HLOW : Hid (r < 128) := by show _ < _; omega
        clear hfree n1 n2 n3
        obtain ⟨m1, m2, m3, m4, m5, m6, m7, m8, e1, e2, e3, e4, e5, e6, e7, e8, hlk, hbm⟩ := nm_runs W1
        have hlk := hlk r (by omega)
        have HW3 := Lib.hid (HW.out.below hbm)
        clear hbm
        by_cases hn : nameR r = []
        · rw [hn] at hlk
          by_cases hbig : 65536 ≤ r
          · have := HLOW.out
            omega
          · have j1 : decide ((65536 : Int) ≤ (r : Int)) = false := by simp; omega
            have HHP := Lib.hid (HHEX.out (by omega))
            have HR6 : Hid (r < 65536) := by show _ < _; omega
            clear hn hbig hraw
            go_wp2_with (fail)
            refine (hex4_any r HR6.out HW3.out.2.1 (by have := HK1.out; omega)).mono ?_
            rintro e W4 ⟨u1, rfl, hwy, hfr⟩
            have HW4 := Lib.hid (HW3.out.fr HBL.out hwy hfr)
            clear hwy hfr
            obtain ⟨T1, hT1⟩ : ∃ T : ByteArray, T = ⟨(hexT u1 r).toArray⟩ := ⟨_, rfl⟩
            rw [← hT1]
            have HT1 : Hid (T1.data.toList = hexT u1 r) := by rw [hT1]; exact Lib.hid rfl
            have hz1 : T1.size = 6 := by rw [ba_len, HT1.out]; rfl
            clear hT1
            go_wp2_with (fail)
            go_roundw
            case rel => exact ⟨pos + wd, _, Q ++ hexT u1 r, S ++ T1, rfl, by show _ = _; rw [ba_app, HQ.out, HT1.out]; rfl, HEND.out _ _ _ (HHP.out u1) (by exact of_decide_eq_true rfl) HW4.out (by omega)⟩
            case measure => exact HMS.out _ _ HW4.out
        · obtain ⟨y, z, hy, _, hlt, _⟩ := nameR_table r hn
          have HHN := HNAME.out hn
          rw [hy] at hlk HHN
          have HHN := Lib.hid HHN
          obtain ⟨T, hT⟩ : ∃ T : ByteArray, T = ⟨[y].toArray⟩ := ⟨_, rfl⟩
          rw [← hT] at hlk
          have HT : Hid (T.data.toList = [y]) := by rw [hT]; exact Lib.hid rfl
          have hz1 : T.size = 1 := by rw [ba_len, HT.out]; rfl
          have n1 : T.toList = [y] := by rw [ByteArray.toList_eq]; exact HT.out
          have n2 : (T.toList == []) = false := by rw [n1]; rfl
          have n3 : T.toList.isEmpty = false := by rw [n1]; rfl
          have n4 : (!T.toList.isEmpty) = true := by rw [n1]; rfl
          have n5 : (T.toList != []) = true := by rw [n1]; rfl
          have j1 : decide ((65536 : Int) ≤ (r : Int)) = false := by simp; omega
          have HR6 : Hid (r < 65536) := by show _ < _; omega
          have HHP := Lib.hid (HHEX.out (by omega))
          obtain ⟨c2, hc2⟩ : ∃ c, c = nx L k 2 := ⟨_, rfl⟩
          have HN2 := Lib.hid (next_any 2 (by decide) (by decide) HW3.out.2.1 (by have := HK1.out; omega))
          rw [← hc2] at HN2
          clear hc2 hT hn n1 hy hlt hraw
          by_cases h20 : c2 = 0
          · have i7 : (c2 : Int) = 0 := by omega
            have i8 : ((c2 : Int) == 0) = true := by simp; omega
            clear h20
            go_wp2_with (fail)
            refine HN2.out.mono ?_
            rintro e W4 ⟨rfl, hwy, hfr⟩
            have HW4 := Lib.hid (HW3.out.fr HBL.out hwy hfr)
            clear hwy hfr
            go_wp2_with (fail)
            go_roundw
            case rel => exact ⟨pos + wd, _, Q ++ (92 :: [y]), _, rfl, by show _ = _; rw [ba_app, ba_app, HQ.out, HT.out]; rfl, HEND.out _ _ _ HHN.out (by exact of_decide_eq_true rfl) HW4.out (by omega)⟩
            case measure => exact HMS.out _ _ HW4.out
          · have i7 : ¬ (c2 : Int) = 0 := by omega
            have i8 : ((c2 : Int) == 0) = false := by simp; omega
            clear h20
            go_wp2_with (fail)
            refine HN2.out.mono ?_
            rintro e W4 ⟨rfl, hwy, hfr⟩
            have HW4 := Lib.hid (HW3.out.fr HBL.out hwy hfr)
            clear hwy hfr
            go_wp2_with (fail)
            refine (hex4_any r HR6.out HW4.out.2.1 (by have := HK1.out; omega)).mono ?_
            rintro e W5 ⟨u1, rfl, hwy, hfr⟩
            have HW5 := Lib.hid (HW4.out.fr HBL.out hwy hfr)
            clear hwy hfr
            obtain ⟨T1, hT1⟩ : ∃ T : ByteArray, T = ⟨(hexT u1 r).toArray⟩ := ⟨_, rfl⟩
            rw [← hT1]
            have HT1 : Hid (T1.data.toList = hexT u1 r) := by rw [hT1]; exact Lib.hid rfl
            have hz2 : T1.size = 6 := by rw [ba_len, HT1.out]; rfl
            clear hT1
            go_wp2_with (fail)
            go_roundw
            case rel => exact ⟨pos + wd, _, Q ++ hexT u1 r, S ++ T1, rfl, by show _ = _; rw [ba_app, HQ.out, HT1.out]; rfl, HEND.out _ _ _ (HHP.out u1) (by exact of_decide_eq_true rfl) HW5.out (by omega)⟩
            case measure => exact HMS.out _ _ HW5.out
    · have F := HF.out
      have hnx : ∀ ty, (Instr.next (.pointer (some ⟨w.heap.size, 0, none⟩)) true ty).run Tryz.prog wr = _ := fun ty => Lib.run_next_end_at wr w.heap.size s pos ty F.it hp
      have hpe : pos = s.size := by have := F.hp; omega
      have HP : Hid (QuP s L b k0 w (.returned (.string (S ++ ⟨#[34]⟩))) wr) := by
        refine ⟨Q, k, ?_, hpe ▸ F.qs, F.wy, F.fr, hpe ▸ F.hk⟩
        rw [ba_eq (S := S ++ ⟨#[34]⟩) (l := 34 :: Q ++ [34]) (by rw [ba_app, HQ.out])]
      clear F hpe
      go_wp2_with (fail)
      go_ret
      exact HP.out
end Go.Proofs.YtpkkokhoeiimcaaGreatDoor
