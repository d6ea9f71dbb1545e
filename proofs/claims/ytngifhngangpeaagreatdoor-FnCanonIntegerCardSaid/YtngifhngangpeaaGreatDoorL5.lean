/- The text of 1.0. -/
import Derived.Test.YtngifhngangpeaaGreatDoorL4
import Derived.Maps.AppendAt
open Go Go.RowKit
namespace Go.Proofs.YtngifhngangpeaaGreatDoor
open Go.Lib in
theorem dg_10 : ∀ t, t < 16 → dg 1000000000000000 (16 - 1 - t) = if t = 0 then 49 else 48 := by decide
def encU (b : UInt8) : Value := Value.int .u8 (b.toNat : Int)
def Zs (w : World) (blk : Nat) : Prop := ∃ T, w.heap[blk]? = some (.cells (Array.replicate 32 (Value.int .u8 0)) T (0, 0))
def DigAt (w w' : World) (blk : Nat) : Prop := Below blk w w' ∧ w'.cell? ⟨blk, 0, none⟩ = some (Value.int .u8 49) ∧ (∀ t, 1 ≤ t → t < 16 → w'.cell? ⟨blk, t, none⟩ = some (Value.int .u8 48))
open Go.Lib Go.Sort in
theorem base10_10 (w : World) (blk : Nat) (hz : Zs w blk) :
    Calls Tryz.prog 102 #[.slice (some ⟨blk, 0, none⟩) 16 32, .int .u64 1000000000000000] w fun e w' => e = .returned (.tuple #[]) ∧ DigAt w w' blk := by
  have hH : Holds (fun (b : UInt8) => Value.int .u8 (b.toNat : Int)) w blk 0 (Array.replicate 16 (0 : UInt8)) := by
    intro j hj
    have hj' : j < 16 := by simpa using hj
    obtain ⟨T, hz⟩ := hz
    refine ⟨?_, by simp [World.frozen?, hz]⟩
    rw [Nat.zero_add]
    simp only [World.cell?, hz]
    have h1 : (Array.replicate 32 (Value.int .u8 0))[j]? = some (Value.int .u8 0) := by
      rw [Array.getElem?_replicate]; rw [if_pos (by omega)]
    have h2 : (Array.replicate 16 (0 : UInt8))[j]! = 0 := by
      rw [getElem!_pos _ j (by simpa using hj')]; simp
    rw [h2]; exact h1
  refine (Tryz.internal_strconv_formatBase10 blk 0 32 1000000000000000 (Array.replicate 16 (0 : UInt8)) w hH (by simp) (by decide) (by simp)).mono ?_
  rintro e w' ⟨rfl, n, v', dk, rfl, hf⟩
  have hs : dk.size = 16 := by simpa using hf.size
  have hc : ∀ t, t < 16 → ((putRow (fun (b : UInt8) => Value.int .u8 (b.toNat : Int)) w blk 0 dk).drewN n).cell? ⟨blk, t, none⟩ = some (Value.int .u8 ((dg 1000000000000000 (16 - 1 - t)).toNat : Int)) := by
    intro t ht
    have h1 := cell?_putRow (fun (b : UInt8) => Value.int .u8 (b.toNat : Int)) w blk 0 _ dk hH (by simpa using hs) t (by omega)
    have h2 := hf.done t (Nat.zero_le _) (by simpa using ht)
    rw [Nat.zero_add] at h1
    refine Eq.trans h1 ?_
    rw [h2]; simp
  refine ⟨rfl, ⟨rfl, rfl, rfl, ?_, fun k hk => ?_⟩, ?_, ?_⟩
  · simp [putRow, mapBlock, World.drewN]
  · show (putRow _ w blk 0 dk).heap[k]? = _
    simp only [putRow, mapBlock]
    rw [Array.getElem?_modify, if_neg (by omega)]
  · rw [hc 0 (by omega), dg_10 0 (by omega)]; rfl
  · intro t h1 h2
    rw [hc t h2, dg_10 t h2, if_neg (by omega)]; rfl
set_option maxRecDepth 100000 in
set_option maxHeartbeats 2000000 in
theorem setDigits_10 (w : World) (blk : Nat) (hz : Zs w blk) :
    Calls Tryz.prog 213 #[.slice (some ⟨blk, 0, none⟩) 32 32, .int .u64 1000000000000000, .int .i64 (-15), .int .i64 16] w fun e w' => e = .returned (.tuple #[.int .i64 1, .int .i64 1]) ∧ DigAt w w' blk := by
  have HZ := Lib.hid hz
  clear hz
  go_enter Tryz.func213, Tryz.ntmps213
  go_wp2_with (fail)
  refine (base10_10 w blk HZ.out).mono ?_
  rintro e w2 ⟨rfl, hd⟩
  have HD := Lib.hid hd
  have d0 := hd.2.1
  clear hd
  go_wp2_with (fail)
  go_loop [3] (fun v => ∃ m : Nat, 1 ≤ m ∧ m ≤ 16 ∧ v = .int .i64 m) (fun v => (intOf v).toNat)
  case atStart => exact ⟨16, by omega, by omega, rfl⟩
  case round =>
    obtain ⟨m, hm1, hm2, rfl⟩ := hrel
    by_cases h1 : m = 1
    · subst h1
      go_wp2_with (fail)
      go_ret2
      exact ⟨rfl, HD.out⟩
    · obtain ⟨k, rfl⟩ : ∃ k, m = k + 1 := ⟨m - 1, by omega⟩
      have hck : w2.cell? ⟨blk, k, none⟩ = some (Value.int .u8 48) := HD.out.2.2 k (by omega) (by omega)
      have hk0 : (0 : Int) < (k : Int) + 1 := by omega
      go_wp2_with (fail)
      go_round
      case rel => exact ⟨k, by omega, by omega, by go_num⟩
      case measure => simp [intOf]
end Go.Proofs.YtngifhngangpeaaGreatDoor
