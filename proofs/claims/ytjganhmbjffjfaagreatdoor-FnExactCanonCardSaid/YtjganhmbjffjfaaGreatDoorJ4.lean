/- internal/strconv.ParseUint at base 16, 64 bits, at most eight signs. -/
import Derived.Test.YtjganhmbjffjfaaGreatDoorJ3
import Derived.Lib.ConvBytes
import Derived.Lib.AtoiErrMem
import Derived.Lib.Strings
open Go Go.RowKit
namespace Go.Proofs.YtjganhmbjffjfaaGreatDoor

def lowI (x : UInt8) : Int := bits .or .u8 x.toNat 32

/-- The digit of a sign. -/
def hexD (x : UInt8) : Option Nat :=
  if 48 ≤ x.toNat ∧ x.toNat ≤ 57 then some (x.toNat - 48)
  else if 97 ≤ lowI x ∧ lowI x ≤ 102 then some ((lowI x).toNat - 87) else none
def hexN : Nat → List UInt8 → Option Nat
  | acc, [] => some acc
  | acc, x :: r => match hexD x with
    | some v => hexN (acc * 16 + v) r
    | none => none
theorem hexN_cons_some {acc v : Nat} {x : UInt8} {r : List UInt8} (h : hexD x = some v) : hexN acc (x :: r) = hexN (acc * 16 + v) r := by simp [hexN, h]
theorem hexN_cons_none {acc : Nat} {x : UInt8} {r : List UInt8} (h : hexD x = none) : hexN acc (x :: r) = none := by simp [hexN, h]

theorem lowI_lo (x : UInt8) : 0 ≤ lowI x ∧ lowI x ≤ 255 := by
  have h : ∀ n : Fin 256, 0 ≤ bits .or .u8 ((n.val : Nat) : Int) 32 ∧ bits .or .u8 ((n.val : Nat) : Int) 32 ≤ 255 := by decide +kernel
  exact h ⟨x.toNat, x.toNat_lt⟩

set_option maxHeartbeats 400000 in
theorem lower_any (x : UInt8) (w : World) :
    Calls Tryz.prog 182 #[.int .u8 x.toNat] w fun e w' => e = .returned (.int .u8 (lowI x)) ∧ w = w' := by
  go_enter Tryz.func182, Tryz.ntmps182
  go_wp2
  go_ret
  exact ⟨rfl, rfl⟩

set_option maxHeartbeats 400000 in
theorem lower_95 (w : World) :
    Calls Tryz.prog 182 #[.int .u8 95] w fun e w' => e = .returned (.int .u8 127) ∧ w = w' := by
  have h : bits .or .u8 95 32 = 127 := by decide +kernel
  go_enter Tryz.func182, Tryz.ntmps182
  go_wp2
  go_ret
  exact ⟨rfl, rfl⟩

def PuPost (bs : List UInt8) (w : World) (e : Ending) (w' : World) : Prop :=
  Below w.heap.size w w' ∧ match hexN 0 bs with
  | some n => e = .returned (.tuple #[.int .u64 n, .nilIface])
  | none => e = .returned (.tuple #[.int .u64 0, .iface 284 (.int .i64 2)])
theorem PuPost.ok {bs : List UInt8} {w w' : World} {n : Nat} (h : hexN 0 bs = some n) (hb : Below w.heap.size w w') : PuPost bs w (.returned (.tuple #[.int .u64 n, .nilIface])) w' := ⟨hb, by rw [h]⟩
theorem PuPost.no {bs : List UInt8} {w w' : World} (h : hexN 0 bs = none) (hb : Below w.heap.size w w') : PuPost bs w (.returned (.tuple #[.int .u64 0, .iface 284 (.int .i64 2)])) w' := ⟨hb, by rw [h]⟩

set_option maxRecDepth 100000 in
set_option maxHeartbeats 2000000 in
theorem iParseUint_hex (t : ByteArray) (w : World) (hne : t.size ≠ 0) (h8 : t.size ≤ 8) :
    Calls Tryz.prog 141 #[.string t, .int .i64 16, .int .i64 64] w (PuPost t.data.toList w) := by
  have hemp : t.toList.isEmpty = false := by
    rw [← decide_eq_emptyBytes]
    exact decide_eq_false (fun h => hne (by rw [h]; rfl))
  have hcv := Lib.run_convert_string_bytes (P := Tryz.prog) w 9 31 5 t (u := .string) Tryz.underlying9 Tryz.underlying31 Tryz.underlying5
  have hB : ∀ j, j < t.size → (Lib.bytesWorld w 5 t).cell? ⟨w.heap.size, j, none⟩ = some (.int .u8 (t.data.toList.getD j 0).toNat) := fun j hj => Lib.bytesWorld_cell w 5 t j hj
  have hbel := Lib.bytesWorld_below w 5 t
  obtain ⟨W1, hW1⟩ : ∃ W1, W1 = Lib.bytesWorld w 5 t := ⟨_, rfl⟩
  rw [← hW1] at hcv hB hbel
  clear hW1
  obtain ⟨bs, hL⟩ : ∃ bs, bs = t.data.toList := ⟨_, rfl⟩
  have hLn : bs.length = t.size := by rw [hL, Lib.size_eq]
  rw [← hL] at hB ⊢
  clear hL
  have HLn := Lib.hid hLn
  clear hLn
  have hmv : IntKind.u64.wrap (IntKind.u64.wrap 18446744073709551616 - 1) = 18446744073709551615 := by
    rw [IntKind.wrap_u64, IntKind.wrap_u64]
    decide
  go_enter Tryz.func141, Tryz.ntmps141
  go_wp2
  go_loop [12, 13, 101] (fun vu vn vi => ∃ (k acc : Nat) (a : Int), vu = .bool false ∧ vn = .int .u64 a ∧ vi = .int .i64 k ∧ k ≤ t.size ∧ Hid (a = (acc : Int) ∧ acc < 16 ^ k ∧ hexN 0 bs = hexN acc (bs.drop k)))
    (fun _ _ vi => t.size - (intOf vi).toNat)
  case atStart => exact ⟨0, 0, 0, rfl, rfl, rfl, by omega, rfl, by omega, rfl⟩
  case round =>
    obtain ⟨k, acc, a, rfl, rfl, rfl, hk, hh⟩ := hrel
    obtain ⟨ha, hacc, hdec⟩ := hh.out
    clear hh
    by_cases hkn : k < t.size
    · have hk8 : 16 ^ k ≤ 16 ^ 7 := Nat.pow_le_pow_right (by omega) (by omega)
      have a0 : 0 ≤ a := by omega
      have a1 : a < 268435456 := by omega
      have hc := hB k hkn
      have hlen := HLn.out
      have hdrop : bs.drop k = bs[k]'(by omega) :: bs.drop (k + 1) := List.drop_eq_getElem_cons (by omega)
      have hget : bs.getD k 0 = bs[k]'(by omega) := by simp [List.getD, List.getElem?_eq_getElem (show k < bs.length by omega)]
      rw [hdrop] at hdec
      rw [hget] at hc
      generalize bs[k]'(by omega) = c at hc hdec
      have hc256 : c.toNat < 256 := c.toNat_lt
      have hlow := lowI_lo c
      clear hB hdrop hget hlen hk8
      have HD : Hid (a = (acc : Int) ∧ acc < 16 ^ k ∧ hexN 0 bs = hexN acc (c :: bs.drop (k + 1))) := ⟨ha, hacc, hdec⟩
      clear ha hacc hdec
      by_cases hd : 48 ≤ c.toNat ∧ c.toNat ≤ 57
      · obtain ⟨hd1, hd2⟩ := hd
        have hv : hexD c = some (c.toNat - 48) := by simp [hexD, hd1, hd2]
        have HV := Lib.hid hv
        clear hv
        have e95 : ((c.toNat : Int) == 95) = false := by rw [beq_eq_false_iff_ne]; omega
        go_wp2_with (go_at_call 182; refine (lower_any _ _).mono ?_; rintro e w' ⟨rfl, rfl⟩)
        go_round
        case rel =>
          obtain ⟨h1, h2, h3⟩ := HD.out
          refine ⟨k + 1, acc * 16 + (c.toNat - 48), _, rfl, rfl, by go_num, by omega, ?_, ?_, ?_⟩
          · rw [h1]; omega
          · rw [Nat.pow_succ]; omega
          · rw [h3, hexN_cons_some HV.out]
        case measure => simp [intOf]; omega
      · have hlow2 : ¬ (97 ≤ lowI c ∧ lowI c ≤ 122) → hexD c = none := fun hn => by
          rw [hexD, if_neg hd, if_neg (fun h => hn ⟨h.1, by omega⟩)]
        have hlow3 : 97 ≤ lowI c → lowI c ≤ 102 → hexD c = some ((lowI c).toNat - 87) := fun h1 h2 => by
          rw [hexD, if_neg hd, if_pos ⟨h1, h2⟩]
        have hlow4 : 103 ≤ lowI c → hexD c = none := fun h1 => by
          rw [hexD, if_neg hd, if_neg (fun h => by omega)]
        have hsides : c.toNat < 48 ∨ 57 < c.toNat := by omega
        by_cases hl : 97 ≤ lowI c ∧ lowI c ≤ 122
        · obtain ⟨hl1, hl2⟩ := hl
          have e95 : ((c.toNat : Int) == 95) = false := by
            rw [beq_eq_false_iff_ne]
            intro e
            have : c = 95 := UInt8.toNat_inj.1 (by simpa using Int.ofNat.inj e)
            subst this
            revert hl2; decide +kernel
          by_cases h102 : lowI c ≤ 102
          · have HV := Lib.hid (hlow3 hl1 h102)
            clear hlow2 hlow3 hlow4 hd
            rcases hsides with hs | hs
            all_goals
              go_wp2_with (go_at_call 182; refine (lower_any _ _).mono ?_; rintro e w' ⟨rfl, rfl⟩)
              go_round
              case rel =>
                obtain ⟨h1, h2, h3⟩ := HD.out
                refine ⟨k + 1, acc * 16 + ((lowI c).toNat - 87), _, rfl, rfl, by go_num, by omega, ?_, ?_, ?_⟩
                · rw [h1]; omega
                · rw [Nat.pow_succ]; omega
                · rw [h3, hexN_cons_some HV.out]
              case measure => simp [intOf]; omega
          · have HV := Lib.hid (hlow4 (by omega))
            have h103 : 103 ≤ lowI c := by omega
            clear hlow2 hlow3 hlow4 hd h102
            rcases hsides with hs | hs
            all_goals
              go_wp2_with (go_at_call 182; refine (lower_any _ _).mono ?_; rintro e w' ⟨rfl, rfl⟩)
              go_ret2
              exact PuPost.no (HD.out.2.2.trans (hexN_cons_none HV.out)) hbel
        · have HV := Lib.hid (hlow2 hl)
          clear hlow2 hlow3 hlow4 hd
          by_cases h95 : c = 95
          · subst h95
            replace hc : W1.cell? ⟨w.heap.size, k, none⟩ = some (.int .u8 95) := hc
            clear hlow hl hsides
            go_wp2_with (go_at_call 182; refine (lower_95 _).mono ?_; rintro e w' ⟨rfl, rfl⟩)
            go_ret2
            exact PuPost.no (HD.out.2.2.trans (hexN_cons_none HV.out)) hbel
          · have e95 : ((c.toNat : Int) == 95) = false := u8_ne (n := 95) (by omega) h95
            have hl' : lowI c < 97 ∨ 122 < lowI c := by omega
            clear hl h95
            rcases hsides with hs | hs
            all_goals
              rcases hl' with hl' | hl'
              all_goals
                go_wp2_with (go_at_call 182; refine (lower_any _ _).mono ?_; rintro e w' ⟨rfl, rfl⟩)
                go_ret2
                exact PuPost.no (HD.out.2.2.trans (hexN_cons_none HV.out)) hbel
    · have hfin : hexN 0 bs = some acc := by
        rw [hdec, List.drop_eq_nil_of_le (by have := HLn.out; omega)]; rfl
      have HF := Lib.hid hfin
      have HA := Lib.hid ha
      clear hdec hfin hacc ha hB
      go_wp2
      go_ret2
      rw [HA.out]
      exact PuPost.ok HF.out hbel
end Go.Proofs.YtjganhmbjffjfaaGreatDoor
