/- strconv.Itoa at every int; dsse.ZzSign at every number; spec.PAE, spec.SignatureOf. -/
import Derived.Test.YtngifhngangpeaaGreatDoorS2
import Derived.Deep.RegionWith
open Go Go.RowKit
namespace Go.Proofs.YtngifhngangpeaaGreatDoor
theorem itoaI_at (n : Int) (h0 : -9223372036854775808 ≤ n) (h1 : n ≤ 9223372036854775807) {N : Nat} {w : World} (hN : TL N w) : Calls Tryz.prog 51 #[.int .i64 n] w fun e w' => e = .returned (.string ⟨(Lib.itoa n).toArray⟩) ∧ Below w.heap.size w w' := by
  refine (Tryz.strconv_Itoa n h0 h1 w hN.tab).mono ?_
  rintro e w' ⟨rfl, k, os, rfl⟩
  exact ⟨rfl, Go.Lib.below_grow _ _ (Nat.le_refl _) _ _⟩
theorem itoaI_len (n : Int) (h0 : -9223372036854775808 ≤ n) (h1 : n ≤ 9223372036854775807) : (Lib.itoa n).length ≤ 40 := Nat.le_trans (Lib.itoa_length_le n h0 h1) (by decide)
set_option maxRecDepth 100000 in
set_option maxHeartbeats 4000000 in
theorem zzSignI_any (n : Int) (h0 : -9223372036854775808 ≤ n) (h1 : n ≤ 9223372036854775807) {l : List UInt8} {v : Value} {N : Nat} {w : World} (hv : BSrc w v l) (hl : l.length ≤ 1073741824) (hN : TL N w) :
    Calls Tryz.prog 40 #[.int .i64 n, v] w fun e w' => ∃ u, e = .returned u ∧ BSrc w' u (sigB n l) ∧ Below w.heap.size w w' := by
  have HV := Lib.hid hv
  obtain ⟨s, hs⟩ : ∃ s : ByteArray, s = ⟨(Lib.itoa n).toArray⟩ := ⟨_, rfl⟩
  have hsz : s.size ≤ 40 := by rw [hs]; show (List.toArray _).size ≤ _; rw [List.size_toArray]; exact itoaI_len n h0 h1
  have HI : Hid (Calls Tryz.prog 51 #[.int .i64 n] w fun e w' => e = .returned (.string s) ∧ Below w.heap.size w w') := by rw [hs]; exact itoaI_at n h0 h1 hN
  obtain ⟨S, hS⟩ : ∃ S : ByteArray, S = s ++ ⟨#[58]⟩ := ⟨_, rfl⟩
  have HS : Hid (S.data.toList = Lib.itoa n ++ [58]) := by show _ = _; rw [hS, hs]; simp [ByteArray.data_append]
  have hSz : S.size ≤ 41 := by rw [hS, ByteArray.size_append]; have : (⟨#[58]⟩ : ByteArray).size = 1 := rfl; omega
  have hcat := hS.symm
  have kc := fun (w : World) => Lib.run_convert_string_bytes (P := Tryz.prog) w 9 22 5 S Tryz.underlying9 Tryz.underlying22 Tryz.underlying5
  have hz1 : ¬ 9223372036854775807 < s.size + 1 := by omega
  clear hN hv hs hS h0 h1
  go_enter Tryz.func40, Tryz.ntmps40
  go_wp2_with (fail)
  refine HI.out.mono ?_
  rintro e w1 ⟨rfl, hb⟩
  have HB := Lib.hid hb
  have HV1 := Lib.hid (HV.out.stay hb)
  have hSl : S.size + l.length ≤ 4294967296 := by omega
  clear hb HI HV
  go_wp2_with (at_builtin; refine wpList_append_conv rfl _ _ rfl rfl w1 S HV1.out hSl rfl rfl ?_)
  intro v' w2 hv2 hb2
  rw [HS.out] at hv2
  have HV2 : Hid (BSrc w2 v' (sigB n l)) := hv2
  have HB2 := Lib.hid (below_stp HB.out (Nat.le_refl _) hb2)
  clear hv2 hb2 kc hcat HV1
  go_wp2_with (fail)
  go_ret
  exact ⟨v', rfl, HV2.out, HB2.out⟩
theorem implSigI_any (n : Int) (h0 : -9223372036854775808 ≤ n) (h1 : n ≤ 9223372036854775807) {l : List UInt8} {v : Value} {N : Nat} {w : World} (hv : BSrc w v l) (hl : l.length ≤ 1073741824) (hN : TL N w) :
    Calls Tryz.prog 16 #[.int .i64 n, v] w fun e w' => ∃ u, e = .returned u ∧ BSrc w' u (sigB n l) ∧ Below w.heap.size w w' := by
  have HZ := Lib.hid (zzSignI_any n h0 h1 hv hl hN)
  clear hv hN h0 h1
  go_enter Tryz.func16, Tryz.ntmps16
  go_wp2_with (fail)
  refine HZ.out.mono ?_
  rintro e w2 ⟨u, rfl, hv, hb⟩
  have HV := Lib.hid hv
  have HB := Lib.hid hb
  clear hv hb HZ
  go_wp2_with (fail)
  go_ret
  exact ⟨u, rfl, HV.out, HB.out⟩
end Go.Proofs.YtngifhngangpeaaGreatDoor
