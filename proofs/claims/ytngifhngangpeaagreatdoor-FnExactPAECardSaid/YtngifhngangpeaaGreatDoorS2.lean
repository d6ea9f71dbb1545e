/- impl.SignatureOf, laws.FnSignatureOf. -/
import Derived.Test.YtngifhngangpeaaGreatDoorS1
import Derived.Test.YtngifhngangpeaaGreatDoorA0
open Go Go.RowKit
namespace Go.Proofs.YtngifhngangpeaaGreatDoor
theorem below_stp {n : Nat} {w W W' : World} (h : Below n w W) (hn : n ≤ w.heap.size) (h2 : Below W.heap.size W W') : Below n w W' := h.trans (h2.mono (Nat.le_trans hn h.size))
/-- The signature of a key of a number. -/
def sigB (n : Int) (l : List UInt8) : List UInt8 := Lib.itoa n ++ [58] ++ l
set_option maxRecDepth 100000 in
set_option maxHeartbeats 4000000 in
theorem zzSign_any (n : Nat) (hn : n ≤ 1073741824) {l : List UInt8} {v : Value} {N : Nat} {w : World} (hv : BSrc w v l) (hl : l.length ≤ 1073741824) (hN : TL N w) :
    Calls Tryz.prog 40 #[.int .i64 n, v] w fun e w' => ∃ u, e = .returned u ∧ BSrc w' u (sigB n l) ∧ Below w.heap.size w w' := by
  have HV := Lib.hid hv
  obtain ⟨s, hs⟩ : ∃ s : ByteArray, s = ⟨(Lib.itoa n).toArray⟩ := ⟨_, rfl⟩
  have hsz : s.size ≤ 40 := by rw [hs]; show (List.toArray _).size ≤ _; rw [List.size_toArray]; exact itoa_short n hn
  have HI : Hid (Calls Tryz.prog 51 #[.int .i64 n] w fun e w' => e = .returned (.string s) ∧ Below w.heap.size w w') := by rw [hs]; exact itoa_at n hn w ⟨N, hN⟩
  obtain ⟨S, hS⟩ : ∃ S : ByteArray, S = s ++ ⟨#[58]⟩ := ⟨_, rfl⟩
  have HS : Hid (S.data.toList = Lib.itoa n ++ [58]) := by show _ = _; rw [hS, hs]; simp [ByteArray.data_append]
  have hSz : S.size ≤ 41 := by rw [hS, ByteArray.size_append]; have : (⟨#[58]⟩ : ByteArray).size = 1 := rfl; omega
  have hcat := hS.symm
  have kc := fun (w : World) => Lib.run_convert_string_bytes (P := Tryz.prog) w 9 22 5 S Tryz.underlying9 Tryz.underlying22 Tryz.underlying5
  have hz1 : ¬ 9223372036854775807 < s.size + 1 := by omega
  clear hN hv hs hS
  go_enter Tryz.func40, Tryz.ntmps40
  go_wp2_with (fail)
  refine HI.out.mono ?_
  rintro e w1 ⟨rfl, hb⟩
  have HB := Lib.hid hb
  have HV1 := Lib.hid (HV.out.stay hb)
  have hSl : S.size + l.length ≤ 4294967296 := by omega
  clear hb HI HV
  go_wp2_with (at_builtin; refine wpList_append_conv rfl _ _ rfl rfl w1 S HV1.out hSl rfl rfl ?_)
  intro v' w2 hv2 hb2
  rw [HS.out] at hv2
  have HV2 : Hid (BSrc w2 v' (sigB n l)) := hv2
  have HB2 := Lib.hid (below_stp HB.out (Nat.le_refl _) hb2)
  clear hv2 hb2 kc hcat HV1
  go_wp2_with (fail)
  go_ret
  exact ⟨v', rfl, HV2.out, HB2.out⟩
theorem implSig_any (n : Nat) (hn : n ≤ 1073741824) {l : List UInt8} {v : Value} {N : Nat} {w : World} (hv : BSrc w v l) (hl : l.length ≤ 1073741824) (hN : TL N w) :
    Calls Tryz.prog 16 #[.int .i64 n, v] w fun e w' => ∃ u, e = .returned u ∧ BSrc w' u (sigB n l) ∧ Below w.heap.size w w' := by
  have HZ := Lib.hid (zzSign_any n hn hv hl hN)
  clear hv hN
  go_enter Tryz.func16, Tryz.ntmps16
  go_wp2_with (fail)
  refine HZ.out.mono ?_
  rintro e w2 ⟨u, rfl, hv, hb⟩
  have HV := Lib.hid hv
  have HB := Lib.hid hb
  clear hv hb HZ
  go_wp2_with (fail)
  go_ret
  exact ⟨u, rfl, HV.out, HB.out⟩
end Go.Proofs.YtngifhngangpeaaGreatDoor
