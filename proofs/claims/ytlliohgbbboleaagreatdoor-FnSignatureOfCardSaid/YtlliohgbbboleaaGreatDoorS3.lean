/- laws.FnSignatureOf. -/
import Derived.Test.YtlliohgbbboleaaGreatDoorS2
import Derived.Test.YtlliohgbbboleaaGreatDoorA4
import Derived.Deep.RegionWith
open Go Go.RowKit
namespace Go.Proofs.YtlliohgbbboleaaGreatDoor
theorem BSrc.shape' {w : World} {v : Value} {l : List UInt8} (h : BSrc w v l) : ∃ ao cp, v = .slice ao l.length cp := by
  rcases h with ⟨rfl, rfl⟩ | ⟨ad, cp, rfl, _⟩
  · exact ⟨none, 0, rfl⟩
  · exact ⟨some ad, cp, rfl⟩
set_option maxRecDepth 100000 in
set_option maxHeartbeats 8000000 in
theorem fnSignatureOf_sl (k : Nat) (hk : k < 65536) {l : List UInt8} {ao : Option Addr} {cp N : Nat} {w : World} (hv : BSrc w (.slice ao l.length cp) l) (hN : TL N w) :
    Calls Tryz.prog 5 #[.int .u16 k, .slice ao l.length cp] w fun e w' => e = .returned (.bool true) ∧ Below w.heap.size w w' := by
  have HN := Lib.hid hN
  have HV := Lib.hid hv
  have hll := hv.len
  unfold maxLen at hll
  clear hN hv
  by_cases h1 : 2147483647 < l.length
  · have i1 : (2147483647 : Int) < (l.length : Int) := by omega
    go_enter Tryz.func5, Tryz.ntmps5
    go_wp2_with (fail)
    go_ret
    exact ⟨rfl, Below.refl _ _⟩
  by_cases h2 : 4000 < l.length
  · have i1 : ¬ (2147483647 : Int) < (l.length : Int) := by omega
    have i2 : (4000 : Int) < (l.length : Int) := by omega
    go_enter Tryz.func5, Tryz.ntmps5
    go_wp2_with (fail)
    refine (awake_true N w HN.out).mono ?_
    rintro e w6 ⟨rfl, hb6⟩
    have HB6 := Lib.hid hb6
    clear hb6
    go_wp2_with (fail)
    go_ret
    exact ⟨rfl, HB6.out⟩
  have i1 : ¬ (2147483647 : Int) < (l.length : Int) := by omega
  have i2 : ¬ (4000 : Int) < (l.length : Int) := by omega
  obtain ⟨d, hd⟩ : ∃ d : ByteArray, d = ⟨(Lib.decDigits k).toArray⟩ := ⟨_, rfl⟩
  obtain ⟨sb, hsb⟩ : ∃ sb : ByteArray, sb = ⟨l.toArray⟩ := ⟨_, rfl⟩
  have hdl : d.size ≤ 40 := by rw [hd, ← Lib.itoa_nonneg]; show (List.toArray _).size ≤ _; rw [List.size_toArray]; exact itoa_short k (by omega)
  have hsl : sb.size ≤ 4000 := by rw [hsb]; show l.toArray.size ≤ _; rw [List.size_toArray]; omega
  obtain ⟨sg, hsg⟩ : ∃ sg : ByteArray, sg = d ++ ⟨#[58]⟩ ++ sb := ⟨_, rfl⟩
  have hgl : (⟨(sigB k l).toArray⟩ : ByteArray) = sg := by
    rw [hsg, hd, hsb]
    apply ByteArray.ext
    simp only [ByteArray.data_append, sigB, Lib.itoa_nonneg]
    simp
  have HD := Lib.hid hd
  have HSG : Hid (∀ (w : World) (v : Value), BSrc w v (sigB k l) → (convert 22 9 v).run Tryz.prog w = .ok (.string sg) w) := fun w v h => by rw [← hgl]; exact h.conv
  have HC : Hid (∀ W, Below w.heap.size w W → (convert 22 9 (.slice ao l.length cp)).run Tryz.prog W = .ok (.string sb) W) := fun W hW => by rw [hsb]; exact (HV.out.stay hW).conv
  have HK : Hid (∀ W, Calls Tryz.prog 10 #[.int .u64 (k : Int)] W fun e w' => e = .returned (.string d) ∧ Below W.heap.size W w') := fun W => by rw [hd]; exact digits_any k (by omega) W
  have HZ : Hid (∀ W, Below w.heap.size w W → Calls Tryz.prog 13 #[.int .i64 (k : Int), .slice ao l.length cp] W fun e w' => ∃ u, e = .returned u ∧ BSrc w' u (sigB k l) ∧ Below W.heap.size W w') := fun W hW => implSig_any k (by omega) (HV.out.stay hW) (by omega) (HN.out.mono HN.out.le hW)
  have hB0 : Below w.heap.size w w.drew := (Below.refl _ _).drew
  have c0 := HC.out _ hB0
  have hw1 : IntKind.u64.wrap (k : Int) = k := by rw [IntKind.wrap_u64]; omega
  have hw2 : IntKind.i64.wrap (k : Int) = k := by rw [IntKind.wrap_i64]; omega
  have hz0 : ¬ 9223372036854775807 < d.size + 1 := by omega
  have hz1 : ¬ 9223372036854775807 < d.size + 1 + sb.size := by omega
  have hcat := hsg.symm
  clear hd hsb hsg hgl h1 h2
  go_enter Tryz.func5, Tryz.ntmps5
  go_wp2_with (fail)
  go_region_with (first | (go_at_call 13; go_must (go_fit (HZ.out _ (by assumption))); rintro e w2 ⟨u, rfl, hu, hb2⟩; have hbb := below_step (by assumption) (Nat.le_refl _) hb2; have g0 := HC.out _ hbb; have gu := HSG.out _ _ hu) | (go_at_call 10; go_must (go_fit (HK.out _)); rintro e w3 ⟨rfl, hb3⟩; have hbb := below_step (by assumption) (Nat.le_refl _) hb3; have g0 := HC.out _ hbb; have hu2 := BSrc.stay (by assumption) hb3; have gu := HSG.out _ _ hu2) | (go_at_call 9; go_must (go_fit (awake_true N _ (HN.out.mono HN.out.le (by assumption)))); rintro e w4 ⟨rfl, hb4⟩; have hbc := below_step (by assumption) (Nat.le_refl _) hb4; have g0 := HC.out _ hbc))
  all_goals
    have HBC := Lib.hid hbc
    clear hbc c0 g0
    go_wp2_with (fail)
    go_ret
    exact ⟨rfl, HBC.out⟩
theorem fnSignatureOf_any (x : Int) (hx : (Lit.int .u16 x).wf = true) {l : List UInt8} {v : Value} {N : Nat} {w : World} (hv : BSrc w v l) (hN : TL N w) :
    Calls Tryz.prog 5 #[.int .u16 x, v] w fun e w' => e = .returned (.bool true) ∧ Below w.heap.size w w' := by
  have hw : 0 ≤ x ∧ x ≤ 65535 := by simpa [Lit.wf, IntKind.min, IntKind.max, IntKind.signed, IntKind.bits] using hx
  obtain ⟨k, rfl⟩ := Int.eq_ofNat_of_zero_le hw.1
  obtain ⟨ao, cp, rfl⟩ := hv.shape'
  exact fnSignatureOf_sl k (by omega) hv hN
end Go.Proofs.YtlliohgbbboleaaGreatDoor
