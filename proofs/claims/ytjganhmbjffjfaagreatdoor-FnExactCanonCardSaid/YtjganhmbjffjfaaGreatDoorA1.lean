/- The literals of the closed call: true, 1.0; its answer, plain. laws.awake: the three closed calls. -/
import Derived.Test.YtjganhmbjffjfaaGreatDoorL7
import Derived.Test.YtjganhmbjffjfaaGreatDoorN8
import Derived.Test.YtjganhmbjffjfaaGreatDoorV0
import Derived.Test.YtjganhmbjffjfaaGreatDoorW4
open Go Go.RowKit
namespace Go.Proofs.YtjganhmbjffjfaaGreatDoor
def lit10 : Lit := fun t => if t = [116, 114, 117, 101] then some (some ⟨#[116, 114, 117, 101]⟩) else if t = [49, 46, 48] then some (some ⟨#[49]⟩) else none
theorem lit10_ok : LitOK lit10 := by
  intro t q h
  unfold lit10 at h
  split at h
  · rename_i e
    subst e
    cases h
    intro N w hN
    refine (pLit_true w).mono ?_
    rintro e w' ⟨rfl, hb⟩
    exact ⟨hb, rfl⟩
  · split at h
    · rename_i e
      subst e
      cases h
      intro N w hN
      refine (pLit_10 _ (Lib.hid rfl) w N hN).mono ?_
      rintro e w' ⟨rfl, hb⟩
      exact ⟨hb, rfl⟩
    · cases h
/-- The closed call's text. -/
def awD : List UInt8 := [123, 34, 98, 34, 58, 91, 49, 46, 48, 44, 116, 114, 117, 101, 93, 44, 34, 97, 34, 58, 34, 92, 117, 48, 48, 52, 49, 34, 125]
def awT : List UInt8 := [123, 34, 97, 34, 58, 34, 65, 34, 44, 34, 98, 34, 58, 91, 49, 44, 116, 114, 117, 101, 93, 125]
theorem awElem : pElem lit10 40 0 awD = .ok awT [] := by kernel_rfl
theorem awAll : pAll lit10 40 awD = .ok awT [] := by kernel_rfl
theorem cell_bytes {w : World} {a : Nat} {T : TypeId} {fr : Nat × Nat} {D : List UInt8} {C : Array Value} (hC : C = (Lib.byteCells D).toArray) (h : w.heap[a]? = some (.cells C T fr)) (i : Nat) (x : UInt8) (hx : D[i]? = some x) : w.cell? ⟨a, i, none⟩ = some (.int .u8 x.toNat) := by
  subst hC
  simp only [World.cell?, h]
  simp [Lib.byteCells, hx]
theorem transform_aw (a N : Nat) (fr : Nat × Nat) (w : World) (h : w.heap[a]? = some (.cells #[.int .u8 123, .int .u8 34, .int .u8 98, .int .u8 34, .int .u8 58, .int .u8 91, .int .u8 49, .int .u8 46, .int .u8 48, .int .u8 44, .int .u8 116, .int .u8 114, .int .u8 117, .int .u8 101, .int .u8 93, .int .u8 44, .int .u8 34, .int .u8 97, .int .u8 34, .int .u8 58, .int .u8 34, .int .u8 92, .int .u8 117, .int .u8 48, .int .u8 48, .int .u8 52, .int .u8 49, .int .u8 34, .int .u8 125] 5 fr)) (hN : TL N w) :
    Calls Tryz.prog 32 #[.slice (some ⟨a, 0, none⟩) 29 29] w fun e w' => ∃ v, e = .returned (.tuple #[v, .bool true]) ∧ BSrc w' v awT ∧ Below w.heap.size w w' := by
  have hal : a < w.heap.size := by
    rcases Nat.lt_or_ge a w.heap.size with h' | h'
    · exact h'
    · rw [Array.getElem?_eq_none h'] at h; cases h
  have hns : pAll lit10 40 awD ≠ .stuck := by rw [awAll]; intro e; cases e
  have hT : ∀ t r, pElem lit10 40 0 awD = .ok t r → t.length ≤ 549755813888 := by
    intro t r e
    rw [awElem] at e
    cases e
    decide
  have := implTransform_any lit10 lit10_ok 40 (w := w) (a := a) (cp := 29) (N := N) (D := awD) (cell_bytes (by kernel_rfl) h) hal (by decide) hN hns hT
  rw [awAll] at this
  refine Calls.mono this ?_
  rintro e w' ⟨v, B, rfl, hB, ho, hb⟩
  exact ⟨v, rfl, .of_row ho, hb⟩
theorem pae_aw (a N : Nat) (fr : Nat × Nat) (w : World) (h : w.heap[a]? = some (.cells #[.int .u8 97, .int .u8 98] 5 fr)) (hN : TL N w) :
    Calls Tryz.prog 33 #[.string ⟨#[107]⟩, .slice (some ⟨a, 0, none⟩) 2 2] w fun e w' => ∃ v, e = .returned v ∧ BSrc w' v [68, 83, 83, 69, 118, 49, 32, 49, 32, 107, 32, 50, 32, 97, 98] ∧ Below w.heap.size w w' := by
  have := implPAE_any ⟨#[107]⟩ (body := [97, 98]) (v := .slice (some ⟨a, 0, none⟩) 2 2) (N := N) (w := w) (.inr ⟨⟨a, 0, none⟩, 2, rfl, by decide, fun j x hj => by rw [addrAdd, Nat.zero_add]; exact cell_bytes (by kernel_rfl) h j x hj⟩) (by decide) (by decide) hN
  have e1 : paeB (⟨#[107]⟩ : ByteArray).data.toList [97, 98] = [68, 83, 83, 69, 118, 49, 32, 49, 32, 107, 32, 50, 32, 97, 98] := by kernel_rfl
  rw [e1] at this
  refine Calls.mono this ?_
  rintro e w' hp
  exact hp.src
theorem can_aw : canT ⟨#[97, 34, 98]⟩ = [91, 110, 117, 108, 108, 44, 34, 97, 92, 34, 98, 34, 93] := by kernel_rfl
set_option maxRecDepth 100000 in
set_option maxHeartbeats 8000000 in
theorem awake_true (N : Nat) (w : World) (hN : TL N w) : Calls Tryz.prog 12 #[] w fun e w' => e = .returned (.bool true) ∧ Below w.heap.size w w' := by
  have kc := fun (w : World) (C : Array Value) (n c : Nat) => Lib.run_convert_bytes_const (P := Tryz.prog) w 31 5 C n c Tryz.underlying31 Tryz.underlying5
  have HN := Lib.hid hN
  clear hN
  go_enter Tryz.func12, Tryz.ntmps12
  go_wp2_with (fail)
  refine (transform_aw w.heap.size N (29, 30) (w.alloc (.cells #[.int .u8 123, .int .u8 34, .int .u8 98, .int .u8 34, .int .u8 58, .int .u8 91, .int .u8 49, .int .u8 46, .int .u8 48, .int .u8 44, .int .u8 116, .int .u8 114, .int .u8 117, .int .u8 101, .int .u8 93, .int .u8 44, .int .u8 34, .int .u8 97, .int .u8 34, .int .u8 58, .int .u8 34, .int .u8 92, .int .u8 117, .int .u8 48, .int .u8 48, .int .u8 52, .int .u8 49, .int .u8 34, .int .u8 125] 5 (29, 30))) (alloc_at _ _) (HN.out.mono HN.out.le ((Below.refl _ _).alloc (Nat.le_refl _) _))).mono ?_
  rintro e w1 ⟨v1, rfl, hv, hb⟩
  have HB1 : Hid (Below w.heap.size w w1) := ((Below.refl _ _).alloc (Nat.le_refl _) _).trans (hb.mono (by rw [World.size_alloc]; omega))
  have HV1 := Lib.hid hv
  clear hv hb
  go_wp2_with (fail)
  have HBA1 : Hid (Below w1.heap.size w1 (w1.alloc (.cells #[.string ⟨#[110, 117, 108, 108]⟩, .string ⟨#[]⟩, .slice none 0 0, .slice none 0 0, .string ⟨#[115, 116, 114, 105, 110, 103]⟩, .string ⟨#[97, 34, 98]⟩, .slice none 0 0, .slice none 0 0] 25))) := (Below.refl _ _).alloc (Nat.le_refl _) _
  refine (canon_list2 ⟨#[97, 34, 98]⟩ w1.heap.size (w1.alloc (.cells #[.string ⟨#[110, 117, 108, 108]⟩, .string ⟨#[]⟩, .slice none 0 0, .slice none 0 0, .string ⟨#[115, 116, 114, 105, 110, 103]⟩, .string ⟨#[97, 34, 98]⟩, .slice none 0 0, .slice none 0 0] 25)) (by decide) (alloc_at _ _)).mono ?_
  rintro e w2 ⟨v2, rfl, hv, hb⟩
  rw [can_aw] at hv
  have hb12 : Below w1.heap.size w1 w2 := HBA1.out.trans (hb.mono HBA1.out.size)
  have HB2 : Hid (Below w.heap.size w w2) := HB1.out.trans (hb12.mono HB1.out.size)
  have HV1b : Hid (BSrc w2 v1 awT) := HV1.out.stay hb12
  have HV2 := Lib.hid hv
  have cv1 := HV1b.out.conv
  have cv2 := HV2.out.conv
  obtain ⟨s1, hs1⟩ : ∃ s1 : ByteArray, s1 = ⟨awT.toArray⟩ := ⟨_, rfl⟩
  obtain ⟨s2, hs2⟩ : ∃ s2 : ByteArray, s2 = ⟨([91, 110, 117, 108, 108, 44, 34, 97, 92, 34, 98, 34, 93] : List UInt8).toArray⟩ := ⟨_, rfl⟩
  have q1 : (s1.toList == [123, 34, 97, 34, 58, 34, 65, 34, 44, 34, 98, 34, 58, 91, 49, 44, 116, 114, 117, 101, 93, 125]) = true := by rw [hs1]; kernel_rfl
  have q2 : (s2.toList == [91, 110, 117, 108, 108, 44, 34, 97, 92, 34, 98, 34, 93]) = true := by rw [hs2]; kernel_rfl
  rw [← hs1] at cv1
  rw [← hs2] at cv2
  clear hv hb hb12 HBA1 hs1 hs2
  go_wp2_with (fail)
  refine (pae_aw w2.heap.size N (2, 3) (w2.alloc (.cells #[.int .u8 97, .int .u8 98] 5 (2, 3))) (alloc_at _ _) (HN.out.mono HN.out.le (HB2.out.alloc HB2.out.size _))).mono ?_
  rintro e w3 ⟨v3, rfl, hv, hb⟩
  have HB3 : Hid (Below w.heap.size w w3) := (HB2.out.alloc HB2.out.size _).trans (hb.mono (by rw [World.size_alloc]; have := HB2.out.size; omega))
  have cv3 := hv.conv
  obtain ⟨s3, hs3⟩ : ∃ s3 : ByteArray, s3 = ⟨([68, 83, 83, 69, 118, 49, 32, 49, 32, 107, 32, 50, 32, 97, 98] : List UInt8).toArray⟩ := ⟨_, rfl⟩
  have q3 : (s3.toList == [68, 83, 83, 69, 118, 49, 32, 49, 32, 107, 32, 50, 32, 97, 98]) = true := by rw [hs3]; kernel_rfl
  rw [← hs3] at cv3
  clear hv hb hs3
  go_wp2_with (fail)
  go_ret
  exact ⟨rfl, HB3.out⟩
end Go.Proofs.YtjganhmbjffjfaaGreatDoor
