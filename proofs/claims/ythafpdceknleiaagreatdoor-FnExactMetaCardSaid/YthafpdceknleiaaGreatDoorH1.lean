/- slices.Clone at bytes, bytes.Equal. -/
import Derived.Test.YthafpdceknleiaaGreatDoorU5
import Derived.Test.YthafpdceknleiaaGreatDoorH0
import Derived.Maps.RangeWalk
import Derived.Sort.KeysCollected
open Go Go.RowKit Go.Maps
namespace Go.Proofs.YthafpdceknleiaaGreatDoor
theorem BSrc.slc {w : World} {l : List UInt8} {v : Value} (h : BSrc w v l) : ∃ a n c, v = Value.slice a n c := by
  rcases h with ⟨rfl, _⟩ | ⟨ad, cp, rfl, _⟩
  · exact ⟨_, _, _, rfl⟩
  · exact ⟨_, _, _, rfl⟩
theorem byteCells_get {l : List UInt8} {j : Nat} {u : Value} (h : (Lib.byteCells l)[j]? = some u) : ∃ x : UInt8, l[j]? = some x ∧ u = .int .u8 x.toNat := by
  unfold Lib.byteCells at h
  rw [List.getElem?_map] at h
  cases e : l[j]? with
  | none => rw [e] at h; cases h
  | some x => rw [e] at h; cases h; exact ⟨x, rfl, rfl⟩
theorem byteCells_one (l : List UInt8) : ∀ q ∈ Lib.byteCells l, q.oneCell' = true := by
  intro q hq
  obtain ⟨j, hj⟩ := List.mem_iff_getElem?.1 hq
  obtain ⟨x, _, rfl⟩ := byteCells_get hj
  rfl
set_option maxRecDepth 100000 in
set_option maxHeartbeats 2000000 in
theorem clone_any {l : List UInt8} {v : Value} {w : World} (hv : BSrc w v l) (hl : l.length ≤ 1073741824) :
    Calls Tryz.prog 70 #[v] w fun e w' => ∃ u, e = .returned u ∧ BSrc w' u l ∧ Below w.heap.size w w' := by
  obtain ⟨i0, hi, hz0, hz1, hz2⟩ := info_parts info_u8
  have q : ∀ (w : World) (a : Option Addr) (n c n' c' : Nat), (binOp .eql 32 (.slice a n c) (.slice none n' c')).run Tryz.prog w = .ok (.bool a.isNone) w := fun w a n c n' c' => Lib.run_eql_slice_nil w _ _ a n c n' c' Tryz.underlying32
  rcases hv with ⟨rfl, rfl⟩ | ⟨ad, cp, rfl, hm, hc⟩
  · go_enter Tryz.func70, Tryz.ntmps70
    go_wp2_with (fail)
    go_ret
    exact ⟨_, rfl, .inl ⟨rfl, rfl⟩, Below.refl _ _⟩
  · have HNEW : Hid (∀ (j : Nat) (u : Value), (Lib.byteCells l)[j]? = some u → (w.alloc (.cells #[] 5)).cell? (ad.add j) = some u) := by
      intro j u hj
      obtain ⟨x, hx, rfl⟩ := byteCells_get hj
      exact Lib.cell?_alloc_some _ (hc j x hx)
    have HLEN : Hid ((Lib.byteCells l).length = l.length * 1) := by rw [Nat.mul_one]; exact Lib.hid (byteCells_length l)
    clear hc
    go_enter Tryz.func70, Tryz.ntmps70
    go_wp2_with (at_builtin; refine wpList_append_own_at _ rfl _ _ 32 rfl w.heap.size 5 i0 (.int .u8 0) 1 1 Tryz.underlying32 hi hz0 hz1 hz2 rfl (by decide) _ _ _ rfl (World.ownsRow_made w #[] 0 (Nat.le_refl _) (Nat.zero_le _) rfl) ad l.length cp (Lib.byteCells l) rfl HLEN.out HNEW.out (byteCells_one l) (by unfold maxLen; omega) (by omega) (by rw [World.size_alloc]; omega) ?_)
    intro v' w1 hown hgr _ _
    have HS : Hid (BSrc w1 v' l) := Lib.hid (BSrc.of_row hown)
    have HB : Hid (Below w.heap.size w w1) := Lib.hid (((Below.refl _ _).alloc (Nat.le_refl _) _).grown hgr (by rw [World.size_alloc]; omega) (fun k hk => by cases hk; exact Nat.le_refl _))
    clear hown hgr
    go_wp2_with (fail)
    go_ret
    exact ⟨_, rfl, HS.out, HB.out⟩
set_option maxRecDepth 100000 in
set_option maxHeartbeats 2000000 in
theorem bytesEqual_any {l m : List UInt8} {v u : Value} {w : World} (hv : BSrc w v l) (hu : BSrc w u m) :
    Calls Tryz.prog 71 #[v, u] w fun e w' => e = .returned (.bool (l == m)) ∧ w' = w := by
  have c1 := hv.conv
  have c2 := hu.conv
  clear hv hu
  obtain ⟨s, hs⟩ : ∃ s : ByteArray, s = ⟨l.toArray⟩ := ⟨_, rfl⟩
  obtain ⟨t, ht⟩ : ∃ t : ByteArray, t = ⟨m.toArray⟩ := ⟨_, rfl⟩
  rw [← hs] at c1
  rw [← ht] at c2
  have HE : Hid ((s.toList == t.toList) = (l == m)) := by rw [hs, ht, ByteArray.toList_eq, ByteArray.toList_eq]; exact Lib.hid rfl
  clear hs ht
  go_enter Tryz.func71, Tryz.ntmps71
  go_wp2_with (fail)
  go_ret
  exact ⟨by rw [← HE.out]; rfl, rfl⟩
end Go.Proofs.YthafpdceknleiaaGreatDoor
