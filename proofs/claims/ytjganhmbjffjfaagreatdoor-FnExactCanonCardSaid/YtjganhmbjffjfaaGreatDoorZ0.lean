/- laws.distinct answers true only at texts that differ. laws.zzFits1 answers something; the cells of a value (XT6's first part). -/
import Derived.Test.YtjganhmbjffjfaaGreatDoorT4
import Derived.Test.YtjganhmbjffjfaaGreatDoorV4
import Derived.Deep.Cut
import Derived.Deep.DeepCutAuto
import Derived.Deep.CutBlock
open Go Go.RowKit
namespace Go.Proofs.YtjganhmbjffjfaaGreatDoor
/-- The texts differ. -/
def NdS (l : List ByteArray) : Prop := (l.map (·.data.toList)).Nodup
theorem nds_step {l : List ByteArray} {k : Nat} {x : ByteArray} (h : NdS (l.take k)) (hx : l[k]? = some x) (hm : amB x (l.take k) = false) : NdS (l.take (k + 1)) := by
  unfold NdS at h ⊢
  rw [List.take_add_one, hx, List.map_append]
  refine List.nodup_append.2 ⟨h, by simp, fun a ha b hb => ?_⟩
  obtain ⟨y, hy, rfl⟩ := List.mem_map.1 ha
  obtain ⟨z, hz, rfl⟩ := List.mem_map.1 hb
  rw [Option.toList_some, List.mem_singleton] at hz
  subst hz
  intro e
  have h0 := List.any_eq_false.1 hm y hy
  rw [ByteArray.toList_eq, ByteArray.toList_eq] at h0
  simp [e] at h0
def SomeBn (l : List ByteArray) (w : World) (e : Ending) (w' : World) : Prop := ∃ b : Bool, e = .returned (.bool b) ∧ w = w' ∧ (b = true → NdS l)
set_option maxRecDepth 100000 in
set_option maxHeartbeats 4000000 in
theorem distinct_ndA {l : List ByteArray} {a : Addr} {cp : Nat} {w : World} (hc : ∀ (j : Nat) (s : ByteArray), l[j]? = some s → w.cell? (a.add j) = some (.string s)) (hl : l.length ≤ 2147483648) (hcp : l.length ≤ cp) (_hm : cp ≤ maxLen) :
    Calls Tryz.prog 46 #[.slice (some a) l.length cp] w (SomeBn l w) := by
  have HC := Lib.hid hc
  have HA : Hid (∀ (k : Nat) (s : ByteArray), k ≤ l.length → Calls Tryz.prog 26 #[.slice (some a) k cp, .string s] w fun e w' => (e = .returned (.bool (amB s (l.take k)))) ∧ w' = w) := by
    intro k s hk
    have hlk : (l.take k).length = k := by rw [List.length_take]; omega
    have := among_some s (l := l.take k) (a := a) (cp := cp) (w := w) (fun j x hj => hc j x (by rw [List.getElem?_take] at hj; split at hj; exact hj; cases hj)) (by omega)
    rw [hlk] at this
    exact this
  obtain ⟨n, hn⟩ : ∃ n, n = l.length := ⟨_, rfl⟩
  rw [← hn] at hl hcp ⊢
  have HN := Lib.hid hn
  clear hc hn
  go_enter Tryz.func46, Tryz.ntmps46
  go_wp2_with (fail)
  go_loopw [7] (fun i wr => ∃ k : Nat, k ≤ n ∧ i = .int .i64 k ∧ wr = w ∧ Hid (NdS (l.take k))) (fun i _ => n - (intOf i).toNat)
  case atStart => exact ⟨0, Nat.zero_le _, rfl, rfl, Lib.hid (by unfold NdS; simp)⟩
  case round =>
    obtain ⟨k, hk, rfl, rfl, HND⟩ := hrel
    by_cases hlt : k < n
    · obtain ⟨x, hx⟩ : ∃ x, l[k]? = some x := ⟨_, List.getElem?_eq_getElem (by rw [← HN.out]; exact hlt)⟩
      have c0 := HC.out k x hx
      have HX := Lib.hid hx
      have HCA := Lib.hid (HA.out k x (by rw [← HN.out]; omega))
      clear hx
      have hk2 : (k : Int) ≤ (cp : Int) := by omega
      obtain ⟨b, hb⟩ : ∃ b, b = amB x (l.take k) := ⟨_, rfl⟩
      rw [← hb] at HCA
      have HBB := Lib.hid hb
      clear hb
      go_wp2_with (fail)
      refine HCA.out.mono ?_
      rintro e w' ⟨rfl, rfl⟩
      cases b with
      | true =>
        go_wp2_with (fail)
        go_ret
        exact ⟨_, rfl, rfl, fun h => by simp at h⟩
      | false =>
        have HN1 : Hid (NdS (l.take (k + 1))) := Lib.hid (nds_step HND.out HX.out HBB.out.symm)
        go_wp2_with (fail)
        go_roundw
        case rel => exact ⟨k + 1, by omega, by go_num, trivial, HN1⟩
        case measure => simp [intOf]; omega
    · have HE : Hid (NdS l) := by
        have := HND.out
        rw [List.take_of_length_le (by rw [← HN.out]; omega)] at this
        exact Lib.hid this
      go_wp2_with (fail)
      go_ret
      exact ⟨_, rfl, rfl, fun _ => HE.out⟩
set_option maxRecDepth 100000 in
set_option maxHeartbeats 4000000 in
theorem distinct_nd {l : List ByteArray} {v : Value} {w : World} (h : StrR w v l) (hl : l.length ≤ 2147483648) : Calls Tryz.prog 46 #[v] w (SomeBn l w) := by
  rcases h with ⟨rfl, rfl⟩ | ⟨a, cap, rfl, h1, h2, h3⟩
  · go_enter Tryz.func46, Tryz.ntmps46
    go_wp2_with (fail)
    refine wp_loop_rounds 2 ?_
    rw [rounds_succ]
    go_wp2_with (fail)
    go_ret
    exact ⟨_, rfl, rfl, fun _ => by unfold NdS; simp⟩
  · exact distinct_ndA (fun j s hj => (h3 j s hj).1) hl h1 h2
theorem strR_slice {w : World} {v : Value} {l : List ByteArray} (h : StrR w v l) : ∃ ao cp, v = .slice ao l.length cp ∧ l.length ≤ maxLen := by
  rcases h with ⟨rfl, rfl⟩ | ⟨a, cap, rfl, h1, h2, _⟩
  · exact ⟨none, 0, rfl, Nat.zero_le _⟩
  · exact ⟨some a, cap, rfl, by omega⟩
theorem lr_slice {w : World} {v : Value} {l : List VT} (h : LR w v l) : ∃ ao cp, v = .slice ao l.length cp ∧ l.length ≤ maxLen := by
  cases h with
  | none => exact ⟨none, 0, rfl, Nat.zero_le _⟩
  | some a cap l kv lv hc hm hk hr => exact ⟨some a, cap, rfl, by omega⟩
set_option maxRecDepth 100000 in
set_option maxHeartbeats 4000000 in
theorem fits1_some {v : Value} {t : VT} {w : World} (h : VR w v t) : Calls Tryz.prog 9 #[v] w (SomeB w) := by
  obtain ⟨kv, lv, rfl, hk, ht, hs, hl⟩ := h.ex
  obtain ⟨k, hkk⟩ : ∃ k, k = t.kind := ⟨_, rfl⟩
  obtain ⟨x, hxx⟩ : ∃ x, x = t.text := ⟨_, rfl⟩
  rw [← hkk] at hk ⊢
  rw [← hxx] at ht ⊢
  obtain ⟨ao, cp, rfl, hll⟩ := lr_slice hl
  obtain ⟨n, hn⟩ : ∃ n, n = t.list.length := ⟨_, rfl⟩
  rw [← hn] at hll ⊢
  unfold maxLen at hll
  have HS := Lib.hid hs
  clear h hs hl hkk hxx hn
  by_cases h1 : 2147483647 < k.size
  · have i1 : decide ((2147483647 : Int) < (k.size : Int)) = true := decide_eq_true (by omega)
    clear h1
    go_enter Tryz.func9, Tryz.ntmps9
    go_wp2_with (fail)
    go_ret
    exact ⟨_, rfl, (Below.refl _ _).alloc (Nat.le_refl _) _⟩
  have i1 : decide ((2147483647 : Int) < (k.size : Int)) = false := decide_eq_false (by omega)
  by_cases h2 : 2147483647 < x.size
  · have i2 : decide ((2147483647 : Int) < (x.size : Int)) = true := decide_eq_true (by omega)
    clear h1 h2
    go_enter Tryz.func9, Tryz.ntmps9
    go_wp2_with (fail)
    go_ret
    exact ⟨_, rfl, (Below.refl _ _).alloc (Nat.le_refl _) _⟩
  have i2 : decide ((2147483647 : Int) < (x.size : Int)) = false := decide_eq_false (by omega)
  have HF := Lib.hid (fits2_strR (HS.out.stay ((Below.refl _ _).alloc (Nat.le_refl _) (.cells #[.string k, .string x, kv, .slice ao n cp] 25))))
  clear h1 h2
  go_enter Tryz.func9, Tryz.ntmps9
  go_wp2_with (fail)
  refine HF.out.mono ?_
  rintro e w2 ⟨b, rfl, rfl⟩
  cases b with
  | false =>
    go_wp2_with (fail)
    go_ret
    exact ⟨_, rfl, (Below.refl _ _).alloc (Nat.le_refl _) _⟩
  | true =>
    by_cases h3 : 2147483647 < n
    · have i3 : decide ((2147483647 : Int) < (n : Int)) = true := decide_eq_true (by omega)
      clear h3
      go_wp2_with (fail)
      go_ret
      exact ⟨_, rfl, (Below.refl _ _).alloc (Nat.le_refl _) _⟩
    · have i3 : decide ((2147483647 : Int) < (n : Int)) = false := decide_eq_false (by omega)
      clear h3
      go_wp2_with (fail)
      go_ret
      exact ⟨_, rfl, (Below.refl _ _).alloc (Nat.le_refl _) _⟩
theorem VR.stay {w w' : World} {v : Value} {t : VT} (h : VR w v t) (hb : Below w.heap.size w w') : VR w' v t := by
  obtain ⟨kv, lv, rfl, hk, ht, hs, hl⟩ := h.ex
  exact ⟨kv, lv, rfl, hk, ht, hs.stay hb, hl.stay hb⟩
theorem fieldA (ad : Addr) (m j : Nat) (hj : 0 < j) : ad.add (m + j) = ⟨(ad.add m).block, (ad.add m).off + j, none⟩ := by
  unfold Addr.add
  by_cases hm : m = 0
  · subst hm
    simp [Nat.ne_of_gt hj]
  · simp [hm, Nat.add_assoc]
theorem lr_elem {w W : World} {ao : Option Addr} {n cp : Nat} {l : List VT} (h : LR w (.slice ao n cp) l) (hb : Below w.heap.size w W) (j : Nat) (hj : j < l.length) :
    ∃ (a : Addr) (T : VT) (k0 l0 : Option Addr) (k1 l1 k2 l2 : Nat), ao = some a ∧ W.cell? (a.add (j * 4)) = some (.string T.kind) ∧ W.cell? ⟨(a.add (j * 4)).block, (a.add (j * 4)).off + 1, none⟩ = some (.string T.text) ∧ W.cell? ⟨(a.add (j * 4)).block, (a.add (j * 4)).off + 2, none⟩ = some (.slice k0 k1 k2) ∧ W.cell? ⟨(a.add (j * 4)).block, (a.add (j * 4)).off + 3, none⟩ = some (.slice l0 l1 l2) ∧ VR W (.agg #[.string T.kind, .string T.text, .slice k0 k1 k2, .slice l0 l1 l2]) T ∧ l[j]? = some T := by
  have h' := h.stay hb
  cases h' with
  | none => simp at hj
  | some a cap l kv lv hc hm hk hr =>
    obtain ⟨T, hT⟩ : ∃ T, l[j]? = some T := ⟨_, List.getElem?_eq_getElem hj⟩
    obtain ⟨h1, h2, h3, h4, h5, h6, h7⟩ := hk j T hT
    rw [fieldA _ _ 1 (by omega)] at h2
    rw [fieldA _ _ 2 (by omega)] at h3
    rw [fieldA _ _ 3 (by omega)] at h4
    have h8 := hr j T hT
    obtain ⟨ao, cp, e1, _⟩ := lr_slice h8
    obtain ⟨ko, kp, e2, _⟩ := strR_slice h7
    rw [e1] at h4 h8
    rw [e2] at h3 h7
    exact ⟨a, T, ko, ao, _, _, kp, cp, rfl, h1, h2, h3, h4, ⟨_, _, rfl, h5, h6, h7, h8⟩, hT⟩
/-- A value's block. -/
def VB (b : Nat) (k x : ByteArray) (kv lv : Value) (W : World) : Prop :=
  W.cell? ⟨b, 0, none⟩ = some (.string k) ∧ W.cell? ⟨b, 1, none⟩ = some (.string x) ∧ W.cell? ⟨b, 2, none⟩ = some kv ∧ W.cell? ⟨b, 3, none⟩ = some lv
end Go.Proofs.YtjganhmbjffjfaaGreatDoor
