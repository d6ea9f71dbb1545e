/- path.scanChunk at patterns without classes and escapes. -/
import Derived.Test.YtpanemfpipcggaaGreatDoorF1
import Derived.Lib.SmallJoins
open Go Go.RowKit
namespace Go.Proofs.YtpanemfpipcggaaGreatDoor
/-- A text of bytes. -/
def bs (l : List UInt8) : ByteArray := ⟨l.toArray⟩
theorem bs_data (l : List UInt8) : (bs l).data.toList = l := by simp [bs]
theorem bs_of (s : ByteArray) : bs s.data.toList = s := by cases s; simp [bs]
theorem bs_size (l : List UInt8) : (bs l).size = l.length := by simp [bs, ByteArray.size]
theorem bs_ext (s : ByteArray) (i j : Nat) : s.extract i j = bs ((s.data.toList.drop i).take (j - i)) := by
  rw [← bs_of (s.extract i j), ByteArray.data_extract, Array.toList_extract]
theorem bs_tail (s : ByteArray) (i : Nat) : s.extract i s.size = bs (s.data.toList.drop i) := by
  rw [bs_ext, List.take_of_length_le (by rw [List.length_drop, ← Lib.size_eq]; exact Nat.le_refl _)]
theorem bs_head (s : ByteArray) (i : Nat) : s.extract 0 i = bs (s.data.toList.take i) := by
  rw [bs_ext, List.drop_zero, Nat.sub_zero]
theorem bs_size_eq (s : ByteArray) : s.data.toList.length = s.size := (Lib.size_eq s).symm
theorem bs_get (s : ByteArray) (k : Nat) (h : k < s.size) : s.data.toList[k]? = some s[k] := by
  rw [List.getElem?_eq_getElem (by rw [bs_size_eq]; exact h)]; rfl
theorem bs_cons (s : ByteArray) (h : 0 < s.size) : s.data.toList = s[0] :: s.data.toList.drop 1 := by
  have := bs_get s 0 h
  cases e : s.data.toList with
  | nil => rw [e] at this; cases this
  | cons x l => rw [e] at this; cases this; rfl
theorem bs_nil {s : ByteArray} (h : ¬ 0 < s.size) : s.data.toList = [] := List.length_eq_zero_iff.1 (by rw [bs_size_eq]; omega)
theorem u8_neI {x : UInt8} {n : Nat} (hn : n < 256) (h : x ≠ UInt8.ofNat n) : ¬ ((x.toNat : Nat) : Int) = (n : Int) := fun e => h (UInt8.toNat_inj.1 (by rw [UInt8.toNat_ofNat_of_lt' (by show n < 256; omega)]; omega))
theorem take_at {l : List UInt8} {k : Nat} {c : UInt8} (h0 : ∀ x ∈ l.take k, x ≠ c) (h : l[k]? = some c) : l.takeWhile (· != c) = l.take k ∧ l.dropWhile (· != c) = l.drop k := by
  induction l generalizing k with
  | nil => simp at h
  | cons y l ih =>
    cases k with
    | zero => simp at h; subst h; simp
    | succ k =>
      have hy : y ≠ c := h0 y (by simp)
      obtain ⟨h1, h2⟩ := ih (k := k) (fun x hx => h0 x (by simp [hx])) (by simpa using h)
      simp [hy, h1, h2]
theorem take_all {l : List UInt8} {c : UInt8} (h0 : ∀ x ∈ l, x ≠ c) : l.takeWhile (· != c) = l ∧ l.dropWhile (· != c) = [] := by
  induction l with
  | nil => simp
  | cons y l ih =>
    have hy : y ≠ c := h0 y (by simp)
    obtain ⟨h1, h2⟩ := ih (fun x hx => h0 x (by simp [hx]))
    simp [hy, h1, h2]
/-- No sign of a class or an escape. -/
def QuietL (l : List UInt8) : Prop := ∀ x ∈ l, x ≠ 91 ∧ x ≠ 92 ∧ x ≠ 93
theorem below_drewN {B : Nat} {w w' : World} (h : Below B w w') (n : Nat) : Below B w (w'.drewN n) := ⟨h.os, h.tape, h.output, h.size, h.block⟩
/-- What scanChunk tells. -/
def ScP (l : List UInt8) (w : World) (e : Ending) (w' : World) : Prop := e = .returned (.tuple #[.bool (starB l), .string (bs (chunkB l)), .string (bs (restB l))]) ∧ Below w.heap.size w w'
/-- The head of the first loop. -/
structure ScA (l : List UInt8) (cur : ByteArray) (st : Bool) : Prop where
  un : unstarB cur.data.toList = unstarB l
  star : (st || starB cur.data.toList) = starB l
  sub : ∀ x ∈ cur.data.toList, x ∈ l
theorem ScA.step {l : List UInt8} {cur : ByteArray} {st : Bool} (h : ScA l cur st) (h0 : 0 < cur.size) (h1 : cur[0] = 42) : ScA l (cur.extract 1 cur.size) true := by
  have e := bs_cons cur h0
  rw [h1] at e
  refine ⟨?_, ?_, ?_⟩
  · rw [bs_tail, bs_data, ← h.un]
    conv => rhs; rw [e]
    simp [unstarB]
  · rw [← h.star, e]; simp [starB]
  · intro x hx
    rw [bs_tail, bs_data] at hx
    exact h.sub x (List.mem_of_mem_drop hx)
theorem ScA.out {l : List UInt8} {cur : ByteArray} {st : Bool} (h : ScA l cur st) (h1 : starB cur.data.toList = false) : st = starB l ∧ cur.data.toList = unstarB l := by
  refine ⟨by rw [← h.star, h1, Bool.or_false], ?_⟩
  rw [← h.un, unstar_plain (by rw [h1]; simp)]
theorem star_false {s : ByteArray} (h : 0 < s.size → s[0]! ≠ 42) : starB s.data.toList = false := by
  by_cases h0 : 0 < s.size
  · have h1 := h h0
    rw [bs_cons s h0]
    rw [getElem!_pos s 0 h0] at h1
    simp [starB, h1]
  · rw [bs_nil h0]; rfl
theorem ScP.mk' {l : List UInt8} {w w' : World} {st : Bool} {a b : ByteArray} (hb : Below w.heap.size w w') (h1 : st = starB l) (h2 : a.data.toList = chunkB l) (h3 : b.data.toList = restB l) : ScP l w (.returned (.tuple #[.bool st, .string a, .string b])) w' := by
  refine ⟨?_, hb⟩
  rw [← h1, ← h2, ← h3, bs_of, bs_of]
theorem take_step_ne {s : ByteArray} {k : Nat} (hk : k < s.size) {c : UInt8} (h : ∀ x ∈ s.data.toList.take k, x ≠ c) (h2 : s[k] ≠ c) : ∀ x ∈ s.data.toList.take (k + 1), x ≠ c := by
  intro x hx
  rw [List.take_add_one, bs_get s k hk] at hx
  rcases List.mem_append.1 hx with hx | hx
  · exact h x hx
  · simp at hx; subst hx; exact h2
set_option maxRecDepth 100000 in
set_option maxHeartbeats 4000000 in
theorem scanChunk_any {p : ByteArray} (hq : QuietL p.data.toList) (hs : p.size ≤ 4294967296) (w : World) :
    Calls Tryz.prog 118 #[.string p] w (ScP p.data.toList w) := by
  have HQ := Lib.hid hq
  clear hq
  go_enter Tryz.func118, Tryz.ntmps118
  go_wp2_with (fail)
  go_loop [0, 2] (fun v b => ∃ (cur : ByteArray) (st : Bool), v = .string cur ∧ b = .bool st ∧ cur.size ≤ 4294967296 ∧ Hid (ScA p.data.toList cur st)) (fun v _ => match v with | .string c => c.size | _ => 0)
  case atStart => exact ⟨p, false, rfl, rfl, hs, ⟨rfl, by simp, fun x h => h⟩⟩
  case round =>
    obtain ⟨cur, st, rfl, rfl, hcs, HA⟩ := hrel
    by_cases hgo : 0 < cur.size ∧ cur[0]! = 42
    · obtain ⟨h0, h1⟩ := hgo
      rw [getElem!_pos cur 0 h0] at h1
      have HA2 := Lib.hid (HA.out.step h0 h1)
      have i1 : ((cur[0].toNat : Nat) : Int) = 42 := by rw [h1]; rfl
      have hsz : (cur.extract 1 cur.size).size = cur.size - 1 := by rw [ByteArray.size_extract]; omega
      have HSZ := Lib.hid hsz
      clear h1 hsz
      go_wp2_with (fail)
      go_round
      case rel => exact ⟨_, true, rfl, rfl, by rw [HSZ.out]; omega, HA2⟩
      case measure => simp only [HSZ.out]; omega
    · have HST : Hid (starB cur.data.toList = false) := Lib.hid (star_false fun h0 h1 => hgo ⟨h0, h1⟩)
      obtain ⟨h1, h2⟩ := HA.out.out HST.out
      have H1 := Lib.hid h1
      have H2 := Lib.hid h2
      have HQC : Hid (QuietL cur.data.toList) := Lib.hid fun x hx => HQ.out x (HA.out.sub x hx)
      clear h1 h2
      rcases (show (¬ 0 < cur.size) ∨ (∃ h : 0 < cur.size, cur[0] ≠ 42) by
        by_cases h0 : 0 < cur.size
        · exact .inr ⟨h0, fun h1 => hgo ⟨h0, by rw [getElem!_pos cur 0 h0]; exact h1⟩⟩
        · exact .inl h0) with h0 | ⟨h0, h1⟩
      · have i0 : ¬ (0 : Int) < (cur.size : Int) := by omega
        clear hgo
        go_wp2_with (fail)
        go_loop [2, 5, 6] (fun t b v => t = .bool st ∧ b = .bool false ∧ v = .int .i64 0) (fun _ _ _ => 0)
        case atStart => exact ⟨rfl, rfl, rfl⟩
        case round =>
          obtain ⟨rfl, rfl, rfl⟩ := hrel
          have HE := Lib.hid (bs_nil h0)
          go_wp2_with (fail)
          refine bodyPost_ret (v := .tuple #[.bool st, .string cur, .string ⟨#[]⟩]) (by simp [results, Tryz.results118, go_sem]) rfl (ScP.mk' (Below.refl _ _) H1.out ?_ ?_)
          · unfold chunkB; rw [← H2.out, HE.out]; rfl
          · unfold restB; rw [← H2.out, HE.out]; rfl
      · have n1 : ¬ ((cur[0].toNat : Nat) : Int) = 42 := u8_neI (n := 42) (by decide) h1
        clear hgo h1
        go_wp2_with (fail)
        go_loop [2, 5, 6] (fun t b v => ∃ k : Nat, t = .bool st ∧ b = .bool false ∧ v = .int .i64 k ∧ k ≤ cur.size ∧ Hid (∀ x ∈ cur.data.toList.take k, x ≠ 42)) (fun _ _ v => cur.size - (intOf v).toNat)
        case atStart => exact ⟨0, rfl, rfl, rfl, Nat.zero_le _, fun x hx => by simp at hx⟩
        case round =>
          obtain ⟨k, rfl, rfl, rfl, hk, HK⟩ := hrel
          by_cases hlt : k < cur.size
          · have hqk := HQC.out cur[k] (List.mem_of_getElem? (bs_get cur k hlt))
            have q1 : ((cur[k].toNat : Nat) : Int) ≠ 91 := u8_neI (n := 91) (by decide) hqk.1
            have q2 : ((cur[k].toNat : Nat) : Int) ≠ 92 := u8_neI (n := 92) (by decide) hqk.2.1
            have q3 : ((cur[k].toNat : Nat) : Int) ≠ 93 := u8_neI (n := 93) (by decide) hqk.2.2
            by_cases h42 : cur[k] = 42
            · have i1 : ((cur[k].toNat : Nat) : Int) = 42 := by rw [h42]; rfl
              have HT := Lib.hid (take_at HK.out (by rw [bs_get cur k hlt, h42]))
              clear h42 hqk q1 q2 q3
              go_wp2_with (fail)
              go_quiet (fail)
              go_wp2_with (fail)
              refine bodyPost_ret (v := .tuple #[.bool st, .string (cur.extract 0 k), .string (cur.extract k cur.size)]) (by simp [results, Tryz.results118, go_sem]) rfl (ScP.mk' (below_drewN (Below.refl _ _) _) H1.out ?_ ?_)
              · unfold chunkB; rw [← H2.out, HT.out.1, bs_head, bs_data]
              · unfold restB; rw [← H2.out, HT.out.2, bs_tail, bs_data]
            · have n4 : ((cur[k].toNat : Nat) : Int) ≠ 42 := u8_neI (n := 42) (by decide) h42
              have HK2 := Lib.hid (take_step_ne hlt HK.out h42)
              clear h42 hqk
              go_wp2_with (fail)
              go_round
              case rel => exact ⟨k + 1, rfl, rfl, by go_num, by omega, HK2⟩
              case measure => simp [intOf]; omega
          · have HT := Lib.hid (take_all (l := cur.data.toList) (c := 42) (by have := HK.out; rwa [List.take_of_length_le (by rw [bs_size_eq]; omega)] at this))
            go_wp2_with (fail)
            refine bodyPost_ret (v := .tuple #[.bool st, .string cur, .string ⟨#[]⟩]) (by simp [results, Tryz.results118, go_sem]) rfl (ScP.mk' (Below.refl _ _) H1.out ?_ ?_)
            · unfold chunkB; rw [← H2.out, HT.out.1]
            · unfold restB; rw [← H2.out, HT.out.2]
end Go.Proofs.YtpanemfpipcggaaGreatDoor
