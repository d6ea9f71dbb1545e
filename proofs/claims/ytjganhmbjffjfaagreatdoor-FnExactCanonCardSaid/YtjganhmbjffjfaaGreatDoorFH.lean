/- Texts of bytes; a world behind draws. -/
import Derived.Test.YtjganhmbjffjfaaGreatDoorT0
import Derived.Lib.SmallJoins
open Go Go.RowKit
namespace Go.Proofs.YtjganhmbjffjfaaGreatDoor
/-- A text of bytes. -/
def bs (l : List UInt8) : ByteArray := ⟨l.toArray⟩
theorem bs_data (l : List UInt8) : (bs l).data.toList = l := by simp [bs]
theorem bs_of (s : ByteArray) : bs s.data.toList = s := by cases s; simp [bs]
theorem bs_size (l : List UInt8) : (bs l).size = l.length := by simp [bs, ByteArray.size]
theorem bs_ext (s : ByteArray) (i j : Nat) : s.extract i j = bs ((s.data.toList.drop i).take (j - i)) := by
  rw [← bs_of (s.extract i j), ByteArray.data_extract, Array.toList_extract]
theorem bs_tail (s : ByteArray) (i : Nat) : s.extract i s.size = bs (s.data.toList.drop i) := by
  rw [bs_ext, List.take_of_length_le (by rw [List.length_drop, ← Lib.size_eq]; exact Nat.le_refl _)]
theorem bs_head (s : ByteArray) (i : Nat) : s.extract 0 i = bs (s.data.toList.take i) := by
  rw [bs_ext, List.drop_zero, Nat.sub_zero]
theorem bs_size_eq (s : ByteArray) : s.data.toList.length = s.size := (Lib.size_eq s).symm
theorem bs_get (s : ByteArray) (k : Nat) (h : k < s.size) : s.data.toList[k]? = some s[k] := by
  rw [List.getElem?_eq_getElem (by rw [bs_size_eq]; exact h)]; rfl
theorem bs_cons (s : ByteArray) (h : 0 < s.size) : s.data.toList = s[0] :: s.data.toList.drop 1 := by
  have := bs_get s 0 h
  cases e : s.data.toList with
  | nil => rw [e] at this; cases this
  | cons x l => rw [e] at this; cases this; rfl
theorem bs_nil {s : ByteArray} (h : ¬ 0 < s.size) : s.data.toList = [] := List.length_eq_zero_iff.1 (by rw [bs_size_eq]; omega)
theorem u8_neI {x : UInt8} {n : Nat} (hn : n < 256) (h : x ≠ UInt8.ofNat n) : ¬ ((x.toNat : Nat) : Int) = (n : Int) := fun e => h (UInt8.toNat_inj.1 (by rw [UInt8.toNat_ofNat_of_lt' (by show n < 256; omega)]; omega))
theorem take_at {l : List UInt8} {k : Nat} {c : UInt8} (h0 : ∀ x ∈ l.take k, x ≠ c) (h : l[k]? = some c) : l.takeWhile (· != c) = l.take k ∧ l.dropWhile (· != c) = l.drop k := by
  induction l generalizing k with
  | nil => simp at h
  | cons y l ih =>
    cases k with
    | zero => simp at h; subst h; simp
    | succ k =>
      have hy : y ≠ c := h0 y (by simp)
      obtain ⟨h1, h2⟩ := ih (k := k) (fun x hx => h0 x (by simp [hx])) (by simpa using h)
      simp [hy, h1, h2]
theorem take_all {l : List UInt8} {c : UInt8} (h0 : ∀ x ∈ l, x ≠ c) : l.takeWhile (· != c) = l ∧ l.dropWhile (· != c) = [] := by
  induction l with
  | nil => simp
  | cons y l ih =>
    have hy : y ≠ c := h0 y (by simp)
    obtain ⟨h1, h2⟩ := ih (fun x hx => h0 x (by simp [hx]))
    simp [hy, h1, h2]
/-- No sign of a class or an escape. -/
def QuietL (l : List UInt8) : Prop := ∀ x ∈ l, x ≠ 91 ∧ x ≠ 92 ∧ x ≠ 93
theorem below_drewN {B : Nat} {w w' : World} (h : Below B w w') (n : Nat) : Below B w (w'.drewN n) := ⟨h.os, h.tape, h.output, h.size, h.block⟩
end Go.Proofs.YtjganhmbjffjfaaGreatDoor
