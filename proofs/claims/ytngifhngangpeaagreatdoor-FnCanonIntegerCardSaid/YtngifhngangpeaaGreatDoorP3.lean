/- The text of a string as decorateString writes it: a plain function. -/
import Derived.Test.YtngifhngangpeaaGreatDoorP1
open Go Go.RowKit
namespace Go.Proofs.YtngifhngangpeaaGreatDoor
def hexB (n : Nat) : UInt8 := if n < 10 then UInt8.ofNat (48 + n) else UInt8.ofNat (87 + n)
/-- The letter of an escape of one letter. -/
def binE (c : UInt8) : Option UInt8 :=
  if c = 92 then some 92 else if c = 34 then some 34 else if c = 8 then some 98 else if c = 12 then some 102
  else if c = 10 then some 110 else if c = 13 then some 114 else if c = 9 then some 116 else none
def decB (c : UInt8) : List UInt8 :=
  match binE c with
  | some z => [92, z]
  | none => if c.toNat < 32 then [92, 117, 48, 48, hexB (c.toNat / 16), hexB (c.toNat % 16)] else [c]
def deco (s : List UInt8) : List UInt8 := 34 :: (s.flatMap decB) ++ [34]
theorem decB_len (c : UInt8) : (decB c).length ≤ 6 := by
  unfold decB
  split
  · simp
  · split <;> simp
theorem flat_len (s : List UInt8) : (s.flatMap decB).length ≤ 6 * s.length := by
  induction s with
  | nil => simp
  | cons x s ih => rw [List.flatMap_cons, List.length_append, List.length_cons]; have := decB_len x; omega
end Go.Proofs.YtngifhngangpeaaGreatDoor
