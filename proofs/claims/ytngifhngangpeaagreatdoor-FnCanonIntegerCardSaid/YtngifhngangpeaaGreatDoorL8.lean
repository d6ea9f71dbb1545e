/- The literals of the closed call: true, 1.0; its answer, plain. -/
import Derived.Test.YtngifhngangpeaaGreatDoorL7
import Derived.Test.YtngifhngangpeaaGreatDoorN8
open Go Go.RowKit
namespace Go.Proofs.YtngifhngangpeaaGreatDoor
def lit10 : Lit := fun t => if t = [116, 114, 117, 101] then some (some ⟨#[116, 114, 117, 101]⟩) else if t = [49, 46, 48] then some (some ⟨#[49]⟩) else none
theorem lit10_ok : LitOK lit10 := by
  intro t q h
  unfold lit10 at h
  split at h
  · rename_i e
    subst e
    cases h
    intro N w hN
    refine (pLit_true w).mono ?_
    rintro e w' ⟨rfl, hb⟩
    exact ⟨hb, rfl⟩
  · split at h
    · rename_i e
      subst e
      cases h
      intro N w hN
      refine (pLit_10 _ (Lib.hid rfl) w N hN).mono ?_
      rintro e w' ⟨rfl, hb⟩
      exact ⟨hb, rfl⟩
    · cases h
/-- The closed call's text. -/
def awD : List UInt8 := [123, 34, 98, 34, 58, 91, 49, 46, 48, 44, 116, 114, 117, 101, 93, 44, 34, 97, 34, 58, 34, 92, 117, 48, 48, 52, 49, 34, 125]
def awT : List UInt8 := [123, 34, 97, 34, 58, 34, 65, 34, 44, 34, 98, 34, 58, 91, 49, 44, 116, 114, 117, 101, 93, 125]
theorem awElem : pElem lit10 40 0 awD = .ok awT [] := by kernel_rfl
theorem awAll : pAll lit10 40 awD = .ok awT [] := by kernel_rfl
end Go.Proofs.YtngifhngangpeaaGreatDoor
