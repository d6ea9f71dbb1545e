/- A map literal of two texts by kinds of values (for FnCanonParts). -/
import Derived.Test.YtjganhmbjffjfaaGreatDoorQ8
import Derived.Test.YtjganhmbjffjfaaGreatDoorY4
open Go Go.RowKit Go.Maps
namespace Go.Proofs.YtjganhmbjffjfaaGreatDoor
def kList : ByteArray := ⟨#[108, 105, 115, 116]⟩
def kObj : ByteArray := ⟨#[111, 98, 106, 101, 99, 116]⟩
theorem ss_at1 {H : Type} (a b : List UInt8) : ((((DataW.map []).put (.string [108, 105, 115, 116]) (.lit (.string a))).put (.string [111, 98, 106, 101, 99, 116]) (.lit (.string b)) : DataW H)).atKey (.string [108, 105, 115, 116]) (.lit (.string [])) = .lit (.string a) := by
  have m0 : IsMap (DataW.map [] : DataW H) := ⟨_, rfl⟩
  rw [atKey_put_other (fun e => by injection e with e; exact absurd e (by decide)), atKey_put_same m0 (by trivial)]
theorem ss_at2 {H : Type} (a b : List UInt8) : ((((DataW.map []).put (.string [108, 105, 115, 116]) (.lit (.string a))).put (.string [111, 98, 106, 101, 99, 116]) (.lit (.string b)) : DataW H)).atKey (.string [111, 98, 106, 101, 99, 116]) (.lit (.string [])) = .lit (.string b) := by
  have m0 : IsMap (DataW.map [] : DataW H) := ⟨_, rfl⟩
  have m1 := m0.put (.string [108, 105, 115, 116]) (.lit (.string a))
  rw [atKey_put_same m1 (by trivial)]
set_option maxRecDepth 10000 in
theorem ss_runs (w : World) (a b : List UInt8) (ha : a.length ≤ 1000) (hb : b.length ≤ 1000) : ∃ w1 w2 : World,
    (Instr.mapUpdate 29 (.map (some w.heap.size)) (.string kList) (.string ⟨a.toArray⟩)).run Tryz.prog (w.alloc (.map #[] 0)) = .ok () w1 ∧
    (Instr.mapUpdate 29 (.map (some w.heap.size)) (.string kObj) (.string ⟨b.toArray⟩)).run Tryz.prog w1 = .ok () w2 ∧
    (Instr.lookup 29 (.map (some w.heap.size)) (.string kList) false).run Tryz.prog w2 = .ok (.string ⟨a.toArray⟩) w2 ∧
    (Instr.lookup 29 (.map (some w.heap.size)) (.string kObj) false).run Tryz.prog w2 = .ok (.string ⟨b.toArray⟩) w2 ∧ Below w.heap.size w w2 := by
  have K : Keyed Tryz.prog 9 := keyedS
  have ht : Tryz.prog.underlying 29 = some (.map 9 9) := Tryz.underlying29
  have he : Tryz.prog.underlying 9 = some .string := Tryz.underlying9
  have hsz : ∀ l : List UInt8, l.length ≤ 1000 → (⟨l.toArray⟩ : ByteArray).size ≤ maxLen := fun l h => by rw [Lib.size_eq]; show l.length ≤ _; unfold maxLen; omega
  have k1 : keyOf Tryz.prog 9 (.string kList) = some (.string [108, 105, 115, 116]) := WideMaps.keyOf_string_mk he (s := kList) (by decide)
  have k2 : keyOf Tryz.prog 9 (.string kObj) = some (.string [111, 98, 106, 101, 99, 116]) := WideMaps.keyOf_string_mk he (s := kObj) (by decide)
  have hb0 : Below w.heap.size w (w.alloc (.map #[] 0)) := (Below.refl _ _).alloc (Nat.le_refl _) _
  have h0 := World.ownsMap_made (H := Unit) w Tryz.prog 9 (plainElem Tryz.prog 9)
  obtain ⟨w1, e1, h1, g1⟩ := h0.update K ht (by decide) k1 (plainElem_string (H := Unit) he (s := ⟨a.toArray⟩) (hsz a ha))
  have hb1 := grown_own g1 hb0 (Nat.le_refl _) (Nat.le_refl _)
  obtain ⟨w2, e2, h2, g2⟩ := h1.update K ht (by decide) k2 (plainElem_string (H := Unit) he (s := ⟨b.toArray⟩) (hsz b hb))
  have hb2 := grown_own g2 hb1 (Nat.le_refl _) (Nat.le_refl _)
  refine ⟨w1, w2, e1, e2, ?_, ?_, hb2⟩
  · obtain ⟨v, ps, hrun, hv⟩ := h2.lookup K ht (z := .string ⟨#[]⟩) (by kernel_rfl) (plainElem_string (H := Unit) he (s := ⟨#[]⟩) (by decide)) k1
    obtain ⟨s, rfl, hc, hwc⟩ := plainElem_string_inv he hv
    have hat := ss_at1 (H := Unit) a b
    rw [show (({ data := #[] } : ByteArray).data.toList) = [] from rfl] at hc
    simp only [Prod.mk.injEq] at hc
    have hc' : (DataW.lit (.string a) : DataW Unit) = .lit (.string s.data.toList) := hat.symm.trans hc.1
    have hc2 : a = s.data.toList := by simpa using hc'
    have e1 : s = ⟨a.toArray⟩ := by rw [hc2]
    rw [← e1]
    exact hrun
  · obtain ⟨v, ps, hrun, hv⟩ := h2.lookup K ht (z := .string ⟨#[]⟩) (by kernel_rfl) (plainElem_string (H := Unit) he (s := ⟨#[]⟩) (by decide)) k2
    obtain ⟨s, rfl, hc, hwc⟩ := plainElem_string_inv he hv
    have hat := ss_at2 (H := Unit) a b
    rw [show (({ data := #[] } : ByteArray).data.toList) = [] from rfl] at hc
    simp only [Prod.mk.injEq] at hc
    have hc' : (DataW.lit (.string b) : DataW Unit) = .lit (.string s.data.toList) := hat.symm.trans hc.1
    have hc2 : b = s.data.toList := by simpa using hc'
    have e1 : s = ⟨b.toArray⟩ := by rw [hc2]
    rw [← e1]
    exact hrun
end Go.Proofs.YtjganhmbjffjfaaGreatDoor
