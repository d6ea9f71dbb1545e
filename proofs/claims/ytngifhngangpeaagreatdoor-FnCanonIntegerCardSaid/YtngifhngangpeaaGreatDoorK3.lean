/- []rune(s), and the sort key of a name. -/
import Derived.Test.YtngifhngangpeaaGreatDoorK1
import Derived.Test.YtngifhngangpeaaGreatDoorP2
import Derived.Lib.TrimU
import Derived.Laws.IdiomStrings
open Go Go.RowKit
namespace Go.Proofs.YtngifhngangpeaaGreatDoor
theorem runesFrom_eq (s : ByteArray) : ∀ (f i : Nat) (acc : Array Value), Conv.runesFrom s f i acc = acc ++ ((runeL s f i).map fun r : Nat => Value.int .i32 (r : Int)).toArray
  | 0, i, acc => by simp [Conv.runesFrom, runeL]
  | f + 1, i, acc => by
    unfold Conv.runesFrom runeL
    by_cases h : i < s.size
    · rw [if_pos h, if_pos h]
      simp only
      rw [runesFrom_eq s f]
      simp
    · rw [if_neg h, if_neg h]; simp
theorem runeL_le (s : ByteArray) : ∀ (f i : Nat), ∀ r ∈ runeL s f i, r ≤ 1114111
  | 0, i, r, h => by cases h
  | f + 1, i, r, h => by
    unfold runeL at h
    split at h
    · rcases List.mem_cons.1 h with rfl | h
      · exact Lib.rune_le _ _
      · exact runeL_le s f _ r h
    · cases h
theorem runeL_len (s : ByteArray) : ∀ (f i : Nat), (runeL s f i).length ≤ f
  | 0, i => by simp [runeL]
  | f + 1, i => by
    unfold runeL
    split
    · have := runeL_len s f (i + (Utf8.decode s i).2); simp; omega
    · simp
theorem units_lt {s : ByteArray} : ∀ u ∈ units s, u < 65536 := by
  intro u hu
  unfold units at hu
  obtain ⟨r, _, h⟩ := List.mem_flatMap.1 hu
  exact unit16_lt h
theorem units_size {s : ByteArray} (hs : s.size ≤ 4294967296) : (units s).length ≤ 8589934592 := by
  unfold units
  rw [units_len (l := runes s) (fun r hr => runeL_le _ _ _ r hr)]
  have h1 := runeL_len s s.size 0
  have h2 := cnt2_le (runes s)
  unfold runes at *
  omega
/-- The world behind []rune(s). -/
def ConvW (w : World) (s : ByteArray) : World := w.drew.alloc (.cells (Conv.runesFrom s s.size 0 #[] ++ Array.replicate (grownCap w (Conv.runesFrom s s.size 0 #[]).size 0 21 - (Conv.runesFrom s s.size 0 #[]).size) (.int .i32 0)) 21)
theorem convW_size (w : World) (s : ByteArray) : (ConvW w s).heap.size = w.heap.size + 1 := by unfold ConvW; rw [World.size_alloc]; rfl
theorem convW_below (w : World) (s : ByteArray) : Below w.heap.size w (ConvW w s) := ((Below.refl _ _).drew).alloc (Nat.le_refl _) _
theorem conv_run (w : World) (s : ByteArray) (hs : s.size ≤ 4294967296) : ∃ cp, (convert 9 198 (.string s)).run Tryz.prog w = .ok (.slice (some ⟨w.heap.size, 0, none⟩) (runes s).length cp) (ConvW w s) := by
  have e : Conv.runesFrom s s.size 0 #[] = ((runes s).map fun r : Nat => Value.int .i32 (r : Int)).toArray := by rw [runesFrom_eq]; simp [runes]
  have hsz : (Conv.runesFrom s s.size 0 #[]).size = (runes s).length := by rw [e]; simp
  have hl : (runes s).length ≤ s.size := runeL_len _ _ _
  have h := run_runes_of_string (P := Tryz.prog) w 9 198 21 s Tryz.underlying9 Tryz.underlying198 Tryz.underlying21 (by rw [hsz]; omega)
  refine ⟨grownCap w (Conv.runesFrom s s.size 0 #[]).size 0 21, ?_⟩
  rw [h, hsz]; unfold ConvW; rw [hsz]
theorem convW_row (w : World) (s : ByteArray) : ∀ (i r : Nat), (runes s)[i]? = some r → (ConvW w s).cell? ⟨w.heap.size, i, none⟩ = some (Value.int .i32 (r : Int)) := by
  intro i r hr
  have e : Conv.runesFrom s s.size 0 #[] = ((runes s).map fun r : Nat => Value.int .i32 (r : Int)).toArray := by rw [runesFrom_eq]; simp [runes]
  have h := alloc_at w.drew (.cells (Conv.runesFrom s s.size 0 #[] ++ Array.replicate (grownCap w (Conv.runesFrom s s.size 0 #[]).size 0 21 - (Conv.runesFrom s s.size 0 #[]).size) (.int .i32 0)) 21)
  have h2 : (ConvW w s).heap[w.heap.size]? = some (.cells (Conv.runesFrom s s.size 0 #[] ++ Array.replicate (grownCap w (Conv.runesFrom s s.size 0 #[]).size 0 21 - (Conv.runesFrom s s.size 0 #[]).size) (.int .i32 0)) 21) := h
  have hi := (List.getElem?_eq_some_iff.1 hr).1
  have hlt : i < (Conv.runesFrom s s.size 0 #[]).size := by rw [e]; simpa using hi
  simp only [World.cell?, h2]
  show (Conv.runesFrom s s.size 0 #[] ++ _)[i]? = _
  rw [Array.getElem?_append_left hlt, e]
  simp [hr]
/-- The key that utf16.Encode makes of a name. -/
theorem encode_key (w : World) (s : ByteArray) (cp : Nat) (hs : s.size ≤ 4294967296) :
    Calls Tryz.prog 127 #[.slice (some ⟨w.heap.size, 0, none⟩) (runes s).length cp] (ConvW w s) fun e w' => ∃ b cp', e = .returned (.slice (some ⟨b, 0, none⟩) (units s).length cp') ∧ w.heap.size ≤ b ∧ b < w'.heap.size ∧ Below w.heap.size w w' ∧ KeyAt w' (units s) b cp' := by
  have hl : (runes s).length ≤ s.size := runeL_len _ _ _
  refine (encode_any (runes s) w.heap.size cp (ConvW w s) (convW_row w s) (by rw [convW_size]; omega) (fun r hr => runeL_le _ _ _ r hr) (by omega)).mono ?_
  rintro e w' ⟨b, cp', rfl, h1, h2, h3, h4, _⟩
  have hsz := convW_size w s
  exact ⟨b, cp', rfl, by omega, h2, (convW_below w s).trans (h3.mono (by omega)), h4, units_lt, units_size hs⟩
/-- What a string's reading adds is no longer than what it takes. -/
theorem pStr_len : ∀ (k : Nat) (acc s b r : List UInt8), pStr k acc s = some (b, r) → b.length + r.length ≤ acc.length + s.length
  | 0, _, _, _, _, h => by cases h
  | k + 1, acc, s, b, r, h => by
    unfold pStr at h
    cases hs : pStep s with
    | err => rw [hs] at h; cases h
    | fin r' =>
      rw [hs] at h
      simp only [Option.some.injEq, Prod.mk.injEq] at h
      obtain ⟨rfl, rfl⟩ := h
      have : r'.length ≤ s.length := by
        match s, hs with
        | x :: s, hs =>
          rw [pStep_cons] at hs
          split at hs
          · injection hs with e; subst e; simp
          split at hs
          · cases hs
          split at hs
          · match s, hs with
            | y :: s, hs =>
              rw [esc_cons] at hs
              split at hs
              · unfold uni at hs
                split at hs
                · split at hs
                  · unfold pair at hs
                    split at hs
                    · cases hs
                    split at hs
                    · split at hs
                      · split at hs
                        · split at hs <;> cases hs
                        · cases hs
                      · cases hs
                    · cases hs
                  · cases hs
                · cases hs
              split at hs
              · cases hs
              split at hs <;> cases hs
          split at hs
          · cases hs
          · unfold multi at hs; simp only at hs; split at hs <;> cases hs
      omega
    | go bs r' =>
      rw [hs] at h
      have h1 := pStr_len k _ _ _ _ h
      have h2 := pStep_len hs
      rw [List.length_append] at h1
      omega
end Go.Proofs.YtngifhngangpeaaGreatDoor
