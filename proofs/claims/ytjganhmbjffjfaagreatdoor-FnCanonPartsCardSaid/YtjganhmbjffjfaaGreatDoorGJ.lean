/- Proved: laws.FnCanonParts answers true at every value, and leaves its arguments as they read; under the row's cell 'laid' (package-level variables of Go's library start as its text lays them; the card ties them). -/
import Derived.Test.YtjganhmbjffjfaaGreatDoorZA
import Derived.Test.YtjganhmbjffjfaaGreatDoorG4
import Derived.Test.YtjganhmbjffjfaaGreatDoorHJ
open Go Go.RowKit
namespace Go.Proofs.YtjganhmbjffjfaaGreatDoor
open Go.ChangeShapes Go.WideShapes Go.ChangeAt Go.ChangeMaps
set_option maxRecDepth 100000 in
theorem lifted_FnCanonParts (os : Os) (started : os.Started) (H : Type) (enc : TypeId × Value → H) :
    ReturnsInHanded {} Tryz.checked os 3 .any (fun w args => (Rows.fnCanonPartsSpec.pre enc Tryz.prog Tryz.f3 [] false w args ∧ laidMetH Tryz.prog Rows.fnCanonPartsRow.laid w) ∧ sizedMet enc Tryz.prog Tryz.f3 (OpenSpec.ofChange Rows.fnCanonPartsSpec) false w args)
      (Rows.fnCanonPartsSpec.post enc Tryz.prog Tryz.f3 false true false false) := by
  refine returnsInHanded_of_change_and (C := Tryz.checked) (X := fun w _ => laidMetH Tryz.prog Rows.fnCanonPartsRow.laid w) (fun _ _ _ hh h => h.of_heap hh) own3 started (by kernel_rfl) Tryz.func3
    (ChangeSpec.witness_shaped (enc := enc) (C := Tryz.checked) (os := os) (X := fun w _ => laidMetH Tryz.prog Rows.fnCanonPartsRow.laid w) false (World.laidAll Tryz.prog os Rows.fnCanonPartsRow.laid) #[.agg #[.string ⟨#[]⟩, .string ⟨#[]⟩, .slice none 0 0, .slice none 0 0]] 8 (World.laidAll_os _ _ _)
      (World.shaped_of_ZipB (by kernel_rfl) (by kernel_rfl)) (by kernel_rfl) (by kernel_rfl) (by kernel_rfl)
      (by rw [MakeChecks.laidMetH_plain _ _ _ (by kernel_rfl)]; exact laidMet_laidAll _ (by kernel_rfl) (by kernel_rfl))) ?_
  intro W base args ds gs before hval0 hW _ hsz hL _
  have hval : ∀ (j : Nat) t v, Tryz.f3.params[j]? = some t → args[j]? = some v → Value.okWide Tryz.prog W .any base t v := hval0
  have hW' := hW
  obtain ⟨p, q, hA0, hV, rfl, _, _⟩ := hW
  have hA : DataW.TrodAll enc Tryz.prog W 0 (fun _ => true) true Tryz.f3.params.toList args.toList ds p := hA0
  rw [Tryz.params3] at hA hval hsz
  obtain ⟨v0, d0, rfl, rfl, h0⟩ := trodAll_one hA
  obtain ⟨rfl, rfl⟩ := trodVars_none hV
  obtain ⟨vt0, hv0⟩ := vr_of (wok_of hsz (j := 0) rfl rfl) (hval 0 25 v0 rfl rfl) h0
  have hlt0 : ∀ x ∈ p, x.block < W.heap.size := fun x hx => by simpa using hW'.lt x (by simp [hx])
  rw [MakeChecks.laidMetH_plain _ _ _ (by kernel_rfl)] at hL
  have hT : TL W.heap.size W := tl_of (tl0_of hL (by simp [Rows.fnCanonPartsRow]) (by simp [Rows.fnCanonPartsRow]) (by simp [Rows.fnCanonPartsRow]) (by simp [Rows.fnCanonPartsRow]) (by simp [Rows.fnCanonPartsRow]) (by simp [Rows.fnCanonPartsRow]) (by simp [Rows.fnCanonPartsRow]) (by simp [Rows.fnCanonPartsRow]) (by simp [Rows.fnCanonPartsRow])) rfl
  refine (fnCanonParts_any hv0 hT).mono fun e W' ⟨he, hbl⟩ => ?_
  subst he
  exact ⟨_, rfl, _, _, _, [], _, [], hW', trodAll_mk1 (shut_bool Tryz.underlying4 _), trodAll_mk1 (Below.trod laidOut3 (by kernel_rfl) (of_decide_eq_true (by kernel_rfl)) h0 hbl hlt0), rfl, hbl.frame _, fun h => by cases h⟩
set_option maxRecDepth 100000 in
set_option maxHeartbeats 8000000 in
theorem closed_FnCanonParts : joinedFacts Tryz.pinned.checked.prog 3 Tryz.f3 Rows.fnCanonPartsSpec Rows.fnCanonPartsRow = true := by
  unfold joinedFacts
  repeat' (with_reducible apply andB3)
  all_goals (as_aux_lemma => kernel_rfl)
theorem holds_FnCanonParts : Rows.FnCanonPartsSaid :=
  OpenClaim.holds_of_wide 3 Tryz.f3 rfl rfl rfl rfl rfl rfl rfl ⟨rfl, rfl, rfl, rfl, rfl⟩ rfl rfl rfl rfl rfl (by kernel_rfl) Tryz.func3 closed_FnCanonParts
    (by as_aux_lemma => exact of_decide_eq_true (by kernel_rfl)) (by unfold Func.isWrapper; first | (rw [if_pos (by decide +kernel)]; kernel_rfl) | (rw [if_neg (by decide +kernel)]; exact ⟨rfl, rfl⟩))
    (fun os started H enc _ => lifted_FnCanonParts os started H enc)
theorem fnCanonParts_card : Rows.FnCanonPartsCardSaid :=
  Claim7.holds_tied_plain_at .later [] [.data, .data, .widerDeep, .widerDeep, .data, .data, .data, .data, .data, .data, .sentinel, .sentinel, .sentinel, .pinned, .pinned, .pinned] true (true, "a629147119de596a5d82fee5b4caf6a4767b7d9b550a92c00452b1df7b693d14") true holds_FnCanonParts (fun _ h => by cases h) wfText_FnCanonParts (fun _ h => by cases h) fnCanonParts_row_tie rfl ⟨rfl, rfl⟩ mainIs_FnCanonParts rfl
    (fun f fn hf hfn => by
      obtain rfl : f = 3 := Option.some.inj (named_FnCanonParts.symm.trans hf) |>.symm
      obtain rfl : fn = Tryz.f3 := (Option.some.inj (Tryz.func3.symm.trans hfn)).symm
      exact ⟨looks_FnCanonParts, fun j t ht => by
        rw [Tryz.params3] at ht
        have hm : t ∈ [25] := by simpa using Array.mem_of_getElem? ht
        have hall : ([25].all fun u => !Tryz.prog.wantsStandIn u) = true := by kernel_rfl
        exact (show Tryz.prog.wantsStandIn t = false by simpa using List.all_eq_true.1 hall t hm)⟩)
    goesBy_FnCanonParts
#print axioms fnCanonParts_card
end Go.Proofs.YtjganhmbjffjfaaGreatDoor
