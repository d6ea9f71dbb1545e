/- Proved: laws.FnUnique answers true at every metadata, and leaves its arguments as they read; under the row's cell 'laid' (package-level variables of Go's library start as its text lays them; the card ties them). -/
import Derived.Test.YthafpdceknleiaaGreatDoorM1
import Derived.Test.YthafpdceknleiaaGreatDoorG4
open Go Go.RowKit
namespace Go.Proofs.YthafpdceknleiaaGreatDoor
open Go.ChangeShapes Go.WideShapes Go.ChangeAt Go.ChangeMaps
set_option maxRecDepth 100000 in
theorem lifted_FnUnique (os : Os) (started : os.Started) (H : Type) (enc : TypeId × Value → H) :
    ReturnsInHanded {} Tryz.checked os 3 .any (fun w args => (Rows.fnUniqueSpec.pre enc Tryz.prog Tryz.f3 [] false w args ∧ laidMetH Tryz.prog Rows.fnUniqueRow.laid w) ∧ sizedMet enc Tryz.prog Tryz.f3 (OpenSpec.ofChange Rows.fnUniqueSpec) false w args)
      (Rows.fnUniqueSpec.post enc Tryz.prog Tryz.f3 false true false false) := by
  refine returnsInHanded_of_change_and (C := Tryz.checked) (X := fun w _ => laidMetH Tryz.prog Rows.fnUniqueRow.laid w) (fun _ _ _ hh h => h.of_heap hh) own3 started (by kernel_rfl) Tryz.func3
    (ChangeSpec.witness_shaped (enc := enc) (C := Tryz.checked) (os := os) (X := fun w _ => laidMetH Tryz.prog Rows.fnUniqueRow.laid w) false (World.laidAll Tryz.prog os Rows.fnUniqueRow.laid) #[.agg #[.string ⟨#[]⟩, .int .i64 0, .int .i64 0, .slice none 0 0, .slice none 0 0, .slice none 0 0, .bool false, .slice none 0 0, .bool false, .slice none 0 0, .bool false, .slice none 0 0, .int .i64 0, .int .i64 0, .string ⟨#[]⟩, .slice none 0 0, .slice none 0 0]] 8 (World.laidAll_os _ _ _)
      (World.shaped_of_ZipB (by kernel_rfl) (by kernel_rfl)) (by kernel_rfl) (by kernel_rfl) (by kernel_rfl)
      (by rw [MakeChecks.laidMetH_plain _ _ _ (by kernel_rfl)]; exact laidMet_laidAll _ (by kernel_rfl) (by kernel_rfl))) ?_
  intro W base args ds gs before hval0 hW _ hsz hL _
  have hval : ∀ (j : Nat) t v, Tryz.f3.params[j]? = some t → args[j]? = some v → Value.okWide Tryz.prog W .any base t v := hval0
  have hW' := hW
  obtain ⟨p, q, hA0, hV, rfl, _, _⟩ := hW
  have hA : DataW.TrodAll enc Tryz.prog W 0 (fun _ => true) true Tryz.f3.params.toList args.toList ds p := hA0
  rw [Tryz.params3] at hA hval hsz
  obtain ⟨v0, d0, rfl, rfl, h0⟩ := trodAll_one hA
  obtain ⟨rfl, rfl⟩ := trodVars_none hV
  obtain ⟨cs0, rfl, hv0⟩ := meta_of (wok_of hsz (j := 0) rfl rfl) (hval 0 34 v0 rfl rfl) h0
  have hlt0 : ∀ x ∈ p, x.block < W.heap.size := fun x hx => by simpa using hW'.lt x (by simp [hx])
  rw [MakeChecks.laidMetH_plain _ _ _ (by kernel_rfl)] at hL
  have hT : TL W.heap.size W := tl_of (tl0_of hL (by simp [Rows.fnUniqueRow]) (by simp [Rows.fnUniqueRow]) (by simp [Rows.fnUniqueRow]) (by simp [Rows.fnUniqueRow]) (by simp [Rows.fnUniqueRow]) (by simp [Rows.fnUniqueRow]) (by simp [Rows.fnUniqueRow]) (by simp [Rows.fnUniqueRow]) (by simp [Rows.fnUniqueRow])) rfl
  refine (fnUnique_any hv0 hT).mono fun e W' ⟨he, hbl⟩ => ?_
  subst he
  exact ⟨_, rfl, _, _, _, [], _, [], hW', trodAll_mk1 (shut_bool Tryz.underlying4 _), trodAll_mk1 (Below.trod laidOut3 (by kernel_rfl) (of_decide_eq_true (by kernel_rfl)) h0 hbl hlt0), rfl, hbl.frame _, fun h => by cases h⟩
set_option maxRecDepth 100000 in
set_option maxHeartbeats 8000000 in
theorem closed_FnUnique : joinedFacts Tryz.pinned.checked.prog 3 Tryz.f3 Rows.fnUniqueSpec Rows.fnUniqueRow = true := by
  unfold joinedFacts
  repeat' (with_reducible apply andB3)
  all_goals (as_aux_lemma => kernel_rfl)
theorem holds_FnUnique : Rows.FnUniqueSaid :=
  OpenClaim.holds_of_wide 3 Tryz.f3 rfl rfl rfl rfl rfl rfl rfl ⟨rfl, rfl, rfl, rfl, rfl⟩ rfl rfl rfl rfl rfl (by kernel_rfl) Tryz.func3 closed_FnUnique
    (by as_aux_lemma => exact of_decide_eq_true (by kernel_rfl)) (by unfold Func.isWrapper; first | (rw [if_pos (by decide +kernel)]; kernel_rfl) | (rw [if_neg (by decide +kernel)]; exact ⟨rfl, rfl⟩))
    (fun os started H enc _ => lifted_FnUnique os started H enc)
theorem fnUnique_card : Rows.FnUniqueCardSaid :=
  Claim7.holds_tied_plain_at .later [] [.data, .data, .widerDeep, .widerDeep, .data, .data, .data, .data, .data, .data, .sentinel, .sentinel, .sentinel, .pinned, .pinned, .pinned] true (true, "2786bd6211abb01fe80eb64d308d5a004f684398141fe67d66a56359ba038c79") true holds_FnUnique (fun _ h => by cases h) (by kernel_rfl) (fun _ h => by cases h) fnUnique_row_tie rfl ⟨rfl, rfl⟩ (by kernel_rfl) rfl
    (fun f fn hf hfn => by
      obtain rfl : f = 3 := Option.some.inj ((show Tryz.prog.funcNamed "pub-typarium/laws.FnUnique" = some 3 by kernel_rfl).symm.trans hf) |>.symm
      obtain rfl : fn = Tryz.f3 := (Option.some.inj (Tryz.func3.symm.trans hfn)).symm
      exact ⟨by kernel_rfl, fun j t ht => by
        rw [Tryz.params3] at ht
        have hm : t ∈ [34] := by simpa using Array.mem_of_getElem? ht
        have hall : ([34].all fun u => !Tryz.prog.wantsStandIn u) = true := by kernel_rfl
        exact (show Tryz.prog.wantsStandIn t = false by simpa using List.all_eq_true.1 hall t hm)⟩)
    (by kernel_rfl)
#print axioms fnUnique_card
end Go.Proofs.YthafpdceknleiaaGreatDoor
