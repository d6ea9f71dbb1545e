/- Proved: laws.FnTransformString answers true at every string and choices, and leaves its arguments as they read; under the row's cell 'laid' (package-level variables of Go's library start as its text lays them; the card ties them). -/
import Derived.Test.YtpkkokhoeiimcaaGreatDoorR3
import Derived.Test.YtpkkokhoeiimcaaGreatDoorG4
open Go Go.RowKit
namespace Go.Proofs.YtpkkokhoeiimcaaGreatDoor
open Go.ChangeShapes Go.WideShapes Go.ChangeAt Go.ChangeMaps
set_option maxRecDepth 100000 in
theorem lifted_FnTransformString (os : Os) (started : os.Started) (H : Type) (enc : TypeId × Value → H) :
    ReturnsInHanded {} Tryz.checked os 3 .any (fun w args => (Rows.fnTransformStringSpec.pre enc Tryz.prog Tryz.f3 [] false w args ∧ laidMetH Tryz.prog Rows.fnTransformStringRow.laid w) ∧ sizedMet enc Tryz.prog Tryz.f3 (OpenSpec.ofChange Rows.fnTransformStringSpec) false w args)
      (Rows.fnTransformStringSpec.post enc Tryz.prog Tryz.f3 false true false false) := by
  refine returnsInHanded_of_change_and (C := Tryz.checked) (X := fun w _ => laidMetH Tryz.prog Rows.fnTransformStringRow.laid w) (fun _ _ _ hh h => h.of_heap hh) own3 started (by kernel_rfl) Tryz.func3
    (ChangeSpec.witness_shaped (enc := enc) (C := Tryz.checked) (os := os) (X := fun w _ => laidMetH Tryz.prog Rows.fnTransformStringRow.laid w) false (World.laidAll Tryz.prog os Rows.fnTransformStringRow.laid) #[.string ⟨#[]⟩, .slice none 0 0] 8 (World.laidAll_os _ _ _)
      (World.shaped_of_ZipB (by kernel_rfl) (by kernel_rfl)) (by kernel_rfl) (by kernel_rfl) (by kernel_rfl)
      (by rw [MakeChecks.laidMetH_plain _ _ _ (by kernel_rfl)]; exact laidMet_laidAll _ (by kernel_rfl) (by kernel_rfl))) ?_
  intro W base args ds gs before hval0 hW _ _ hL _
  have hval : ∀ (j : Nat) t v, Tryz.f3.params[j]? = some t → args[j]? = some v → Value.okWide Tryz.prog W .any base t v := hval0
  have hW' := hW
  obtain ⟨p, q, hA0, hV, rfl, _, _⟩ := hW
  have hA : DataW.TrodAll enc Tryz.prog W 0 (fun _ => true) true Tryz.f3.params.toList args.toList ds p := hA0
  rw [Tryz.params3] at hA hval
  obtain ⟨v0, v1, d0, d1, p0, p1, rfl, rfl, rfl, h0, h1⟩ := trodAll_two hA
  obtain ⟨rfl, rfl⟩ := trodVars_none hV
  obtain ⟨s0, rfl, rfl, rfl, hs0⟩ := open_string Tryz.underlying9 (hval 0 9 v0 rfl rfl) h0
  obtain ⟨b1, hb1⟩ := bsrc_of (hval 1 22 v1 rfl rfl) h1
  have hlt1 : ∀ x ∈ p1, x.block < W.heap.size := fun x hx => by simpa using hW'.lt x (by simp [hx])
  rw [MakeChecks.laidMetH_plain _ _ _ (by kernel_rfl)] at hL
  have hT : TL W.heap.size W := tl_of (tl0_of hL (by simp [Rows.fnTransformStringRow]) (by simp [Rows.fnTransformStringRow]) (by simp [Rows.fnTransformStringRow]) (by simp [Rows.fnTransformStringRow]) (by simp [Rows.fnTransformStringRow]) (by simp [Rows.fnTransformStringRow]) (by simp [Rows.fnTransformStringRow]) (by simp [Rows.fnTransformStringRow]) (by simp [Rows.fnTransformStringRow])) rfl
  refine (fnTransformString_any s0 hs0 hb1 hT).mono fun e W' ⟨he, hbl⟩ => ?_
  subst he
  exact ⟨_, rfl, _, _, _, [], _, [], hW', trodAll_mk1 (shut_bool Tryz.underlying4 _), trodAll_mk2 (shut_string Tryz.underlying9 hs0) (Below.trod laidOut3 (by kernel_rfl) (of_decide_eq_true (by kernel_rfl)) h1 hbl hlt1), rfl, hbl.frame _, fun h => by cases h⟩
set_option maxRecDepth 100000 in
set_option maxHeartbeats 8000000 in
theorem closed_FnTransformString : joinedFacts Tryz.pinned.checked.prog 3 Tryz.f3 Rows.fnTransformStringSpec Rows.fnTransformStringRow = true := by
  unfold joinedFacts
  repeat' (with_reducible apply andB3)
  all_goals (as_aux_lemma => kernel_rfl)
theorem holds_FnTransformString : Rows.FnTransformStringSaid :=
  OpenClaim.holds_of_wide 3 Tryz.f3 rfl rfl rfl rfl rfl rfl rfl ⟨rfl, rfl, rfl, rfl, rfl⟩ rfl rfl rfl rfl rfl (by kernel_rfl) Tryz.func3 closed_FnTransformString
    (by as_aux_lemma => exact of_decide_eq_true (by kernel_rfl)) (by unfold Func.isWrapper; first | (rw [if_pos (by decide +kernel)]; kernel_rfl) | (rw [if_neg (by decide +kernel)]; exact ⟨rfl, rfl⟩))
    (fun os started H enc _ => lifted_FnTransformString os started H enc)
theorem fnTransformString_card : Rows.FnTransformStringCardSaid :=
  Claim7.holds_tied_plain_at .later [] [.data, .data, .widerDeep, .widerDeep, .data, .data, .data, .data, .data, .data, .sentinel, .sentinel, .sentinel, .pinned, .pinned, .pinned] true (true, "353220d5c2ae7e7d225d8d857a55baa9fd0367fa59144c0d13823aba7feaa28d") true holds_FnTransformString (fun _ h => by cases h) (by kernel_rfl) (fun _ h => by cases h) fnTransformString_row_tie rfl ⟨rfl, rfl⟩ (by kernel_rfl) rfl
    (fun f fn hf hfn => by
      obtain rfl : f = 3 := Option.some.inj ((show Tryz.prog.funcNamed "pub-typarium/laws.FnTransformString" = some 3 by kernel_rfl).symm.trans hf) |>.symm
      obtain rfl : fn = Tryz.f3 := (Option.some.inj (Tryz.func3.symm.trans hfn)).symm
      exact ⟨by kernel_rfl, fun j t ht => by
        rw [Tryz.params3] at ht
        have hm : t ∈ [9, 22] := by simpa using Array.mem_of_getElem? ht
        have hall : ([9, 22].all fun u => !Tryz.prog.wantsStandIn u) = true := by kernel_rfl
        exact (show Tryz.prog.wantsStandIn t = false by simpa using List.all_eq_true.1 hall t hm)⟩)
    (by kernel_rfl)
#print axioms fnTransformString_card
end Go.Proofs.YtpkkokhoeiimcaaGreatDoor
