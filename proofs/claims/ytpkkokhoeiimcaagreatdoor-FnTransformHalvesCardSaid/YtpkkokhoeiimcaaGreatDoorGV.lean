/- Proved: laws.FnTransformHalves answers true at every two strings, unit, control byte and choices, and leaves its arguments as they read; under the row's cell 'laid' (package-level variables of Go's library start as its text lays them; the card ties them). -/
import Derived.Test.YtpkkokhoeiimcaaGreatDoorR6
import Derived.Test.YtpkkokhoeiimcaaGreatDoorG4
open Go Go.RowKit
namespace Go.Proofs.YtpkkokhoeiimcaaGreatDoor
open Go.ChangeShapes Go.WideShapes Go.ChangeAt Go.ChangeMaps
set_option maxRecDepth 100000 in
theorem lifted_FnTransformHalves (os : Os) (started : os.Started) (H : Type) (enc : TypeId × Value → H) :
    ReturnsInHanded {} Tryz.checked os 4 .any (fun w args => (Rows.fnTransformHalvesSpec.pre enc Tryz.prog Tryz.f4 [] false w args ∧ laidMetH Tryz.prog Rows.fnTransformHalvesRow.laid w) ∧ sizedMet enc Tryz.prog Tryz.f4 (OpenSpec.ofChange Rows.fnTransformHalvesSpec) false w args)
      (Rows.fnTransformHalvesSpec.post enc Tryz.prog Tryz.f4 false true false false) := by
  refine returnsInHanded_of_change_and (C := Tryz.checked) (X := fun w _ => laidMetH Tryz.prog Rows.fnTransformHalvesRow.laid w) (fun _ _ _ hh h => h.of_heap hh) own3 started (by kernel_rfl) Tryz.func4
    (ChangeSpec.witness_shaped (enc := enc) (C := Tryz.checked) (os := os) (X := fun w _ => laidMetH Tryz.prog Rows.fnTransformHalvesRow.laid w) false (World.laidAll Tryz.prog os Rows.fnTransformHalvesRow.laid) #[.string ⟨#[]⟩, .string ⟨#[]⟩, .int .u16 0, .int .u8 0, .slice none 0 0] 8 (World.laidAll_os _ _ _)
      (World.shaped_of_ZipB (by kernel_rfl) (by kernel_rfl)) (by kernel_rfl) (by kernel_rfl) (by kernel_rfl)
      (by rw [MakeChecks.laidMetH_plain _ _ _ (by kernel_rfl)]; exact laidMet_laidAll _ (by kernel_rfl) (by kernel_rfl))) ?_
  intro W base args ds gs before hval0 hW _ _ hL _
  have hval : ∀ (j : Nat) t v, Tryz.f4.params[j]? = some t → args[j]? = some v → Value.okWide Tryz.prog W .any base t v := hval0
  have hW' := hW
  obtain ⟨p, q, hA0, hV, rfl, _, _⟩ := hW
  have hA : DataW.TrodAll enc Tryz.prog W 0 (fun _ => true) true Tryz.f4.params.toList args.toList ds p := hA0
  rw [Tryz.params4] at hA hval
  obtain ⟨v0, v1, v2, v3, v4, d0, d1, d2, d3, d4, p0, p1, p2, p3, p4, rfl, rfl, rfl, h0, h1, h2, h3, h4⟩ := trodAll_five hA
  obtain ⟨rfl, rfl⟩ := trodVars_none hV
  obtain ⟨s0, rfl, rfl, rfl, hs0⟩ := open_string Tryz.underlying9 (hval 0 9 v0 rfl rfl) h0
  obtain ⟨s1, rfl, rfl, rfl, hs1⟩ := open_string Tryz.underlying9 (hval 1 9 v1 rfl rfl) h1
  obtain ⟨x2, rfl, rfl, rfl, hx2⟩ := open_int Tryz.underlying32 (hval 2 32 v2 rfl rfl) h2
  obtain ⟨x3, rfl, rfl, rfl, hx3⟩ := open_int Tryz.underlying5 (hval 3 5 v3 rfl rfl) h3
  obtain ⟨b4, hb4⟩ := bsrc_of (hval 4 22 v4 rfl rfl) h4
  have hlt4 : ∀ x ∈ p4, x.block < W.heap.size := fun x hx => by simpa using hW'.lt x (by simp [hx])
  rw [MakeChecks.laidMetH_plain _ _ _ (by kernel_rfl)] at hL
  have hT : TL W.heap.size W := tl_of (tl0_of hL (by simp [Rows.fnTransformHalvesRow]) (by simp [Rows.fnTransformHalvesRow]) (by simp [Rows.fnTransformHalvesRow]) (by simp [Rows.fnTransformHalvesRow]) (by simp [Rows.fnTransformHalvesRow]) (by simp [Rows.fnTransformHalvesRow]) (by simp [Rows.fnTransformHalvesRow]) (by simp [Rows.fnTransformHalvesRow]) (by simp [Rows.fnTransformHalvesRow])) rfl
  refine (fnTransformHalves_any s0 s1 x2 x3 hs0 hs1 hx2 hx3 hb4 hT).mono fun e W' ⟨he, hbl⟩ => ?_
  subst he
  exact ⟨_, rfl, _, _, _, [], _, [], hW', trodAll_mk1 (shut_bool Tryz.underlying4 _), trodAll_mk5 (shut_string Tryz.underlying9 hs0) (shut_string Tryz.underlying9 hs1) (shut_int Tryz.underlying32 hx2) (shut_int Tryz.underlying5 hx3) (Below.trod laidOut3 (by kernel_rfl) (of_decide_eq_true (by kernel_rfl)) h4 hbl hlt4), rfl, hbl.frame _, fun h => by cases h⟩
set_option maxRecDepth 100000 in
set_option maxHeartbeats 8000000 in
theorem closed_FnTransformHalves : joinedFacts Tryz.pinned.checked.prog 4 Tryz.f4 Rows.fnTransformHalvesSpec Rows.fnTransformHalvesRow = true := by
  unfold joinedFacts
  repeat' (with_reducible apply andB3)
  all_goals (as_aux_lemma => kernel_rfl)
theorem holds_FnTransformHalves : Rows.FnTransformHalvesSaid :=
  OpenClaim.holds_of_wide 4 Tryz.f4 rfl rfl rfl rfl rfl rfl rfl ⟨rfl, rfl, rfl, rfl, rfl⟩ rfl rfl rfl rfl rfl (by kernel_rfl) Tryz.func4 closed_FnTransformHalves
    (by as_aux_lemma => exact of_decide_eq_true (by kernel_rfl)) (by unfold Func.isWrapper; first | (rw [if_pos (by decide +kernel)]; kernel_rfl) | (rw [if_neg (by decide +kernel)]; exact ⟨rfl, rfl⟩))
    (fun os started H enc _ => lifted_FnTransformHalves os started H enc)
theorem fnTransformHalves_card : Rows.FnTransformHalvesCardSaid :=
  Claim7.holds_tied_plain_at .later [] [.data, .data, .widerDeep, .widerDeep, .data, .data, .data, .data, .data, .data, .sentinel, .sentinel, .sentinel, .pinned, .pinned, .pinned] true (true, "353220d5c2ae7e7d225d8d857a55baa9fd0367fa59144c0d13823aba7feaa28d") true holds_FnTransformHalves (fun _ h => by cases h) (by kernel_rfl) (fun _ h => by cases h) fnTransformHalves_row_tie rfl ⟨rfl, rfl⟩ (by kernel_rfl) rfl
    (fun f fn hf hfn => by
      obtain rfl : f = 4 := Option.some.inj ((show Tryz.prog.funcNamed "pub-typarium/laws.FnTransformHalves" = some 4 by kernel_rfl).symm.trans hf) |>.symm
      obtain rfl : fn = Tryz.f4 := (Option.some.inj (Tryz.func4.symm.trans hfn)).symm
      exact ⟨by kernel_rfl, fun j t ht => by
        rw [Tryz.params4] at ht
        have hm : t ∈ [9, 9, 32, 5, 22] := by simpa using Array.mem_of_getElem? ht
        have hall : ([9, 9, 32, 5, 22].all fun u => !Tryz.prog.wantsStandIn u) = true := by kernel_rfl
        exact (show Tryz.prog.wantsStandIn t = false by simpa using List.all_eq_true.1 hall t hm)⟩)
    (by kernel_rfl)
#print axioms fnTransformHalves_card
end Go.Proofs.YtpkkokhoeiimcaaGreatDoor
