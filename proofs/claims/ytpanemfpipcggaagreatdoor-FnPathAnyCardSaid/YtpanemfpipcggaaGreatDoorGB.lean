/- Proved: laws.FnPathAny answers true at every list of patterns and path, and leaves its arguments as they read; under the row's cell 'laid' (package-level variables of Go's library start as its text lays them; the card ties them). -/
import Derived.Test.YtpanemfpipcggaaGreatDoorFP
import Derived.Test.YtpanemfpipcggaaGreatDoorFG
import Derived.Test.YtpanemfpipcggaaGreatDoorG4
import Derived.Test.YtpanemfpipcggaaGreatDoorHB
open Go Go.RowKit
namespace Go.Proofs.YtpanemfpipcggaaGreatDoor
open Go.ChangeShapes Go.WideShapes Go.ChangeAt Go.ChangeMaps
set_option maxRecDepth 100000 in
theorem lifted_FnPathAny (os : Os) (started : os.Started) (H : Type) (enc : TypeId × Value → H) :
    ReturnsInHanded {} Tryz.checked os 7 .any (fun w args => (Rows.fnPathAnySpec.pre enc Tryz.prog Tryz.f7 [] false w args ∧ laidMetH Tryz.prog Rows.fnPathAnyRow.laid w) ∧ sizedMet enc Tryz.prog Tryz.f7 (OpenSpec.ofChange Rows.fnPathAnySpec) false w args)
      (Rows.fnPathAnySpec.post enc Tryz.prog Tryz.f7 false true false false) := by
  refine returnsInHanded_of_change_and (C := Tryz.checked) (X := fun w _ => laidMetH Tryz.prog Rows.fnPathAnyRow.laid w) (fun _ _ _ hh h => h.of_heap hh) own3 started (by kernel_rfl) Tryz.func7
    (ChangeSpec.witness_shaped (enc := enc) (C := Tryz.checked) (os := os) (X := fun w _ => laidMetH Tryz.prog Rows.fnPathAnyRow.laid w) false (World.laidAll Tryz.prog os Rows.fnPathAnyRow.laid) #[.slice none 0 0, .string ⟨#[]⟩] 8 (World.laidAll_os _ _ _)
      (World.shaped_of_ZipB (by kernel_rfl) (by kernel_rfl)) (by kernel_rfl) (by kernel_rfl) (by kernel_rfl)
      (by rw [MakeChecks.laidMetH_plain _ _ _ (by kernel_rfl)]; exact laidMet_laidAll _ (by kernel_rfl) (by kernel_rfl))) ?_
  intro W base args ds gs before hval0 hW _ hsz hL _
  have hval : ∀ (j : Nat) t v, Tryz.f7.params[j]? = some t → args[j]? = some v → Value.okWide Tryz.prog W .any base t v := hval0
  have hW' := hW
  obtain ⟨p, q, hA0, hV, rfl, _, _⟩ := hW
  have hA : DataW.TrodAll enc Tryz.prog W 0 (fun _ => true) true Tryz.f7.params.toList args.toList ds p := hA0
  rw [Tryz.params7] at hA hval hsz
  obtain ⟨v0, v1, d0, d1, p0, p1, rfl, rfl, rfl, h0, h1⟩ := trodAll_two hA
  obtain ⟨rfl, rfl⟩ := trodVars_none hV
  obtain ⟨l0, hv0⟩ := strs_of (wok_of hsz (j := 0) rfl rfl) (hval 0 22 v0 rfl rfl) h0
  have hlt0 : ∀ x ∈ p0, x.block < W.heap.size := fun x hx => by simpa using hW'.lt x (by simp [hx])
  obtain ⟨s1, rfl, rfl, rfl, hs1⟩ := open_string Tryz.underlying9 (hval 1 9 v1 rfl rfl) h1
  rw [MakeChecks.laidMetH_plain _ _ _ (by kernel_rfl)] at hL
  have hT : TL W.heap.size W := tl_of (tl0_of hL (by simp [Rows.fnPathAnyRow]) (by simp [Rows.fnPathAnyRow]) (by simp [Rows.fnPathAnyRow]) (by simp [Rows.fnPathAnyRow]) (by simp [Rows.fnPathAnyRow]) (by simp [Rows.fnPathAnyRow]) (by simp [Rows.fnPathAnyRow]) (by simp [Rows.fnPathAnyRow]) (by simp [Rows.fnPathAnyRow])) rfl
  refine (fnPathAny_any s1 hv0 (wok_of hsz (j := 1) rfl rfl).str hT).mono fun e W' ⟨he, hbl⟩ => ?_
  subst he
  exact ⟨_, rfl, _, _, _, [], _, [], hW', trodAll_mk1 (shut_bool Tryz.underlying4 _), trodAll_mk2 (Below.trod laidOut3 (by kernel_rfl) (of_decide_eq_true (by kernel_rfl)) h0 hbl hlt0) (shut_string Tryz.underlying9 hs1), rfl, hbl.frame _, fun h => by cases h⟩
set_option maxRecDepth 100000 in
set_option maxHeartbeats 8000000 in
theorem closed_FnPathAny : joinedFacts Tryz.pinned.checked.prog 7 Tryz.f7 Rows.fnPathAnySpec Rows.fnPathAnyRow = true := by
  unfold joinedFacts
  repeat' (with_reducible apply andB3)
  all_goals (as_aux_lemma => kernel_rfl)
theorem holds_FnPathAny : Rows.FnPathAnySaid :=
  OpenClaim.holds_of_wide 7 Tryz.f7 rfl rfl rfl rfl rfl rfl rfl ⟨rfl, rfl, rfl, rfl, rfl⟩ rfl rfl rfl rfl rfl (by kernel_rfl) Tryz.func7 closed_FnPathAny
    (by as_aux_lemma => exact of_decide_eq_true (by kernel_rfl)) (by unfold Func.isWrapper; first | (rw [if_pos (by decide +kernel)]; kernel_rfl) | (rw [if_neg (by decide +kernel)]; exact ⟨rfl, rfl⟩))
    (fun os started H enc _ => lifted_FnPathAny os started H enc)
theorem fnPathAny_card : Rows.FnPathAnyCardSaid :=
  Claim7.holds_tied_plain_at .later [] [.data, .data, .widerDeep, .widerDeep, .data, .data, .data, .data, .data, .data, .sentinel, .sentinel, .sentinel, .sentinel, .pinned, .pinned, .pinned] true (true, "76c6ae7f97e934b3c32c1c111542b85aea2f054f0d6ca39c84cf1d2ccdca3d35") true holds_FnPathAny (fun _ h => by cases h) wfText_FnPathAny (fun _ h => by cases h) fnPathAny_row_tie rfl ⟨rfl, rfl⟩ mainIs_FnPathAny rfl
    (fun f fn hf hfn => by
      obtain rfl : f = 7 := Option.some.inj (named_FnPathAny.symm.trans hf) |>.symm
      obtain rfl : fn = Tryz.f7 := (Option.some.inj (Tryz.func7.symm.trans hfn)).symm
      exact ⟨looks_FnPathAny, fun j t ht => by
        rw [Tryz.params7] at ht
        have hm : t ∈ [22, 9] := by simpa using Array.mem_of_getElem? ht
        have hall : ([22, 9].all fun u => !Tryz.prog.wantsStandIn u) = true := by kernel_rfl
        exact (show Tryz.prog.wantsStandIn t = false by simpa using List.all_eq_true.1 hall t hm)⟩)
    goesBy_FnPathAny
#print axioms fnPathAny_card
end Go.Proofs.YtpanemfpipcggaaGreatDoor
