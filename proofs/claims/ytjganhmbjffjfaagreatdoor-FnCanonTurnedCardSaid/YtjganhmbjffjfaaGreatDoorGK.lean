/- Proved: laws.FnCanonTurned answers true at every value and choices, and leaves its arguments as they read; under the row's cell 'laid' (package-level variables of Go's library start as its text lays them; the card ties them). -/
import Derived.Test.YtjganhmbjffjfaaGreatDoorZH
import Derived.Test.YtjganhmbjffjfaaGreatDoorG4
import Derived.Test.YtjganhmbjffjfaaGreatDoorHK
open Go Go.RowKit
namespace Go.Proofs.YtjganhmbjffjfaaGreatDoor
open Go.ChangeShapes Go.WideShapes Go.ChangeAt Go.ChangeMaps
set_option maxRecDepth 100000 in
theorem lifted_FnCanonTurned (os : Os) (started : os.Started) (H : Type) (enc : TypeId × Value → H) :
    ReturnsInHanded {} Tryz.checked os 4 .any (fun w args => (Rows.fnCanonTurnedSpec.pre enc Tryz.prog Tryz.f4 [] false w args ∧ laidMetH Tryz.prog Rows.fnCanonTurnedRow.laid w) ∧ sizedMet enc Tryz.prog Tryz.f4 (OpenSpec.ofChange Rows.fnCanonTurnedSpec) false w args)
      (Rows.fnCanonTurnedSpec.post enc Tryz.prog Tryz.f4 false true false false) := by
  refine returnsInHanded_of_change_and (C := Tryz.checked) (X := fun w _ => laidMetH Tryz.prog Rows.fnCanonTurnedRow.laid w) (fun _ _ _ hh h => h.of_heap hh) own3 started (by kernel_rfl) Tryz.func4
    (ChangeSpec.witness_shaped (enc := enc) (C := Tryz.checked) (os := os) (X := fun w _ => laidMetH Tryz.prog Rows.fnCanonTurnedRow.laid w) false (World.laidAll Tryz.prog os Rows.fnCanonTurnedRow.laid) #[.agg #[.string ⟨#[]⟩, .string ⟨#[]⟩, .slice none 0 0, .slice none 0 0], .slice none 0 0] 8 (World.laidAll_os _ _ _)
      (World.shaped_of_ZipB (by kernel_rfl) (by kernel_rfl)) (by kernel_rfl) (by kernel_rfl) (by kernel_rfl)
      (by rw [MakeChecks.laidMetH_plain _ _ _ (by kernel_rfl)]; exact laidMet_laidAll _ (by kernel_rfl) (by kernel_rfl))) ?_
  intro W base args ds gs before hval0 hW _ hsz hL _
  have hval : ∀ (j : Nat) t v, Tryz.f4.params[j]? = some t → args[j]? = some v → Value.okWide Tryz.prog W .any base t v := hval0
  have hW' := hW
  obtain ⟨p, q, hA0, hV, rfl, _, _⟩ := hW
  have hA : DataW.TrodAll enc Tryz.prog W 0 (fun _ => true) true Tryz.f4.params.toList args.toList ds p := hA0
  rw [Tryz.params4] at hA hval hsz
  obtain ⟨v0, v1, d0, d1, p0, p1, rfl, rfl, rfl, h0, h1⟩ := trodAll_two hA
  obtain ⟨rfl, rfl⟩ := trodVars_none hV
  obtain ⟨vt0, hv0⟩ := vr_of (wok_of hsz (j := 0) rfl rfl) (hval 0 25 v0 rfl rfl) h0
  have hlt0 : ∀ x ∈ p0, x.block < W.heap.size := fun x hx => by simpa using hW'.lt x (by simp [hx])
  obtain ⟨b1, hb1⟩ := bsrc_of (hval 1 31 v1 rfl rfl) h1
  have hlt1 : ∀ x ∈ p1, x.block < W.heap.size := fun x hx => by simpa using hW'.lt x (by simp [hx])
  rw [MakeChecks.laidMetH_plain _ _ _ (by kernel_rfl)] at hL
  have hT : TL W.heap.size W := tl_of (tl0_of hL (by simp [Rows.fnCanonTurnedRow]) (by simp [Rows.fnCanonTurnedRow]) (by simp [Rows.fnCanonTurnedRow]) (by simp [Rows.fnCanonTurnedRow]) (by simp [Rows.fnCanonTurnedRow]) (by simp [Rows.fnCanonTurnedRow]) (by simp [Rows.fnCanonTurnedRow]) (by simp [Rows.fnCanonTurnedRow]) (by simp [Rows.fnCanonTurnedRow])) rfl
  refine (fnCanonTurned_any hv0 hb1 hT).mono fun e W' ⟨he, hbl⟩ => ?_
  subst he
  exact ⟨_, rfl, _, _, _, [], _, [], hW', trodAll_mk1 (shut_bool Tryz.underlying4 _), trodAll_mk2 (Below.trod laidOut3 (by kernel_rfl) (of_decide_eq_true (by kernel_rfl)) h0 hbl hlt0) (Below.trod laidOut3 (by kernel_rfl) (of_decide_eq_true (by kernel_rfl)) h1 hbl hlt1), rfl, hbl.frame _, fun h => by cases h⟩
set_option maxRecDepth 100000 in
set_option maxHeartbeats 8000000 in
theorem closed_FnCanonTurned : joinedFacts Tryz.pinned.checked.prog 4 Tryz.f4 Rows.fnCanonTurnedSpec Rows.fnCanonTurnedRow = true := by
  unfold joinedFacts
  repeat' (with_reducible apply andB3)
  all_goals (as_aux_lemma => kernel_rfl)
theorem holds_FnCanonTurned : Rows.FnCanonTurnedSaid :=
  OpenClaim.holds_of_wide 4 Tryz.f4 rfl rfl rfl rfl rfl rfl rfl ⟨rfl, rfl, rfl, rfl, rfl⟩ rfl rfl rfl rfl rfl (by kernel_rfl) Tryz.func4 closed_FnCanonTurned
    (by as_aux_lemma => exact of_decide_eq_true (by kernel_rfl)) (by unfold Func.isWrapper; first | (rw [if_pos (by decide +kernel)]; kernel_rfl) | (rw [if_neg (by decide +kernel)]; exact ⟨rfl, rfl⟩))
    (fun os started H enc _ => lifted_FnCanonTurned os started H enc)
theorem fnCanonTurned_card : Rows.FnCanonTurnedCardSaid :=
  Claim7.holds_tied_plain_at .later [] [.data, .data, .widerDeep, .widerDeep, .data, .data, .data, .data, .data, .data, .sentinel, .sentinel, .sentinel, .pinned, .pinned, .pinned] true (true, "a629147119de596a5d82fee5b4caf6a4767b7d9b550a92c00452b1df7b693d14") true holds_FnCanonTurned (fun _ h => by cases h) wfText_FnCanonTurned (fun _ h => by cases h) fnCanonTurned_row_tie rfl ⟨rfl, rfl⟩ mainIs_FnCanonTurned rfl
    (fun f fn hf hfn => by
      obtain rfl : f = 4 := Option.some.inj (named_FnCanonTurned.symm.trans hf) |>.symm
      obtain rfl : fn = Tryz.f4 := (Option.some.inj (Tryz.func4.symm.trans hfn)).symm
      exact ⟨looks_FnCanonTurned, fun j t ht => by
        rw [Tryz.params4] at ht
        have hm : t ∈ [25, 31] := by simpa using Array.mem_of_getElem? ht
        have hall : ([25, 31].all fun u => !Tryz.prog.wantsStandIn u) = true := by kernel_rfl
        exact (show Tryz.prog.wantsStandIn t = false by simpa using List.all_eq_true.1 hall t hm)⟩)
    goesBy_FnCanonTurned
#print axioms fnCanonTurned_card
end Go.Proofs.YtjganhmbjffjfaaGreatDoor
