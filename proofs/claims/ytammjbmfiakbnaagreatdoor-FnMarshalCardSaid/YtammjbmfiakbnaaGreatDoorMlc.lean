/- The card of laws.FnMarshal is proved: whatever comes in, the law answers true and what came in reads as it did. No conditions. -/
import Derived.Test.YtammjbmfiakbnaaGreatDoorCards
import Derived.Test.YtammjbmfiakbnaaGreatDoorTie
import Derived.Test.YtammjbmfiakbnaaGreatDoorM03
import Derived.Test.YtammjbmfiakbnaaGreatDoorFnm
import Derived.Test.YtammjbmfiakbnaaGreatDoorMle
import Derived.Test.YtammjbmfiakbnaaGreatDoorMlj
import Derived.LaidMore
import Derived.Stop.Joined
import Derived.ChangeOld
import Derived.Below
import Derived.SevenTiedAt
set_option linter.unusedSimpArgs false
set_option linter.unusedVariables false
namespace Go.Proofs.YtammjbmfiakbnaaGreatDoor
open Go.ChangeShapes Go.WideShapes Go.ChangeAt Go.RowKit
theorem ownM : ownKnob Tryz.prog.godebug = none := by kernel_rfl
theorem laidOutM : laidOutB Tryz.prog = true := by kernel_rfl
/-- The door's own heap meets the condition: three closed facts. -/
theorem door_metM (os : Os) (args : Array Value) : laidMetH Tryz.prog Rows.fnMarshalRow.laid ((World.doorLaid Tryz.prog 400 os).forCall (fun _ _ => 0) ⟨#[], args, []⟩).memory :=
 laidMetH_of_parts3 (fuel := 8) (laidMet_of_run' 8 (by kernel_rfl) (by kernel_rfl)) (by kernel_rfl) (by kernel_rfl)
set_option maxRecDepth 100000 in
theorem fnMarshal_lifted (os : Os) (started : os.Started) (H : Type) (enc : TypeId × Value → H) :
  ReturnsInHanded {} Tryz.checked os 3 .any (fun w args => (Rows.fnMarshalSpec.pre enc Tryz.prog Tryz.f3 [] false w args ∧ laidMetH Tryz.prog Rows.fnMarshalRow.laid w) ∧ sizedMet enc Tryz.prog Tryz.f3 (OpenSpec.ofChange Rows.fnMarshalSpec) false w args)
   (Rows.fnMarshalSpec.post enc Tryz.prog Tryz.f3 false true false false) := by
 refine returnsInHanded_of_change_and (C := Tryz.checked) (X := fun w _ => laidMetH Tryz.prog Rows.fnMarshalRow.laid w) (fun _ _ _ hh h => h.of_heap hh) ownM started (by kernel_rfl) Tryz.func3
  (ChangeSpec.witness_shaped (enc := enc) (C := Tryz.checked) (os := os) (X := fun w _ => laidMetH Tryz.prog Rows.fnMarshalRow.laid w) false (World.doorLaid Tryz.prog 400 os) #[.agg #[.int .i64 0, .slice none 0 0, .slice none 0 0], .agg #[.bool false, .int .i64 0, .float .f64 0, .string ⟨#[]⟩, .slice none 0 0, .int .i64 0, .int .i64 0, .int .i64 0, .int .i64 0, .slice none 0 0, .slice none 0 0]] 8 rfl (World.shaped_of_RefB (by kernel_rfl) (by kernel_rfl)) (by kernel_rfl) (by kernel_rfl) (by kernel_rfl) (door_metM os _)) ?_
 intro W base args ds gs before hval0 hW _ hwt hL _
 have hval : ∀ (j : Nat) t v, Tryz.f3.params[j]? = some t → args[j]? = some v → Value.okWide Tryz.prog W .any base t v := hval0
 have hW' := hW
 obtain ⟨p, q, hA0, hV, rfl, hfz, hnd⟩ := hW
 have hA : DataW.TrodAll enc Tryz.prog W 0 (fun _ => true) true Tryz.f3.params.toList args.toList ds p := hA0
 have hwt' : (DataW.weightsEach Tryz.prog (Tryz.f3.params.toList ++ []) (ds ++ gs)).all (· ≤ reachBytes) = true := hwt
 rw [Tryz.params3] at hA hval hwt'
 obtain ⟨v0, vs0, d0, ds0, p0, q0, hargs, rfl, rfl, h0, r0⟩ := trodAll_cons hA
 obtain ⟨v1, vs1, d1, ds1, p1, q1, rfl, rfl, rfl, h1, r1⟩ := trodAll_cons r0
 obtain ⟨rfl, rfl, rfl⟩ := trodAll_nil r1
 obtain rfl : args = #[v0, v1] := by cases args; simp_all
 obtain ⟨rfl, rfl⟩ := trodVars_none hV
 obtain ⟨cs, rfl, _⟩ := okWide_struct Tryz.underlying25 (hval 0 25 v0 rfl rfl)
 obtain ⟨cs1, rfl, _⟩ := okWide_struct Tryz.underlying30 (hval 1 30 v1 rfl rfl)
 have k0 := h0
 have k1 := h1
 have lt0 : ∀ x ∈ p0, x.block < W.heap.size := by obtain ⟨m, hm⟩ := k0; exact DataW.trod_lt m _ _ _ hm
 have lt1 : ∀ x ∈ p1, x.block < W.heap.size := by obtain ⟨m, hm⟩ := k1; exact DataW.trod_lt m _ _ _ hm
 obtain ⟨m, hm⟩ := h0
 obtain ⟨T, hT⟩ := tyAt_trod m _ _ hm
 have hT' : TyIn W (.agg cs) T := ⟨m, by simpa [Value.cells] using hT⟩
 obtain ⟨m1, hm1⟩ := h1
 have hlow : Low 30 d1 := fun n hn => by
  have hmem : n ∈ DataW.weightsEach Tryz.prog [25, 30] [d0, d1] := mem_each [25, 30] [d0, d1] 1 30 d1 n rfl rfl hn
  have := List.all_eq_true.1 hwt' n (by simpa using hmem)
  exact of_decide_eq_true this
 obtain ⟨V, hV1⟩ := vlAt_trod m1 _ _ hm1 hlow
 have hV' : VlIn W cs1.toList V := ⟨m1, by simpa [Value.cells] using hV1⟩
 clear hA0 hval0
 simp only [List.append_nil] at hW'
 have hcall := fnMarshal_any (.agg cs) T cs1.toList V W hT' hV' (eof_laid hL)
 refine hcall.mono fun e W' ⟨he, bel⟩ => ?_
 subst he
 exact ⟨_, rfl, _, _, _, [], _, [], hW', trodAll_mk1 (shut_bool Tryz.underlying4 _), (trodAll_cons_mk (Below.trod laidOutM (by kernel_rfl) (of_decide_eq_true (by kernel_rfl)) k0 bel lt0) (trodAll_cons_mk (Below.trod laidOutM (by kernel_rfl) (of_decide_eq_true (by kernel_rfl)) k1 bel lt1) trodAll_mk0)), rfl, Below.frame bel _, fun h => by cases h⟩
theorem fnMarshal_holds : Rows.FnMarshalSaid :=
 OpenClaim.holds_of_wide 3 Tryz.f3 rfl rfl rfl rfl rfl rfl rfl ⟨rfl, rfl, rfl, rfl, rfl⟩ rfl rfl rfl rfl rfl (by kernel_rfl) Tryz.func3 marshal_joined
  (of_decide_eq_true (by kernel_rfl)) (by unfold Func.isWrapper; first | (rw [if_pos (by decide +kernel)]; kernel_rfl) | (rw [if_neg (by decide +kernel)]; exact ⟨rfl, rfl⟩))
  (fun os started H enc _ => fnMarshal_lifted os started H enc)
/-- The card. -/
theorem fnMarshal_card : Rows.FnMarshalCardSaid :=
 Claim7.holds_tied_plain_at .later [] [.data, .data, .data, .data, .sentinel, .sentinel, .sentinel, .mapped, .sentinel, .sentinel, .sentinel, .sentinel, .sentinel] true (true, "35c6bae85c69663d47c6d9ec433ea2f02a55463b6f8cea1dd4e6060586ae50d3") true
  fnMarshal_holds (fun _ h => by cases h) (by kernel_rfl) (fun _ h => by cases h) fnMarshal_row_tie rfl ⟨rfl, rfl⟩ (by kernel_rfl) rfl
  (fun f fn hf hfn => by
   obtain rfl : f = 3 := Option.some.inj ((show Tryz.prog.funcNamed "gocqlframes/laws.FnMarshal" = some 3 by kernel_rfl).symm.trans hf) |>.symm
   obtain rfl : fn = Tryz.f3 := (Option.some.inj (Tryz.func3.symm.trans hfn)).symm
   exact ⟨by kernel_rfl, fun j t ht => by
    rw [Tryz.params3] at ht
    have hm : t ∈ [25, 30] := by simpa using Array.mem_of_getElem? ht
    have hall : ([25, 30].all fun u => !Tryz.prog.wantsStandIn u) = true := by kernel_rfl
    exact (show Tryz.prog.wantsStandIn t = false by simpa using List.all_eq_true.1 hall t hm)⟩)
  (by kernel_rfl)
#print axioms fnMarshal_card
end Go.Proofs.YtammjbmfiakbnaaGreatDoor
