/-
 Whatever is put, got, removed, cleared, counted and iterated in a script, by up to eight iterations at once: the law FnScript returns true, at every table and every script; its arguments read as before.
 Conditions: the library's table deBruijn64tab reads as its text lays it (tied by the card); the law itself bounds the sizes of what it is handed.
-/
import Derived.Test.YtddpfkcofmfmpaaGreatDoorQ29
import Derived.Test.YtddpfkcofmfmpaaGreatDoorCards
namespace Go.Proofs.YtddpfkcofmfmpaaGreatDoor
open Go Go.RowKit
open Go.ChangeShapes Go.WideShapes Go.ChangeAt
set_option maxRecDepth 100000 in
theorem lifted13 (os : Os) (started : os.Started) (H : Type) (enc : TypeId × Value → H) :
  ReturnsInHanded {} Tryz.checked os 13 .any (fun w args => (Rows.fnScriptSpec.pre enc Tryz.prog Tryz.f13 [] false w args ∧ laidMetH Tryz.prog laidDb w) ∧ sizedMet enc Tryz.prog Tryz.f13 (OpenSpec.ofChange Rows.fnScriptSpec) false w args)
   (Rows.fnScriptSpec.post enc Tryz.prog Tryz.f13 false true false false) := by
 refine returnsInHanded_of_change_and (C := Tryz.checked) (X := fun w _ => laidMetH Tryz.prog laidDb w) (fun _ _ _ hh h => h.of_heap hh) own started (by kernel_rfl) Tryz.func13
  (ChangeSpec.witness_shaped (enc := enc) (C := Tryz.checked) (os := os) (X := fun w _ => laidMetH Tryz.prog laidDb w) false (World.doorLaid Tryz.prog 14 os) #[.agg #[.bool false, .int .i64 0, .int .u64 0, .int .u64 0, .int .u64 0, .int .i64 0, .slice none 0 0], .slice none 0 0] 8 rfl (World.shaped_of_RefB (by kernel_rfl) (by kernel_rfl)) (by kernel_rfl) (by kernel_rfl) (by kernel_rfl) (door_met os _)) ?_
 intro W base args ds gs before hval0 hW _ _ hL _
 have hval : ∀ (j : Nat) t v, Tryz.f13.params[j]? = some t → args[j]? = some v → Value.okWide Tryz.prog W .any base t v := hval0
 have hW' := hW
 obtain ⟨p, q, hA0, hV, rfl, hfz, hnd⟩ := hW
 have hA : DataW.TrodAll enc Tryz.prog W 0 (fun _ => true) true Tryz.f13.params.toList args.toList ds p := hA0
 rw [Tryz.params13] at hA hval
 obtain ⟨v0, v1, d0, d1, p0, p1, rfl, rfl, rfl, h0, h1⟩ := trodAll_two hA
 obtain ⟨rfl, rfl⟩ := trodVars_none hV
 have hDb := hasDb_of hL
 have lt0 : ∀ x ∈ p0, x.block < W.heap.size := by obtain ⟨m, hm⟩ := h0; exact DataW.trod_lt m _ _ _ hm
 have lt1 : ∀ x ∈ p1, x.block < W.heap.size := by obtain ⟨m, hm⟩ := h1; exact DataW.trod_lt m _ _ _ hm
 obtain ⟨t, e0, ht, hR⟩ := tab_open (hval 0 27 v0 rfl rfl) h0
 obtain ⟨l, hty, hrd⟩ := steps_open (hval 1 30 v1 rfl rfl) h1
 clear hA0 hval0
 have run := walk13 hDb ht hR hty hrd
 rw [← e0] at run
 refine run.mono fun e W' ⟨he, bel⟩ => ?_
 subst he
 exact ⟨_, rfl, _, _, _, [], _, [], hW', trodAll_mk1 (shut_bool Tryz.underlying4 _), (trodAll_mk2 (Below.trod laidOut (by kernel_rfl) (of_decide_eq_true (by kernel_rfl)) h0 bel lt0) (Below.trod laidOut (by kernel_rfl) (of_decide_eq_true (by kernel_rfl)) h1 bel lt1)), rfl, bel.frame _, fun h => by cases h⟩
theorem fnScript_holds : Rows.FnScriptSaid :=
 OpenClaim.holds_of_wide 13 Tryz.f13 rfl rfl rfl rfl rfl rfl rfl ⟨rfl, rfl, rfl, rfl, rfl⟩ rfl rfl rfl rfl rfl (by kernel_rfl) Tryz.func13 (by kernel_rfl)
  (of_decide_eq_true (by kernel_rfl)) (by unfold Func.isWrapper; first | (rw [if_pos (by decide +kernel)]; kernel_rfl) | (rw [if_neg (by decide +kernel)]; exact ⟨rfl, rfl⟩))
  (fun os started H enc _ => lifted13 os started H enc)
theorem fnScript_card : Rows.FnScriptCardSaid :=
 Claim7.holds_tied_plain_at .later [] [.data] true (true, "90126d0d88ad080e19404430648cf5f7fba61eeb2d65f4e3e95714f42eea46f3") false
  fnScript_holds (fun _ h => by cases h) (by kernel_rfl) (fun _ h => by cases h) fnScript_row_tie rfl ⟨rfl, rfl⟩ (by kernel_rfl) rfl
  (fun f fn hf hfn => by
   obtain rfl : f = 13 := Option.some.inj ((show Tryz.prog.funcNamed "runtimemaps/laws.FnScript" = some 13 by kernel_rfl).symm.trans hf) |>.symm
   obtain rfl : fn = Tryz.f13 := (Option.some.inj (Tryz.func13.symm.trans hfn)).symm
   exact ⟨by kernel_rfl, fun j t ht => by
    rw [Tryz.params13] at ht
    have hm : t ∈ [27, 30] := by simpa using Array.mem_of_getElem? ht
    have hall : ([27, 30].all fun u => !Tryz.prog.wantsStandIn u) = true := by kernel_rfl
    exact (show Tryz.prog.wantsStandIn t = false by simpa using List.all_eq_true.1 hall t hm)⟩)
  (by kernel_rfl)
#print axioms fnScript_card
end Go.Proofs.YtddpfkcofmfmpaaGreatDoor
