/-
 An iteration over a map that does not change produces each entry once, and then nothing: the law FnWhole returns true, at every table and all keys.
 Conditions: the library's table deBruijn64tab reads as its text lays it (tied by the card); the law itself bounds the sizes of what it is handed.
-/
import Derived.Test.YtddpfkcofmfmpaaGreatDoorQ29
namespace Go.Proofs.YtddpfkcofmfmpaaGreatDoor
open Go Go.RowKit
open Go.ChangeShapes Go.WideShapes Go.ChangeAt
set_option maxRecDepth 20000
theorem walk16 {w0 : World} (hDb : HasDb w0) {t : TabV} (ht : t.OK) (hR : OffRd w0 t) {v : Value} {ks : List Nat} (hk : KeysR w0 noH v ks) :
  Calls Tryz.prog 16 [.agg t.cells.toArray, v].toArray w0 (True0 w0) := by
 obtain ⟨ao, cap, rfl, hcap⟩ := hk.shape
 refine calls_start Tryz.func16 rfl Tryz.ntmps16 (Nat.le_of_ble_eq_true rfl) ?_
 have hM := mem0 w0
 refine rs hM ?_
 refine rw_boxN (v := .agg t.cells.toArray) rfl rfl rfl (fun b2 G2 n2 l2 e2 k2 => ?_)
 refine asg ?_
 refine rw_nil ?_; intro w hM
 have e2' : G2 b2 = some (encTab t) := e2
 refine wp_seq_mid (fun f w => Know f [(1, .slice ao ks.length cap), (2, .pointer (some ⟨b2, 0, none⟩))] ∧ Mem w0 w G2 ∧ t.on ≤ 2147483647 ∧ ¬ (ks.length : Int) > 2147483647) ?_ ?_
 ·by_cases h0 : t.on ≤ 2147483647
  ·skip
   by_cases h1 : (ks.length : Int) > 2147483647
   ·refine rs hM ?_
    refine rw_loadA t.cells ld27 rfl rfl rfl e2' rfl ?_
    refine rw_callq (v := .bool true) cr18 rfl rfl (fun H' w hle hM => by have := c18 hM (t := t); rw [decide_eq_true h0] at this; exact this) rfl ?_
    refine rw_un rfl rfl rfl (u_not _) ?_
    refine mv ?_
    refine mv ?_
    refine rw_len Tryz.underlying25 rfl rfl rfl ?_
    refine rw_bin rfl rfl rfl rfl (b_true (b_gt _ _) (decide_eq_true h1)) ?_
    refine rw_pick rfl rfl rfl rfl rfl ?_
    refine rw_nil ?_; intro w hM
    refine wp_if (tmp_lt rfl) rfl (fun hc => ?_) (by nofun)
    refine rs hM ?_
    refine asg ?_
    refine rw_nil ?_; intro w hM
    refine wp_ret ?_
    simp only [Exit.then]
    exact post_tmp (v := .bool true) rfl rfl rfl ⟨rfl, hM.below⟩
   refine rs hM ?_
   refine rw_loadA t.cells ld27 rfl rfl rfl e2' rfl ?_
   refine rw_callq (v := .bool true) cr18 rfl rfl (fun H' w hle hM => by have := c18 hM (t := t); rw [decide_eq_true h0] at this; exact this) rfl ?_
   refine rw_un rfl rfl rfl (u_not _) ?_
   refine mv ?_
   refine mv ?_
   refine rw_len Tryz.underlying25 rfl rfl rfl ?_
   refine rw_bin rfl rfl rfl rfl (b_false (b_gt _ _) (decide_eq_false h1)) ?_
   refine rw_pick rfl rfl rfl rfl rfl ?_
   refine rw_nil ?_; intro w hM
   refine wp_if (tmp_lt rfl) rfl (by nofun) (fun hc => ?_)
   refine wp_skip ?_
   exact ⟨_, rfl, Know.of ⟨rfl, rfl, trivial⟩, hM, h0, h1⟩
  ·refine rs hM ?_
   refine rw_loadA t.cells ld27 rfl rfl rfl e2' rfl ?_
   refine rw_callq (v := .bool false) cr18 rfl rfl (fun H' w hle hM => by have := c18 hM (t := t); rw [decide_eq_false h0] at this; exact this) rfl ?_
   refine rw_un rfl rfl rfl (u_not _) ?_
   refine mv ?_
   refine rw_skip rfl rfl ?_
   refine rw_skip rfl rfl ?_
   refine rw_skip rfl rfl ?_
   refine rw_pick rfl rfl rfl rfl rfl ?_
   refine rw_nil ?_; intro w hM
   refine wp_if (tmp_lt rfl) rfl (fun hc => ?_) (by nofun)
   refine rs hM ?_
   refine asg ?_
   refine rw_nil ?_; intro w hM
   refine wp_ret ?_
   simp only [Exit.then]
   exact post_tmp (v := .bool true) rfl rfl rfl ⟨rfl, hM.below⟩
 clear hM
 rintro f w ⟨⟨f1, rfl⟩, hM, h0, h1⟩
 have hkf : KeysR w0 G2 (sliced ao 0 (min ks.length 1500) cap 1) (ks.take 1500) := (hk.mono fun x u hx => by cases hx).few
 obtain ⟨kv, hkv⟩ : ∃ kv, kv = sliced ao 0 (min ks.length 1500) cap 1 := ⟨_, rfl⟩
 obtain ⟨ks', hks'⟩ : ∃ ks', ks' = ks.take 1500 := ⟨_, rfl⟩
 have hl' : ks'.length ≤ 1500 := by rw [hks', List.length_take]; omega
 rw [← hkv, ← hks'] at hkf
 refine rs hM ?_
 refine mv ?_
 refine rw_callq (v := kv) cr19 rfl rfl (fun H' w hle hM => by rw [hkv]; exact c19 (m := 1500) hM hcap) rfl ?_
 refine asg ?_
 refine rw_nil ?_; intro w hM
 obtain ⟨ao', cap', rfl, _⟩ := hkf.shape
 refine wp_mix_seq [2, 5, 6, 7] [7] [0, 1, 3, 4, 2, 5, 6, 7, 8] G2 mixed (by kernel_rfl) (Heap.le_refl _) hM ?_
 refine rw_loadA t.cells ld27 rfl rfl rfl e2' rfl ?_
 refine mv ?_
 refine mv ?_
 refine rw_len Tryz.underlying25 rfl rfl rfl ?_
 refine rw_callD cr20 rfl rfl (fun w hM => c20 hM hkf (by omega)) rfl (fun _ => rfl) ?_; rintro v1 S2 ⟨LS2, lS2, hnS2, O2⟩; refine ⟨LS2, ?_⟩
 refine rw_callD cr21 rfl rfl (fun w hM => c21 (it := 0) (n := ks'.length) hM (by decide) (by omega)) rfl (fun _ => rfl) ?_; rintro v2 S5 ⟨L5, l5, hn5, O5⟩; refine ⟨Heap.le_trans LS2 L5, ?_⟩
 refine rw_ownD (v := v1) rfl rfl rfl rfl (O2.mono L5) (Heap.le_trans LS2 L5) O5.sl.rd rfl O5.ty (by omega) rfl (u := v2) (fun a6 S6 O6 L6 => ?_)
 refine rw_callE cr22 rfl rfl (fun w hM => c22o hM hDb ht (hR.ok h0) O6 (by first|(rw [List.length_append]; omega)|(rw [List.length_append, List.length_append]; omega)|(simp only [List.length_append, List.length_cons, List.length_nil]; omega))) rfl (fun _ => ⟨rfl, rfl⟩) ?_; rintro _ SZ ⟨rfl, rfl⟩
 refine asg ?_
 refine rw_nil ?_; intro w hM
 refine wp_ret ?_
 exact post_tmp (v := .bool true) rfl rfl rfl ⟨rfl, hM.below⟩
set_option maxRecDepth 100000 in
theorem lifted16 (os : Os) (started : os.Started) (H : Type) (enc : TypeId × Value → H) :
  ReturnsInHanded {} Tryz.checked os 16 .any (fun w args => (Rows.fnWholeSpec.pre enc Tryz.prog Tryz.f16 [] false w args ∧ laidMetH Tryz.prog laidDb w) ∧ sizedMet enc Tryz.prog Tryz.f16 (OpenSpec.ofChange Rows.fnWholeSpec) false w args)
   (Rows.fnWholeSpec.post enc Tryz.prog Tryz.f16 false true false false) := by
 refine returnsInHanded_of_change_and (C := Tryz.checked) (X := fun w _ => laidMetH Tryz.prog laidDb w) (fun _ _ _ hh h => h.of_heap hh) own started (by kernel_rfl) Tryz.func16
  (ChangeSpec.witness_shaped (enc := enc) (C := Tryz.checked) (os := os) (X := fun w _ => laidMetH Tryz.prog laidDb w) false (World.doorLaid Tryz.prog 14 os) #[.agg #[.bool false, .int .i64 0, .int .u64 0, .int .u64 0, .int .u64 0, .int .i64 0, .slice none 0 0], .slice none 0 0] 8 rfl (World.shaped_of_RefB (by kernel_rfl) (by kernel_rfl)) (by kernel_rfl) (by kernel_rfl) (by kernel_rfl) (door_met os _)) ?_
 intro W base args ds gs before hval0 hW _ _ hL _
 have hval : ∀ (j : Nat) t v, Tryz.f16.params[j]? = some t → args[j]? = some v → Value.okWide Tryz.prog W .any base t v := hval0
 have hW' := hW
 obtain ⟨p, q, hA0, hV, rfl, hfz, hnd⟩ := hW
 have hA : DataW.TrodAll enc Tryz.prog W 0 (fun _ => true) true Tryz.f16.params.toList args.toList ds p := hA0
 rw [Tryz.params16] at hA hval
 obtain ⟨v0, v1, d0, d1, p0, p1, rfl, rfl, rfl, h0, h1⟩ := trodAll_two hA
 obtain ⟨rfl, rfl⟩ := trodVars_none hV
 have hDb := hasDb_of hL
 have lt0 : ∀ x ∈ p0, x.block < W.heap.size := by obtain ⟨m, hm⟩ := h0; exact DataW.trod_lt m _ _ _ hm
 have lt1 : ∀ x ∈ p1, x.block < W.heap.size := by obtain ⟨m, hm⟩ := h1; exact DataW.trod_lt m _ _ _ hm
 obtain ⟨t0, e0, ht0, hR0⟩ := tab_open (hval 0 27 v0 rfl rfl) h0
 obtain ⟨ks1, hk1⟩ := keys_open (hval 1 25 v1 rfl rfl) h1
 clear hA0 hval0
 have run := walk16 hDb ht0 hR0 hk1
 rw [← e0] at run
 refine run.mono fun e W' ⟨he, bel⟩ => ?_
 subst he
 exact ⟨_, rfl, _, _, _, [], _, [], hW', trodAll_mk1 (shut_bool Tryz.underlying4 _), (trodAll_mk2 (Below.trod laidOut (by kernel_rfl) (of_decide_eq_true (by kernel_rfl)) h0 bel lt0) (Below.trod laidOut (by kernel_rfl) (of_decide_eq_true (by kernel_rfl)) h1 bel lt1)), rfl, bel.frame _, fun h => by cases h⟩
theorem fnWhole_holds : Rows.FnWholeSaid :=
 OpenClaim.holds_of_wide 16 Tryz.f16 rfl rfl rfl rfl rfl rfl rfl ⟨rfl, rfl, rfl, rfl, rfl⟩ rfl rfl rfl rfl rfl (by kernel_rfl) Tryz.func16 (by kernel_rfl)
  (of_decide_eq_true (by kernel_rfl)) (by unfold Func.isWrapper; rw [if_neg (of_decide_eq_false (by kernel_rfl))]; exact ⟨rfl, rfl⟩)
  (fun os started H enc _ => lifted16 os started H enc)
theorem fnWhole_card : Rows.FnWholeCardSaid :=
 Claim7.holds_tied_plain_at .later [] [.data] true (true, "90126d0d88ad080e19404430648cf5f7fba61eeb2d65f4e3e95714f42eea46f3") false
  fnWhole_holds (fun _ h => by cases h) (by kernel_rfl) (fun _ h => by cases h) fnWhole_row_tie rfl ⟨rfl, rfl⟩ (by kernel_rfl) rfl
  (fun f fn hf hfn => by
   obtain rfl : f = 16 := Option.some.inj ((show Tryz.prog.funcNamed "runtimemaps/laws.FnWhole" = some 16 by kernel_rfl).symm.trans hf) |>.symm
   obtain rfl : fn = Tryz.f16 := (Option.some.inj (Tryz.func16.symm.trans hfn)).symm
   exact ⟨by kernel_rfl, fun j t ht => by
    rw [Tryz.params16] at ht
    have hm : t ∈ [27, 25] := by simpa using Array.mem_of_getElem? ht
    have hall : ([27, 25].all fun u => !Tryz.prog.wantsStandIn u) = true := by kernel_rfl
    exact (show Tryz.prog.wantsStandIn t = false by simpa using List.all_eq_true.1 hall t hm)⟩)
  (by kernel_rfl)
#print axioms fnWhole_card
end Go.Proofs.YtddpfkcofmfmpaaGreatDoor
