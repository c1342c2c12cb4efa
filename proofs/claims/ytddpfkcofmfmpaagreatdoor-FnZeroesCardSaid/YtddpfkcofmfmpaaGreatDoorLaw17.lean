/-
 Both zeroes are one key: the law FnZeroes returns true, at every table and all keys.
 Conditions: the library's table deBruijn64tab reads as its text lays it (tied by the card); the law itself bounds the sizes of what it is handed.
-/
import Derived.Test.YtddpfkcofmfmpaaGreatDoorQ29
namespace Go.Proofs.YtddpfkcofmfmpaaGreatDoor
open Go Go.RowKit
open Go.ChangeShapes Go.WideShapes Go.ChangeAt
set_option maxRecDepth 20000
theorem walk17 {w0 : World} (hDb : HasDb w0) {t : TabV} (ht : t.OK) (hR : OffRd w0 t) {v : Value} {ks : List Nat} (hk : KeysR w0 noH v ks) (first : Bool) :
  Calls Tryz.prog 17 [.agg t.cells.toArray, v, .bool first].toArray w0 (True0 w0) := by
 obtain ⟨ao, cap, rfl, hcap⟩ := hk.shape
 refine calls_start Tryz.func17 rfl Tryz.ntmps17 (Nat.le_of_ble_eq_true rfl) ?_
 have hM := mem0 w0
 refine rs hM ?_
 refine rw_boxN (v := .agg t.cells.toArray) rfl rfl rfl (fun b3 G3 n3 l3 e3 k3 => ?_)
 refine asg ?_
 refine rw_nil ?_; intro w hM
 have e3' : G3 b3 = some (encTab t) := e3
 refine wp_seq_mid (fun f w => Know f [(1, .slice ao ks.length cap), (2, .bool first), (3, .pointer (some ⟨b3, 0, none⟩))] ∧ Mem w0 w G3 ∧ t.on ≤ 2147483647 ∧ ¬ (ks.length : Int) > 2147483647) ?_ ?_
 ·by_cases h0 : t.on ≤ 2147483647
  ·skip
   by_cases h1 : (ks.length : Int) > 2147483647
   ·refine rs hM ?_
    refine rw_loadA t.cells ld27 rfl rfl rfl e3' rfl ?_
    refine rw_callq (v := .bool true) cr18 rfl rfl (fun H' w hle hM => by have := c18 hM (t := t); rw [decide_eq_true h0] at this; exact this) rfl ?_
    refine rw_un rfl rfl rfl (u_not _) ?_
    refine mv ?_
    refine mv ?_
    refine rw_len Tryz.underlying25 rfl rfl rfl ?_
    refine rw_bin rfl rfl rfl rfl (b_true (b_gt _ _) (decide_eq_true h1)) ?_
    refine rw_pick rfl rfl rfl rfl rfl ?_
    refine rw_nil ?_; intro w hM
    refine wp_if (tmp_lt rfl) rfl (fun hc => ?_) (by nofun)
    refine rs hM ?_
    refine asg ?_
    refine rw_nil ?_; intro w hM
    refine wp_ret ?_
    simp only [Exit.then]
    exact post_tmp (v := .bool true) rfl rfl rfl ⟨rfl, hM.below⟩
   refine rs hM ?_
   refine rw_loadA t.cells ld27 rfl rfl rfl e3' rfl ?_
   refine rw_callq (v := .bool true) cr18 rfl rfl (fun H' w hle hM => by have := c18 hM (t := t); rw [decide_eq_true h0] at this; exact this) rfl ?_
   refine rw_un rfl rfl rfl (u_not _) ?_
   refine mv ?_
   refine mv ?_
   refine rw_len Tryz.underlying25 rfl rfl rfl ?_
   refine rw_bin rfl rfl rfl rfl (b_false (b_gt _ _) (decide_eq_false h1)) ?_
   refine rw_pick rfl rfl rfl rfl rfl ?_
   refine rw_nil ?_; intro w hM
   refine wp_if (tmp_lt rfl) rfl (by nofun) (fun hc => ?_)
   refine wp_skip ?_
   exact ⟨_, rfl, Know.of ⟨rfl, rfl, rfl, trivial⟩, hM, h0, h1⟩
  ·refine rs hM ?_
   refine rw_loadA t.cells ld27 rfl rfl rfl e3' rfl ?_
   refine rw_callq (v := .bool false) cr18 rfl rfl (fun H' w hle hM => by have := c18 hM (t := t); rw [decide_eq_false h0] at this; exact this) rfl ?_
   refine rw_un rfl rfl rfl (u_not _) ?_
   refine mv ?_
   refine rw_skip rfl rfl ?_
   refine rw_skip rfl rfl ?_
   refine rw_skip rfl rfl ?_
   refine rw_pick rfl rfl rfl rfl rfl ?_
   refine rw_nil ?_; intro w hM
   refine wp_if (tmp_lt rfl) rfl (fun hc => ?_) (by nofun)
   refine rs hM ?_
   refine asg ?_
   refine rw_nil ?_; intro w hM
   refine wp_ret ?_
   simp only [Exit.then]
   exact post_tmp (v := .bool true) rfl rfl rfl ⟨rfl, hM.below⟩
 clear hM
 rintro f w ⟨⟨f1, rfl⟩, hM, h0, h1⟩
 have hOK' : TabV.OK { t with floats := true } := ⟨ht.seed, ht.times, ht.mask, ht.shift, ht.hint⟩
 have hR' : OffRd w0 { t with floats := true } := hR
 refine rs hM ?_
 refine fa fr27_0 ?_
 refine rw_storeE (v := .bool true) (c' := (TabV.cells { t with floats := true }).toArray) sz4 rfl rfl rfl rfl e3' rfl (by show 0 + 0 < 7; decide) rfl (by nofun) (fun SF hSF kSF => ?_)
 refine rw_nil ?_; intro w hM
 obtain ⟨t', ht'⟩ : ∃ t' : TabV, t' = { t with floats := true } := ⟨_, rfl⟩
 have h0' : t'.on ≤ 2147483647 := by rw [ht']; exact h0
 have hSF' : SF b3 = some (encTab t') := by rw [ht']; exact hSF
 rw [← ht'] at hOK' hR'
 clear hSF ht'
 have hkf : KeysR w0 SF (sliced ao 0 (min ks.length 300) cap 1) (ks.take 300) := (hk.mono fun x u hx => by cases hx).few
 obtain ⟨kv, hkv⟩ : ∃ kv, kv = sliced ao 0 (min ks.length 300) cap 1 := ⟨_, rfl⟩
 obtain ⟨ks', hks'⟩ : ∃ ks', ks' = ks.take 300 := ⟨_, rfl⟩
 have hl' : ks'.length ≤ 300 := by rw [hks', List.length_take]; omega
 rw [← hkv, ← hks'] at hkf
 refine rs hM ?_
 refine mv ?_
 refine rw_callq (v := kv) cr19 rfl rfl (fun H' w hle hM => by rw [hkv]; exact c19 (m := 300) hM hcap) rfl ?_
 refine asg ?_
 refine rw_nil ?_; intro w hM
 obtain ⟨ao', cap', rfl, _⟩ := hkf.shape
 refine rs hM ?_
 refine asg ?_
 refine asg ?_
 refine rw_nil ?_; intro w hM
 refine wp_seq_mid (fun f w => ∃ a b : Nat, a < 2 ^ 64 ∧ b < 2 ^ 64 ∧ Know f [(1, .slice ao' ks'.length cap'), (3, .pointer (some ⟨b3, 0, none⟩)), (7, u64 a), (8, u64 b)] ∧ Mem w0 w SF) ?_ ?_
 ·cases first with
  | true =>
   refine rs hM ?_
   refine mv ?_
   refine rw_nil ?_; intro w hM
   refine wp_if (tmp_lt rfl) rfl (fun hc => ?_) (by nofun)
   refine re hM ?_
   refine mv ?_
   refine mv ?_
   refine asg ?_
   refine asg ?_
   refine rw_nil ?_; intro w hM
   exact ⟨_, rfl, 9223372036854775808, 0, by decide, by decide, Know.of ⟨rfl, rfl, rfl, rfl, trivial⟩, hM⟩
  | false =>
   refine rs hM ?_
   refine mv ?_
   refine rw_nil ?_; intro w hM
   refine wp_if (tmp_lt rfl) rfl (by nofun) (fun hc => ?_)
   refine wp_skip ?_
   exact ⟨_, rfl, 0, 9223372036854775808, by decide, by decide, Know.of ⟨rfl, rfl, rfl, rfl, trivial⟩, hM⟩
 clear hM
 rintro f w ⟨a, b, ha, hb, ⟨f2, rfl⟩, hM⟩
 refine rs hM ?_
 refine mv ?_
 refine rw_callE cr20 rfl rfl (fun w hM => c20 hM hkf (by omega)) rfl (by nofun) ?_; rintro v1 S1 ⟨LS1, lS1, hnS1, O1⟩
 refine mv ?_
 refine rw_build (bd36_0_2_3 _ _ _) rfl rfl rfl ?_
 refine mv ?_
 refine rw_build (bd36_0_2 _ _) rfl rfl rfl ?_
 refine mv ?_
 refine rw_build (bd36_0_2_3 _ _ _) rfl rfl rfl ?_
 refine mv ?_
 refine rw_build (bd36_0_2 _ _) rfl rfl rfl ?_
 refine rw_build (bd36_0 _) rfl rfl rfl ?_
 refine rw_buildSlN (bs30_5 _ _ _ _ _ _ _ _ _ _ _ _ _ _ _ _ _ _ _ _) rfl rfl rfl (fun q11 GQ11 nq11 lq11 eq11 kq11 => ?_)
 refine rw_ownN (v := v1) rfl rfl rfl rfl (O1.mono lq11) (Heap.le_trans LS1 lq11) (rd_made (l := [⟨0, 0, a, -5⟩, ⟨1, 0, b, 0⟩, ⟨0, 0, b, -6⟩, ⟨1, 0, a, 0⟩, ⟨4, 0, 0, 0⟩]) eq11 rfl rfl) rfl (all2 (stpTy_mk ha ⟨by decide, by decide⟩) (all2 (stk _ _ hb) (all2 (stpTy_mk hb ⟨by decide, by decide⟩) (all2 (stk _ _ ha) (all1 (st0 _ _)))))) (by omega) (fun a12 S12 O12 L12 => ?_)
 refine asg ?_
 refine rw_nil ?_; intro w hM
 refine rs hM ?_
 refine mv ?_
 refine mv ?_
 refine rw_len Tryz.underlying25 rfl rfl rfl ?_
 refine rw_bin (v := i64 ((ks'.length + 1 : Nat) : Int)) rfl rfl rfl rfl (bin_eq (b_addi (b := 1) (by omega) (by omega)) (congrArg i64 (by omega))) ?_
 refine rw_callE cr21 rfl rfl (fun w hM => c21 (it := 0) (n := ks'.length + 1) hM (by decide) (by omega)) rfl (by nofun) ?_; rintro v4 S4 ⟨M4, l4, hn4, O4⟩
 refine rw_ownN (v := a12) rfl rfl rfl rfl (O12.mono M4) (Heap.le_trans L12 M4) O4.sl.rd rfl O4.ty (by first|(rw [List.length_append]; omega)|(rw [List.length_append, List.length_append]; omega)|(simp only [List.length_append, List.length_cons, List.length_nil]; omega)) (u := v4) (fun a5 S5 O5 L5 => ?_)
 refine asg ?_
 refine rw_nil ?_; intro w hM
 refine wp_mix_seq [7, 8, 9] [9] [0, 1, 2, 3, 4, 5, 6, 7, 8, 9, 10] SF mixed (by kernel_rfl) L5 hM ?_
 refine rw_loadA t'.cells ld27 rfl rfl rfl hSF' rfl ?_
 refine mv ?_
 refine mv ?_
 refine rw_build (bd36_0_2 _ _) rfl rfl rfl ?_
 refine mv ?_
 refine rw_build (bd36_0_2 _ _) rfl rfl rfl ?_
 refine rw_build (bd36_0 _) rfl rfl rfl ?_
 refine rw_buildSlD (bs30_3 _ _ _ _ _ _ _ _ _ _ _ _) rfl rfl rfl rfl L5 (fun q7 G7 nq7 lq7 eq7 kq7 => ?_)
 refine rw_ownD (v := a5) rfl rfl rfl rfl (O5.mono lq7) (Heap.le_trans L5 lq7) (rd_made (l := [⟨2, 0, a, 0⟩, ⟨1, 0, b, 0⟩, ⟨4, 0, 0, 0⟩]) eq7 rfl rfl) rfl (all2 (stk _ _ ha) (all2 (stk _ _ hb) (all1 (st0 _ _)))) (by first|(rw [List.length_append]; omega)|(rw [List.length_append, List.length_append]; omega)|(simp only [List.length_append, List.length_cons, List.length_nil]; omega)) rfl (fun a8 S8 O8 L8 => ?_)
 refine rw_callE cr22 rfl rfl (fun w hM => c22o hM hDb hOK' (hR'.ok h0') O8 (by first|(rw [List.length_append]; omega)|(rw [List.length_append, List.length_append]; omega)|(simp only [List.length_append, List.length_cons, List.length_nil]; omega))) rfl (fun _ => ⟨rfl, rfl⟩) ?_; rintro _ SZ ⟨rfl, rfl⟩
 refine asg ?_
 refine rw_nil ?_; intro w hM
 refine wp_ret ?_
 exact post_tmp (v := .bool true) rfl rfl rfl ⟨rfl, hM.below⟩
set_option maxRecDepth 100000 in
theorem lifted17 (os : Os) (started : os.Started) (H : Type) (enc : TypeId × Value → H) :
  ReturnsInHanded {} Tryz.checked os 17 .any (fun w args => (Rows.fnZeroesSpec.pre enc Tryz.prog Tryz.f17 [] false w args ∧ laidMetH Tryz.prog laidDb w) ∧ sizedMet enc Tryz.prog Tryz.f17 (OpenSpec.ofChange Rows.fnZeroesSpec) false w args)
   (Rows.fnZeroesSpec.post enc Tryz.prog Tryz.f17 false true false false) := by
 refine returnsInHanded_of_change_and (C := Tryz.checked) (X := fun w _ => laidMetH Tryz.prog laidDb w) (fun _ _ _ hh h => h.of_heap hh) own started (by kernel_rfl) Tryz.func17
  (ChangeSpec.witness_shaped (enc := enc) (C := Tryz.checked) (os := os) (X := fun w _ => laidMetH Tryz.prog laidDb w) false (World.doorLaid Tryz.prog 14 os) #[.agg #[.bool false, .int .i64 0, .int .u64 0, .int .u64 0, .int .u64 0, .int .i64 0, .slice none 0 0], .slice none 0 0, .bool false] 8 rfl (World.shaped_of_RefB (by kernel_rfl) (by kernel_rfl)) (by kernel_rfl) (by kernel_rfl) (by kernel_rfl) (door_met os _)) ?_
 intro W base args ds gs before hval0 hW _ _ hL _
 have hval : ∀ (j : Nat) t v, Tryz.f17.params[j]? = some t → args[j]? = some v → Value.okWide Tryz.prog W .any base t v := hval0
 have hW' := hW
 obtain ⟨p, q, hA0, hV, rfl, hfz, hnd⟩ := hW
 have hA : DataW.TrodAll enc Tryz.prog W 0 (fun _ => true) true Tryz.f17.params.toList args.toList ds p := hA0
 rw [Tryz.params17] at hA hval
 obtain ⟨v0, v1, v2, d0, d1, d2, p0, p1, p2, rfl, rfl, rfl, h0, h1, h2⟩ := trodAll_three hA
 obtain ⟨rfl, rfl⟩ := trodVars_none hV
 have hDb := hasDb_of hL
 have lt0 : ∀ x ∈ p0, x.block < W.heap.size := by obtain ⟨m, hm⟩ := h0; exact DataW.trod_lt m _ _ _ hm
 have lt1 : ∀ x ∈ p1, x.block < W.heap.size := by obtain ⟨m, hm⟩ := h1; exact DataW.trod_lt m _ _ _ hm
 obtain ⟨t0, e0, ht0, hR0⟩ := tab_open (hval 0 27 v0 rfl rfl) h0
 obtain ⟨ks1, hk1⟩ := keys_open (hval 1 25 v1 rfl rfl) h1
 obtain ⟨x2, rfl, rfl, rfl⟩ := open_bool Tryz.underlying4 (hval 2 4 v2 rfl rfl) h2
 clear hA0 hval0
 have run := walk17 hDb ht0 hR0 hk1 x2
 rw [← e0] at run
 refine run.mono fun e W' ⟨he, bel⟩ => ?_
 subst he
 exact ⟨_, rfl, _, _, _, [], _, [], hW', trodAll_mk1 (shut_bool Tryz.underlying4 _), (trodAll_mk3 (Below.trod laidOut (by kernel_rfl) (of_decide_eq_true (by kernel_rfl)) h0 bel lt0) (Below.trod laidOut (by kernel_rfl) (of_decide_eq_true (by kernel_rfl)) h1 bel lt1) (shut_bool Tryz.underlying4 x2)), rfl, bel.frame _, fun h => by cases h⟩
theorem fnZeroes_holds : Rows.FnZeroesSaid :=
 OpenClaim.holds_of_wide 17 Tryz.f17 rfl rfl rfl rfl rfl rfl rfl ⟨rfl, rfl, rfl, rfl, rfl⟩ rfl rfl rfl rfl rfl (by kernel_rfl) Tryz.func17 (by kernel_rfl)
  (of_decide_eq_true (by kernel_rfl)) (by unfold Func.isWrapper; rw [if_neg (of_decide_eq_false (by kernel_rfl))]; exact ⟨rfl, rfl⟩)
  (fun os started H enc _ => lifted17 os started H enc)
theorem fnZeroes_card : Rows.FnZeroesCardSaid :=
 Claim7.holds_tied_plain_at .later [] [.data] true (true, "90126d0d88ad080e19404430648cf5f7fba61eeb2d65f4e3e95714f42eea46f3") false
  fnZeroes_holds (fun _ h => by cases h) (by kernel_rfl) (fun _ h => by cases h) fnZeroes_row_tie rfl ⟨rfl, rfl⟩ (by kernel_rfl) rfl
  (fun f fn hf hfn => by
   obtain rfl : f = 17 := Option.some.inj ((show Tryz.prog.funcNamed "runtimemaps/laws.FnZeroes" = some 17 by kernel_rfl).symm.trans hf) |>.symm
   obtain rfl : fn = Tryz.f17 := (Option.some.inj (Tryz.func17.symm.trans hfn)).symm
   exact ⟨by kernel_rfl, fun j t ht => by
    rw [Tryz.params17] at ht
    have hm : t ∈ [27, 25, 4] := by simpa using Array.mem_of_getElem? ht
    have hall : ([27, 25, 4].all fun u => !Tryz.prog.wantsStandIn u) = true := by kernel_rfl
    exact (show Tryz.prog.wantsStandIn t = false by simpa using List.all_eq_true.1 hall t hm)⟩)
  (by kernel_rfl)
#print axioms fnZeroes_card
end Go.Proofs.YtddpfkcofmfmpaaGreatDoor
