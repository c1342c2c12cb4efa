/-
 A float that is no number is equal to no key: the law FnNoNumbers returns true, at every table, all keys and every number.
 Conditions: the library's table deBruijn64tab reads as its text lays it (tied by the card); the law itself bounds the sizes of what it is handed.
-/
import Derived.Test.YtddpfkcofmfmpaaGreatDoorQ29
namespace Go.Proofs.YtddpfkcofmfmpaaGreatDoor
open Go Go.RowKit
open Go.ChangeShapes Go.WideShapes Go.ChangeAt
set_option maxRecDepth 20000
theorem walk9 {w0 : World} (hDb : HasDb w0) {t : TabV} (ht : t.OK) (hR : OffRd w0 t) {v : Value} {ks : List Nat} (hk : KeysR w0 noH v ks) {ev : Int} (_ : InI64 ev) :
  Calls Tryz.prog 9 [.agg t.cells.toArray, v, i64 ev].toArray w0 (True0 w0) := by
 obtain ⟨ao, cap, rfl, hcap⟩ := hk.shape
 refine calls_start Tryz.func9 rfl Tryz.ntmps9 (Nat.le_of_ble_eq_true rfl) ?_
 have hM := mem0 w0
 refine rs hM ?_
 refine rw_boxN (v := .agg t.cells.toArray) rfl rfl rfl (fun b3 G3 n3 l3 e3 k3 => ?_)
 refine asg ?_
 refine rw_nil ?_; intro w hM
 have e3' : G3 b3 = some (encTab t) := e3
 refine wp_seq_mid (fun f w => Know f [(1, .slice ao ks.length cap), (2, i64 ev), (3, .pointer (some ⟨b3, 0, none⟩))] ∧ Mem w0 w G3 ∧ t.on ≤ 2147483647 ∧ ¬ (ks.length : Int) > 2147483647) ?_ ?_
 ·by_cases h0 : t.on ≤ 2147483647
  ·skip
   by_cases h1 : (ks.length : Int) > 2147483647
   ·refine rs hM ?_
    refine rw_loadA t.cells ld27 rfl rfl rfl e3' rfl ?_
    refine rw_callq (v := .bool true) cr18 rfl rfl (fun H' w hle hM => by have := c18 hM (t := t); rw [decide_eq_true h0] at this; exact this) rfl ?_
    refine rw_un rfl rfl rfl (u_not _) ?_
    refine mv ?_
    refine mv ?_
    refine rw_len Tryz.underlying25 rfl rfl rfl ?_
    refine rw_bin rfl rfl rfl rfl (b_true (b_gt _ _) (decide_eq_true h1)) ?_
    refine rw_pick rfl rfl rfl rfl rfl ?_
    refine rw_nil ?_; intro w hM
    refine wp_if (tmp_lt rfl) rfl (fun hc => ?_) (by nofun)
    refine rs hM ?_
    refine asg ?_
    refine rw_nil ?_; intro w hM
    refine wp_ret ?_
    simp only [Exit.then]
    exact post_tmp (v := .bool true) rfl rfl rfl ⟨rfl, hM.below⟩
   refine rs hM ?_
   refine rw_loadA t.cells ld27 rfl rfl rfl e3' rfl ?_
   refine rw_callq (v := .bool true) cr18 rfl rfl (fun H' w hle hM => by have := c18 hM (t := t); rw [decide_eq_true h0] at this; exact this) rfl ?_
   refine rw_un rfl rfl rfl (u_not _) ?_
   refine mv ?_
   refine mv ?_
   refine rw_len Tryz.underlying25 rfl rfl rfl ?_
   refine rw_bin rfl rfl rfl rfl (b_false (b_gt _ _) (decide_eq_false h1)) ?_
   refine rw_pick rfl rfl rfl rfl rfl ?_
   refine rw_nil ?_; intro w hM
   refine wp_if (tmp_lt rfl) rfl (by nofun) (fun hc => ?_)
   refine wp_skip ?_
   exact ⟨_, rfl, Know.of ⟨rfl, rfl, rfl, trivial⟩, hM, h0, h1⟩
  ·refine rs hM ?_
   refine rw_loadA t.cells ld27 rfl rfl rfl e3' rfl ?_
   refine rw_callq (v := .bool false) cr18 rfl rfl (fun H' w hle hM => by have := c18 hM (t := t); rw [decide_eq_false h0] at this; exact this) rfl ?_
   refine rw_un rfl rfl rfl (u_not _) ?_
   refine mv ?_
   refine rw_skip rfl rfl ?_
   refine rw_skip rfl rfl ?_
   refine rw_skip rfl rfl ?_
   refine rw_pick rfl rfl rfl rfl rfl ?_
   refine rw_nil ?_; intro w hM
   refine wp_if (tmp_lt rfl) rfl (fun hc => ?_) (by nofun)
   refine rs hM ?_
   refine asg ?_
   refine rw_nil ?_; intro w hM
   refine wp_ret ?_
   simp only [Exit.then]
   exact post_tmp (v := .bool true) rfl rfl rfl ⟨rfl, hM.below⟩
 clear hM
 rintro f w ⟨⟨f1, rfl⟩, hM, h0, h1⟩
 have hOK' : TabV.OK { t with floats := true } := ⟨ht.seed, ht.times, ht.mask, ht.shift, ht.hint⟩
 have hR' : OffRd w0 { t with floats := true } := hR
 refine rs hM ?_
 refine fa fr27_0 ?_
 refine rw_storeE (v := .bool true) (c' := (TabV.cells { t with floats := true }).toArray) sz4 rfl rfl rfl rfl e3' rfl (by show 0 + 0 < 7; decide) rfl (by nofun) (fun SF hSF kSF => ?_)
 refine rw_nil ?_; intro w hM
 obtain ⟨t', ht'⟩ : ∃ t' : TabV, t' = { t with floats := true } := ⟨_, rfl⟩
 have h0' : t'.on ≤ 2147483647 := by rw [ht']; exact h0
 have hSF' : SF b3 = some (encTab t') := by rw [ht']; exact hSF
 rw [← ht'] at hOK' hR'
 clear hSF ht'
 have hkf : KeysR w0 SF (sliced ao 0 (min ks.length 300) cap 1) (ks.take 300) := (hk.mono fun x u hx => by cases hx).few
 obtain ⟨kv, hkv⟩ : ∃ kv, kv = sliced ao 0 (min ks.length 300) cap 1 := ⟨_, rfl⟩
 obtain ⟨ks', hks'⟩ : ∃ ks', ks' = ks.take 300 := ⟨_, rfl⟩
 have hl' : ks'.length ≤ 300 := by rw [hks', List.length_take]; omega
 rw [← hkv, ← hks'] at hkf
 refine rs hM ?_
 refine mv ?_
 refine rw_callq (v := kv) cr19 rfl rfl (fun H' w hle hM => by rw [hkv]; exact c19 (m := 300) hM hcap) rfl ?_
 refine asg ?_
 refine rw_nil ?_; intro w hM
 obtain ⟨ao', cap', rfl, _⟩ := hkf.shape
 refine rs hM ?_
 refine asg ?_
 refine rw_nil ?_; intro w hM
 refine rs hM ?_
 refine asg ?_
 refine rw_nil ?_; intro w hM
 obtain ⟨um, hum, hconv⟩ := c_wrap ev
 obtain ⟨e, he⟩ : ∃ e : Nat, e = um % 300 := ⟨_, rfl⟩
 have he1 : um % 300 < 300 := Nat.mod_lt _ (by decide)
 refine rs hM ?_
 refine mv ?_
 refine rw_conv (v := u64 um) rfl rfl rfl hconv ?_
 refine rw_bin (v := u64 (um % 300)) rfl rfl rfl rfl (b_rem64 um 300 (by decide)) ?_
 refine rw_conv (v := i64 (e : Nat)) rfl rfl rfl (conv_eq (c_i64 Tryz.underlying37 Tryz.underlying3 (n := (um % 300 : Nat)) (by omega) (by omega)) (by rw [he])) ?_
 refine asg ?_
 refine rw_nil ?_; intro w hM
 obtain ⟨N1, hN1⟩ : ∃ N1 : Nat, N1 = 0 := ⟨_, rfl⟩
 refine wp_seq ?_
 refine rs hM ?_
 refine mv ?_
 refine mv ?_
 refine rw_nil ?_; intro w hM
 refine wp_block ?_
 refine wp_loop_s (fun c f w => ∃ i S l out, c = e - i ∧ i ≤ e ∧ l.length ≤ N1 + i ∧ Know f [(1, .slice ao' ks'.length cap'), (3, .pointer (some ⟨b3, 0, none⟩)), (7, out), (8, u64 9221120237041090561), (9, i64 (e : Nat)), (26, i64 (e : Nat)), (27, i64 (i : Nat))] ∧ Mem w0 w S ∧ SF.le S ∧ OwnS SF S out l) (e - 0) ?_ ?_
 ·exact ⟨0, SF, _, _, rfl, Nat.zero_le _, Nat.zero_le _, Know.of ⟨rfl, rfl, rfl, rfl, rfl, rfl, rfl, trivial⟩, hM, Heap.le_refl _, OwnS.nil _ _⟩
 clear hM
 rintro c f w ⟨i, S, l, out, rfl, hi, hli, ⟨fY, rfl⟩, hM, hle, hO⟩
 refine rs hM ?_
 refine rw_bin rfl rfl rfl rfl (b_lt _ _) ?_
 refine rw_nil ?_; intro w hM
 refine wp_seq ?_
 refine wp_if (tmp_lt rfl) rfl (fun hz => ?_) (fun hz => ?_)
 ·have hil : i < e := by have := of_decide_eq_true hz; omega
  refine wp_skip ?_
  refine wp_seq ?_
  refine wp_block ?_
  refine rs hM ?_
  refine mv ?_
  refine asg ?_
  refine rw_nil ?_; intro w hM
  refine re hM ?_
  refine mv ?_
  refine mv ?_
  refine mv ?_
  refine rw_build (bd36_0_2_3 _ _ _) rfl rfl rfl ?_
  refine rw_buildSlN (bs30_1 _ _ _ _) rfl rfl rfl (fun q4 GQ4 nq4 lq4 eq4 kq4 => ?_)
  refine rw_ownN (v := out) rfl rfl rfl rfl (hO.mono lq4) (Heap.le_trans hle lq4) (rd_made (l := [⟨0, 0, 9221120237041090561, (i : Nat)⟩]) eq4 rfl rfl) rfl (all1 (stpTy_mk (by decide) ⟨by omega, by omega⟩)) (by omega) (fun aT ST OT LT => ?_)
  refine asg ?_
  refine rw_nil ?_; intro w hM
  simp only [Exit.then, Exit.inBlock]
  refine re hM ?_
  refine rw_bin (v := i64 ((i + 1 : Nat) : Int)) rfl rfl rfl rfl (bin_eq (b_addi (b := 1) (by omega) (by omega)) (congrArg i64 (by omega))) ?_
  refine mv ?_
  refine rw_nil ?_; intro w hM
  exact ⟨e - (i + 1), _, rfl, by omega, i + 1, ST, _, aT, rfl, by omega, by simp only [List.length_append, List.length_cons, List.length_nil]; omega, Know.of ⟨rfl, rfl, rfl, rfl, rfl, rfl, rfl, trivial⟩, hM, LT, OT⟩
 ·refine wp_exit ?_
  simp only [Exit.then, Exit.inBlock, if_true]
  have hi' : i = e := by have := of_decide_eq_false hz; omega
  refine rs hM ?_
  refine mv ?_
  refine mv ?_
  refine rw_callE cr20 rfl rfl (fun w hM => c20 hM (hkf.mono hle) (by omega)) rfl (by nofun) ?_; rintro v2 S2 ⟨LS2, lS2, hnS2, O2⟩
  refine rw_ownN (v := out) rfl rfl rfl rfl (hO.mono LS2) (Heap.le_trans hle LS2) O2.sl.rd rfl O2.ty (by omega) (u := v2) (fun a3 S3 O3 L3 => ?_)
  refine mv ?_
  refine rw_build (bd36_0_2 _ _) rfl rfl rfl ?_
  refine mv ?_
  refine rw_build (bd36_0_2 _ _) rfl rfl rfl ?_
  refine rw_build (bd36_0 _) rfl rfl rfl ?_
  refine rw_buildSlN (bs30_3 _ _ _ _ _ _ _ _ _ _ _ _) rfl rfl rfl (fun q9 GQ9 nq9 lq9 eq9 kq9 => ?_)
  refine rw_ownN (v := a3) rfl rfl rfl rfl (O3.mono lq9) (Heap.le_trans L3 lq9) (rd_made (l := [⟨1, 0, 9221120237041090561, 0⟩, ⟨2, 0, 9221120237041090561, 0⟩, ⟨4, 0, 0, 0⟩]) eq9 rfl rfl) rfl (all2 (stk _ _ (by decide)) (all2 (stk _ _ (by decide)) (all1 (st0 _ _)))) (by first|(rw [List.length_append]; omega)|(rw [List.length_append, List.length_append]; omega)|(simp only [List.length_append, List.length_cons, List.length_nil]; omega)) (fun a10 S10 O10 L10 => ?_)
  refine asg ?_
  refine rw_nil ?_; intro w hM
  refine rs hM ?_
  refine mv ?_
  refine mv ?_
  refine mv ?_
  refine rw_len Tryz.underlying25 rfl rfl rfl ?_
  refine rw_bin (v := i64 ((e + ks'.length : Nat) : Int)) rfl rfl rfl rfl (bin_eq (b_addi (by omega) (by omega)) (congrArg i64 (by omega))) ?_
  refine rw_callE cr21 rfl rfl (fun w hM => c21 (it := 0) (n := e + ks'.length) hM (by decide) (by omega)) rfl (by nofun) ?_; rintro v5 S5 ⟨M5, l5, hn5, O5⟩
  refine rw_ownN (v := a10) rfl rfl rfl rfl (O10.mono M5) (Heap.le_trans L10 M5) O5.sl.rd rfl O5.ty (by first|(rw [List.length_append]; omega)|(rw [List.length_append, List.length_append]; omega)|(simp only [List.length_append, List.length_cons, List.length_nil]; omega)) (u := v5) (fun a6 S6 O6 L6 => ?_)
  refine asg ?_
  refine rw_nil ?_; intro w hM
  refine wp_mix_seq [6, 7, 8] [8] [0, 1, 2, 3, 4, 5, 6, 7, 8, 9] SF mixed (by kernel_rfl) L6 hM ?_
  refine rw_loadA t'.cells ld27 rfl rfl rfl hSF' rfl ?_
  refine mv ?_
  refine rw_build (bd36_0 _) rfl rfl rfl ?_
  refine rw_build (bd36_0 _) rfl rfl rfl ?_
  refine rw_build (bd36_0 _) rfl rfl rfl ?_
  refine rw_build (bd36_0 _) rfl rfl rfl ?_
  refine rw_buildSlD (bs30_4 _ _ _ _ _ _ _ _ _ _ _ _ _ _ _ _) rfl rfl rfl rfl L6 (fun q6 G6 nq6 lq6 eq6 kq6 => ?_)
  refine rw_ownD (v := a6) rfl rfl rfl rfl (O6.mono lq6) (Heap.le_trans L6 lq6) (rd_made (l := [⟨3, 0, 0, 0⟩, ⟨4, 0, 0, 0⟩, ⟨5, 0, 0, 0⟩, ⟨6, 0, 0, 0⟩]) eq6 rfl rfl) rfl (all2 (st0 _ _) (all2 (st0 _ _) (all2 (st0 _ _) (all1 (st0 _ _))))) (by first|(rw [List.length_append]; omega)|(rw [List.length_append, List.length_append]; omega)|(simp only [List.length_append, List.length_cons, List.length_nil]; omega)) rfl (fun a8 S8 O8 L8 => ?_)
  refine rw_callE cr22 rfl rfl (fun w hM => c22o hM hDb hOK' (hR'.ok h0') O8 (by first|(rw [List.length_append]; omega)|(rw [List.length_append, List.length_append]; omega)|(simp only [List.length_append, List.length_cons, List.length_nil]; omega))) rfl (fun _ => ⟨rfl, rfl⟩) ?_; rintro _ SZ ⟨rfl, rfl⟩
  refine asg ?_
  refine rw_nil ?_; intro w hM
  refine wp_ret ?_
  exact post_tmp (v := .bool true) rfl rfl rfl ⟨rfl, hM.below⟩
set_option maxRecDepth 100000 in
theorem lifted9 (os : Os) (started : os.Started) (H : Type) (enc : TypeId × Value → H) :
  ReturnsInHanded {} Tryz.checked os 9 .any (fun w args => (Rows.fnNoNumbersSpec.pre enc Tryz.prog Tryz.f9 [] false w args ∧ laidMetH Tryz.prog laidDb w) ∧ sizedMet enc Tryz.prog Tryz.f9 (OpenSpec.ofChange Rows.fnNoNumbersSpec) false w args)
   (Rows.fnNoNumbersSpec.post enc Tryz.prog Tryz.f9 false true false false) := by
 refine returnsInHanded_of_change_and (C := Tryz.checked) (X := fun w _ => laidMetH Tryz.prog laidDb w) (fun _ _ _ hh h => h.of_heap hh) own started (by kernel_rfl) Tryz.func9
  (ChangeSpec.witness_shaped (enc := enc) (C := Tryz.checked) (os := os) (X := fun w _ => laidMetH Tryz.prog laidDb w) false (World.doorLaid Tryz.prog 14 os) #[.agg #[.bool false, .int .i64 0, .int .u64 0, .int .u64 0, .int .u64 0, .int .i64 0, .slice none 0 0], .slice none 0 0, .int .i64 0] 8 rfl (World.shaped_of_RefB (by kernel_rfl) (by kernel_rfl)) (by kernel_rfl) (by kernel_rfl) (by kernel_rfl) (door_met os _)) ?_
 intro W base args ds gs before hval0 hW _ _ hL _
 have hval : ∀ (j : Nat) t v, Tryz.f9.params[j]? = some t → args[j]? = some v → Value.okWide Tryz.prog W .any base t v := hval0
 have hW' := hW
 obtain ⟨p, q, hA0, hV, rfl, hfz, hnd⟩ := hW
 have hA : DataW.TrodAll enc Tryz.prog W 0 (fun _ => true) true Tryz.f9.params.toList args.toList ds p := hA0
 rw [Tryz.params9] at hA hval
 obtain ⟨v0, v1, v2, d0, d1, d2, p0, p1, p2, rfl, rfl, rfl, h0, h1, h2⟩ := trodAll_three hA
 obtain ⟨rfl, rfl⟩ := trodVars_none hV
 have hDb := hasDb_of hL
 have lt0 : ∀ x ∈ p0, x.block < W.heap.size := by obtain ⟨m, hm⟩ := h0; exact DataW.trod_lt m _ _ _ hm
 have lt1 : ∀ x ∈ p1, x.block < W.heap.size := by obtain ⟨m, hm⟩ := h1; exact DataW.trod_lt m _ _ _ hm
 obtain ⟨t0, e0, ht0, hR0⟩ := tab_open (hval 0 27 v0 rfl rfl) h0
 obtain ⟨ks1, hk1⟩ := keys_open (hval 1 25 v1 rfl rfl) h1
 obtain ⟨x2, rfl, rfl, rfl, w2⟩ := open_int Tryz.underlying3 (hval 2 3 v2 rfl rfl) h2
 clear hA0 hval0
 have run := walk9 hDb ht0 hR0 hk1 (wf_i64_of w2)
 rw [← e0] at run
 refine run.mono fun e W' ⟨he, bel⟩ => ?_
 subst he
 exact ⟨_, rfl, _, _, _, [], _, [], hW', trodAll_mk1 (shut_bool Tryz.underlying4 _), (trodAll_mk3 (Below.trod laidOut (by kernel_rfl) (of_decide_eq_true (by kernel_rfl)) h0 bel lt0) (Below.trod laidOut (by kernel_rfl) (of_decide_eq_true (by kernel_rfl)) h1 bel lt1) (shut_int Tryz.underlying3 w2)), rfl, bel.frame _, fun h => by cases h⟩
theorem fnNoNumbers_holds : Rows.FnNoNumbersSaid :=
 OpenClaim.holds_of_wide 9 Tryz.f9 rfl rfl rfl rfl rfl rfl rfl ⟨rfl, rfl, rfl, rfl, rfl⟩ rfl rfl rfl rfl rfl (by kernel_rfl) Tryz.func9 (by kernel_rfl)
  (of_decide_eq_true (by kernel_rfl)) (by unfold Func.isWrapper; rw [if_neg (of_decide_eq_false (by kernel_rfl))]; exact ⟨rfl, rfl⟩)
  (fun os started H enc _ => lifted9 os started H enc)
theorem fnNoNumbers_card : Rows.FnNoNumbersCardSaid :=
 Claim7.holds_tied_plain_at .later [] [.data] true (true, "90126d0d88ad080e19404430648cf5f7fba61eeb2d65f4e3e95714f42eea46f3") false
  fnNoNumbers_holds (fun _ h => by cases h) (by kernel_rfl) (fun _ h => by cases h) fnNoNumbers_row_tie rfl ⟨rfl, rfl⟩ (by kernel_rfl) rfl
  (fun f fn hf hfn => by
   obtain rfl : f = 9 := Option.some.inj ((show Tryz.prog.funcNamed "runtimemaps/laws.FnNoNumbers" = some 9 by kernel_rfl).symm.trans hf) |>.symm
   obtain rfl : fn = Tryz.f9 := (Option.some.inj (Tryz.func9.symm.trans hfn)).symm
   exact ⟨by kernel_rfl, fun j t ht => by
    rw [Tryz.params9] at ht
    have hm : t ∈ [27, 25, 3] := by simpa using Array.mem_of_getElem? ht
    have hall : ([27, 25, 3].all fun u => !Tryz.prog.wantsStandIn u) = true := by kernel_rfl
    exact (show Tryz.prog.wantsStandIn t = false by simpa using List.all_eq_true.1 hall t hm)⟩)
  (by kernel_rfl)
#print axioms fnNoNumbers_card
end Go.Proofs.YtddpfkcofmfmpaaGreatDoor
