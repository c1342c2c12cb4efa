/-
 Entries that are removed while an iteration goes on are not produced any more, and all others are, once: the law FnWhileShrinking returns true, at every table, all keys and every number.
 Conditions: the library's table deBruijn64tab reads as its text lays it (tied by the card); the law itself bounds the sizes of what it is handed.
-/
import Derived.Test.YtddpfkcofmfmpaaGreatDoorQ29
namespace Go.Proofs.YtddpfkcofmfmpaaGreatDoor
open Go Go.RowKit
open Go.ChangeShapes Go.WideShapes Go.ChangeAt
set_option maxRecDepth 20000
theorem walk15 {w0 : World} (hDb : HasDb w0) {t : TabV} (ht : t.OK) (hR : OffRd w0 t) {v v2 : Value} {ks ms : List Nat} (hk : KeysR w0 noH v ks) (hk2 : KeysR w0 noH v2 ms) {ev : Int} (_ : InI64 ev) :
  Calls Tryz.prog 15 [.agg t.cells.toArray, v, v2, i64 ev].toArray w0 (True0 w0) := by
 obtain ⟨ao, cap, rfl, hcap⟩ := hk.shape
 obtain ⟨ao2, cap2, rfl, hcap2⟩ := hk2.shape
 refine calls_start Tryz.func15 rfl Tryz.ntmps15 (Nat.le_of_ble_eq_true rfl) ?_
 have hM := mem0 w0
 refine rs hM ?_
 refine rw_boxN (v := .agg t.cells.toArray) rfl rfl rfl (fun b4 G4 n4 l4 e4 k4 => ?_)
 refine asg ?_
 refine rw_nil ?_; intro w hM
 have e4' : G4 b4 = some (encTab t) := e4
 refine wp_seq_mid (fun f w => Know f [(1, .slice ao ks.length cap), (2, .slice ao2 ms.length cap2), (3, i64 ev), (4, .pointer (some ⟨b4, 0, none⟩))] ∧ Mem w0 w G4 ∧ t.on ≤ 2147483647 ∧ ¬ (ks.length : Int) > 2147483647 ∧ ¬ (ms.length : Int) > 2147483647) ?_ ?_
 ·by_cases h0 : t.on ≤ 2147483647
  ·skip
   by_cases h1 : (ks.length : Int) > 2147483647
   ·refine rs hM ?_
    refine rw_loadA t.cells ld27 rfl rfl rfl e4' rfl ?_
    refine rw_callq (v := .bool true) cr18 rfl rfl (fun H' w hle hM => by have := c18 hM (t := t); rw [decide_eq_true h0] at this; exact this) rfl ?_
    refine rw_un rfl rfl rfl (u_not _) ?_
    refine mv ?_
    refine mv ?_
    refine rw_len Tryz.underlying25 rfl rfl rfl ?_
    refine rw_bin rfl rfl rfl rfl (b_true (b_gt _ _) (decide_eq_true h1)) ?_
    refine rw_pick rfl rfl rfl rfl rfl ?_
    refine mv ?_
    refine rw_skip rfl rfl ?_
    refine rw_skip rfl rfl ?_
    refine rw_skip rfl rfl ?_
    refine rw_pick rfl rfl rfl rfl rfl ?_
    refine rw_nil ?_; intro w hM
    refine wp_if (tmp_lt rfl) rfl (fun hc => ?_) (by nofun)
    refine rs hM ?_
    refine asg ?_
    refine rw_nil ?_; intro w hM
    refine wp_ret ?_
    simp only [Exit.then]
    exact post_tmp (v := .bool true) rfl rfl rfl ⟨rfl, hM.below⟩
   by_cases h2 : (ms.length : Int) > 2147483647
   ·refine rs hM ?_
    refine rw_loadA t.cells ld27 rfl rfl rfl e4' rfl ?_
    refine rw_callq (v := .bool true) cr18 rfl rfl (fun H' w hle hM => by have := c18 hM (t := t); rw [decide_eq_true h0] at this; exact this) rfl ?_
    refine rw_un rfl rfl rfl (u_not _) ?_
    refine mv ?_
    refine mv ?_
    refine rw_len Tryz.underlying25 rfl rfl rfl ?_
    refine rw_bin rfl rfl rfl rfl (b_false (b_gt _ _) (decide_eq_false h1)) ?_
    refine rw_pick rfl rfl rfl rfl rfl ?_
    refine mv ?_
    refine mv ?_
    refine rw_len Tryz.underlying25 rfl rfl rfl ?_
    refine rw_bin rfl rfl rfl rfl (b_true (b_gt _ _) (decide_eq_true h2)) ?_
    refine rw_pick rfl rfl rfl rfl rfl ?_
    refine rw_nil ?_; intro w hM
    refine wp_if (tmp_lt rfl) rfl (fun hc => ?_) (by nofun)
    refine rs hM ?_
    refine asg ?_
    refine rw_nil ?_; intro w hM
    refine wp_ret ?_
    simp only [Exit.then]
    exact post_tmp (v := .bool true) rfl rfl rfl ⟨rfl, hM.below⟩
   refine rs hM ?_
   refine rw_loadA t.cells ld27 rfl rfl rfl e4' rfl ?_
   refine rw_callq (v := .bool true) cr18 rfl rfl (fun H' w hle hM => by have := c18 hM (t := t); rw [decide_eq_true h0] at this; exact this) rfl ?_
   refine rw_un rfl rfl rfl (u_not _) ?_
   refine mv ?_
   refine mv ?_
   refine rw_len Tryz.underlying25 rfl rfl rfl ?_
   refine rw_bin rfl rfl rfl rfl (b_false (b_gt _ _) (decide_eq_false h1)) ?_
   refine rw_pick rfl rfl rfl rfl rfl ?_
   refine mv ?_
   refine mv ?_
   refine rw_len Tryz.underlying25 rfl rfl rfl ?_
   refine rw_bin rfl rfl rfl rfl (b_false (b_gt _ _) (decide_eq_false h2)) ?_
   refine rw_pick rfl rfl rfl rfl rfl ?_
   refine rw_nil ?_; intro w hM
   refine wp_if (tmp_lt rfl) rfl (by nofun) (fun hc => ?_)
   refine wp_skip ?_
   exact ⟨_, rfl, Know.of ⟨rfl, rfl, rfl, rfl, trivial⟩, hM, h0, h1, h2⟩
  ·refine rs hM ?_
   refine rw_loadA t.cells ld27 rfl rfl rfl e4' rfl ?_
   refine rw_callq (v := .bool false) cr18 rfl rfl (fun H' w hle hM => by have := c18 hM (t := t); rw [decide_eq_false h0] at this; exact this) rfl ?_
   refine rw_un rfl rfl rfl (u_not _) ?_
   refine mv ?_
   refine rw_skip rfl rfl ?_
   refine rw_skip rfl rfl ?_
   refine rw_skip rfl rfl ?_
   refine rw_pick rfl rfl rfl rfl rfl ?_
   refine mv ?_
   refine rw_skip rfl rfl ?_
   refine rw_skip rfl rfl ?_
   refine rw_skip rfl rfl ?_
   refine rw_pick rfl rfl rfl rfl rfl ?_
   refine rw_nil ?_; intro w hM
   refine wp_if (tmp_lt rfl) rfl (fun hc => ?_) (by nofun)
   refine rs hM ?_
   refine asg ?_
   refine rw_nil ?_; intro w hM
   refine wp_ret ?_
   simp only [Exit.then]
   exact post_tmp (v := .bool true) rfl rfl rfl ⟨rfl, hM.below⟩
 clear hM
 rintro f w ⟨⟨f1, rfl⟩, hM, h0, h1, h2⟩
 have hkf : KeysR w0 G4 (sliced ao 0 (min ks.length 1000) cap 1) (ks.take 1000) := (hk.mono fun x u hx => by cases hx).few
 obtain ⟨kv, hkv⟩ : ∃ kv, kv = sliced ao 0 (min ks.length 1000) cap 1 := ⟨_, rfl⟩
 obtain ⟨ks', hks'⟩ : ∃ ks', ks' = ks.take 1000 := ⟨_, rfl⟩
 have hlks' : ks'.length ≤ 1000 := by rw [hks', List.length_take]; omega
 rw [← hkv, ← hks'] at hkf
 have hmf : KeysR w0 G4 (sliced ao2 0 (min ms.length 1000) cap2 1) (ms.take 1000) := (hk2.mono fun x u hx => by cases hx).few
 obtain ⟨kw, hkw⟩ : ∃ kw, kw = sliced ao2 0 (min ms.length 1000) cap2 1 := ⟨_, rfl⟩
 obtain ⟨ms', hms'⟩ : ∃ ms', ms' = ms.take 1000 := ⟨_, rfl⟩
 have hlms' : ms'.length ≤ 1000 := by rw [hms', List.length_take]; omega
 rw [← hkw, ← hms'] at hmf
 refine rs hM ?_
 refine mv ?_
 refine rw_callq (v := kv) cr19 rfl rfl (fun H' w hle hM => by rw [hkv]; exact c19 (m := 1000) hM hcap) rfl ?_
 refine mv ?_
 refine rw_callq (v := kw) cr19 rfl rfl (fun H' w hle hM => by rw [hkw]; exact c19 (m := 1000) hM hcap2) rfl ?_
 refine asg ?_
 refine asg ?_
 refine rw_nil ?_; intro w hM
 obtain ⟨ao', cap', rfl, _⟩ := hkf.shape
 obtain ⟨ao2', cap2', rfl, _⟩ := hmf.shape
 obtain ⟨um, hum, hconv⟩ := c_wrap ev
 obtain ⟨e, he⟩ : ∃ e : Nat, e = um % 9 + 1 := ⟨_, rfl⟩
 have he1 : um % 9 < 9 := Nat.mod_lt _ (by decide)
 refine rs hM ?_
 refine mv ?_
 refine rw_conv (v := u64 um) rfl rfl rfl hconv ?_
 refine rw_bin (v := u64 (um % 9)) rfl rfl rfl rfl (b_rem64 um 9 (by decide)) ?_
 refine rw_conv (v := i64 (um % 9 : Nat)) rfl rfl rfl (c_i64 Tryz.underlying37 Tryz.underlying3 (by omega) (by omega)) ?_
 refine rw_bin (v := i64 (e : Nat)) rfl rfl rfl rfl (bin_eq (b_addi (a := 1) (by omega) (by omega)) (congrArg i64 (by omega))) ?_
 refine asg ?_
 refine rw_nil ?_; intro w hM
 have he0 : 0 < e := by omega
 refine rs hM ?_
 refine mv ?_
 refine rw_callE cr20 rfl rfl (fun w hM => c20 hM hkf (by omega)) rfl (by nofun) ?_; rintro v1 S1 ⟨LS1, lS1, hnS1, O1⟩
 refine rw_build (bd36_0 _) rfl rfl rfl ?_
 refine rw_buildSlN (bs30_1 _ _ _ _) rfl rfl rfl (fun q3 GQ3 nq3 lq3 eq3 kq3 => ?_)
 refine rw_ownN (v := v1) rfl rfl rfl rfl (O1.mono lq3) (Heap.le_trans LS1 lq3) (rd_made (l := [⟨5, 0, 0, 0⟩]) eq3 rfl rfl) rfl (all1 (st0 _ _)) (by omega) (fun a4 S4 O4 L4 => ?_)
 refine asg ?_
 refine rw_nil ?_; intro w hM
 refine wp_seq ?_
 refine rs hM ?_
 refine mv ?_
 refine rw_len Tryz.underlying25 rfl rfl rfl ?_
 refine mv ?_
 refine rw_nil ?_; intro w hM
 refine wp_block ?_
 refine wp_loop_s (fun c f w => ∃ i S l out, c = ms'.length - i ∧ i ≤ ms'.length ∧ l.length ≤ (ks'.length + 1) + 2 * i ∧ Know f [(1, .slice ao' ks'.length cap'), (2, .slice ao2' ms'.length cap2'), (3, i64 (e : Nat)), (4, .pointer (some ⟨b4, 0, none⟩)), (9, out), (39, .slice ao2' ms'.length cap2'), (40, i64 (ms'.length : Nat)), (41, i64 (i : Nat))] ∧ Mem w0 w S ∧ G4.le S ∧ OwnS G4 S out l) (ms'.length - 0) ?_ ?_
 ·exact ⟨0, S4, _, _, rfl, Nat.zero_le _, (by first|(rw [List.length_append]; omega)|(rw [List.length_append, List.length_append]; omega)|(simp only [List.length_append, List.length_cons, List.length_nil]; omega)), Know.of ⟨rfl, rfl, rfl, rfl, rfl, rfl, rfl, rfl, trivial⟩, hM, L4, O4⟩
 clear hM
 rintro c f w ⟨i, S, l, out, rfl, hi, hli, ⟨fX, rfl⟩, hM, hle, hO⟩
 refine rs hM ?_
 refine rw_bin rfl rfl rfl rfl (b_lt _ _) ?_
 refine rw_nil ?_; intro w hM
 refine wp_seq ?_
 refine wp_if (tmp_lt rfl) rfl (fun hz => ?_) (fun hz => ?_)
 ·have hil : i < ms'.length := by have := of_decide_eq_true hz; omega
  obtain ⟨k, hki⟩ : ∃ k, ms'[i]? = some k := ⟨_, List.getElem?_eq_getElem hil⟩
  have hkl := hmf.key k (List.mem_of_getElem? hki)
  obtain ⟨b, o, cap2, hsl, hr⟩ := hmf.rd.some (by omega)
  cases hsl
  refine wp_skip ?_
  refine wp_seq ?_
  refine wp_block ?_
  refine rs hM ?_
  refine mv ?_
  refine rw_indexAddr rfl rfl rfl rfl (x_slice Tryz.underlying25 sz22 hil) ?_
  refine rw_loadG (v := u64 k) ld22 rfl rfl rfl (fun H' w hle' hM => by have := rd_step (size := 1) (f := fun k : Nat => [u64 k]) (fun _ => rfl) hr hki (Heap.le_trans (Heap.le_refl _) hle) H' w hle' hM 0 _ rfl; rw [Nat.add_zero] at this; exact this) ?_
  refine asg ?_
  refine asg ?_
  refine rw_nil ?_; intro w hM
  refine rs hM ?_
  refine mv ?_
  refine mv ?_
  refine rw_build (bd36_0_2 _ _) rfl rfl rfl ?_
  refine rw_buildSlN (bs30_1 _ _ _ _) rfl rfl rfl (fun q3 GQ3 nq3 lq3 eq3 kq3 => ?_)
  refine rw_ownN (v := out) rfl rfl rfl rfl (hO.mono lq3) (Heap.le_trans hle lq3) (rd_made (l := [⟨2, 0, k, 0⟩]) eq3 rfl rfl) rfl (all1 (stk _ _ hkl)) (by omega) (fun a4 S4 O4 L4 => ?_)
  refine asg ?_
  refine rw_nil ?_; intro w hM
  by_cases hz2 : i % e = 0
  ·refine rs hM ?_
   refine mv ?_
   refine mv ?_
   refine rw_bin (v := i64 ((i % e : Nat) : Int)) rfl rfl rfl rfl (b_rem i e he0) ?_
   refine rw_bin rfl rfl rfl rfl (b_true (b_eq _ _) (beq_iff_eq.2 (by rw [hz2]; rfl))) ?_
   refine rw_nil ?_; intro w hM
   refine wp_if (tmp_lt rfl) rfl (fun hc => ?_) (by nofun)
   refine re hM ?_
   refine mv ?_
   refine rw_build (bd36_0 _) rfl rfl rfl ?_
   refine rw_buildSlN (bs30_1 _ _ _ _) rfl rfl rfl (fun q2 GQ2 nq2 lq2 eq2 kq2 => ?_)
   refine rw_ownN (v := a4) rfl rfl rfl rfl (O4.mono lq2) (Heap.le_trans L4 lq2) (rd_made (l := [⟨6, 0, 0, 0⟩]) eq2 rfl rfl) rfl (all1 (st0 _ _)) (by first|(rw [List.length_append]; omega)|(rw [List.length_append, List.length_append]; omega)|(simp only [List.length_append, List.length_cons, List.length_nil]; omega)) (fun aT ST OT LT => ?_)
   refine asg ?_
   refine rw_nil ?_; intro w hM
   simp only [Exit.then, Exit.inBlock]
   refine re hM ?_
   refine rw_bin (v := i64 ((i + 1 : Nat) : Int)) rfl rfl rfl rfl (bin_eq (b_addi (b := 1) (by omega) (by omega)) (congrArg i64 (by omega))) ?_
   refine mv ?_
   refine rw_nil ?_; intro w hM
   exact ⟨ms'.length - (i + 1), _, rfl, by omega, i + 1, ST, _, aT, rfl, by omega, by simp only [List.length_append, List.length_cons, List.length_nil]; omega, Know.of ⟨rfl, rfl, rfl, rfl, rfl, rfl, rfl, rfl, trivial⟩, hM, LT, OT⟩
  ·refine rs hM ?_
   refine mv ?_
   refine mv ?_
   refine rw_bin (v := i64 ((i % e : Nat) : Int)) rfl rfl rfl rfl (b_rem i e he0) ?_
   refine rw_bin rfl rfl rfl rfl (b_false (b_eq _ _) (beq_false_of_ne (by omega))) ?_
   refine rw_nil ?_; intro w hM
   refine wp_if (tmp_lt rfl) rfl (by nofun) (fun hc => ?_)
   refine wp_skip ?_
   simp only [Exit.then, Exit.inBlock]
   refine re hM ?_
   refine rw_bin (v := i64 ((i + 1 : Nat) : Int)) rfl rfl rfl rfl (bin_eq (b_addi (b := 1) (by omega) (by omega)) (congrArg i64 (by omega))) ?_
   refine mv ?_
   refine rw_nil ?_; intro w hM
   exact ⟨ms'.length - (i + 1), _, rfl, by omega, i + 1, S4, _, a4, rfl, by omega, by simp only [List.length_append, List.length_cons, List.length_nil]; omega, Know.of ⟨rfl, rfl, rfl, rfl, rfl, rfl, rfl, rfl, trivial⟩, hM, L4, O4⟩
 ·refine wp_exit ?_
  simp only [Exit.then, Exit.inBlock, if_true]
  have hi' : i = ms'.length := by have := of_decide_eq_false hz; omega
  obtain ⟨N1, hN1⟩ : ∃ N1, N1 = l.length := ⟨_, rfl⟩
  have hN2 : N1 ≤ 9000 := by omega
  refine wp_seq ?_
  refine rs hM ?_
  refine mv ?_
  refine rw_len Tryz.underlying25 rfl rfl rfl ?_
  refine rw_bin (v := i64 ((ks'.length + 1 : Nat) : Int)) rfl rfl rfl rfl (bin_eq (b_addi (b := 1) (by omega) (by omega)) (congrArg i64 (by omega))) ?_
  refine mv ?_
  refine rw_nil ?_; intro w hM
  refine wp_block ?_
  refine wp_loop_s (fun c f w => ∃ i S l out, c = (ks'.length + 1) - i ∧ i ≤ (ks'.length + 1) ∧ l.length ≤ N1 + i ∧ Know f [(1, .slice ao' ks'.length cap'), (4, .pointer (some ⟨b4, 0, none⟩)), (9, out), (62, i64 (((ks'.length + 1) : Nat) : Int)), (63, i64 (i : Nat))] ∧ Mem w0 w S ∧ G4.le S ∧ OwnS G4 S out l) ((ks'.length + 1) - 0) ?_ ?_
  ·exact ⟨0, S, _, _, rfl, Nat.zero_le _, by omega, Know.of ⟨rfl, rfl, rfl, rfl, rfl, trivial⟩, hM, hle, hO⟩
  clear hM
  rintro c f w ⟨i, S, l, out, rfl, hi, hli, ⟨fY, rfl⟩, hM, hle, hO⟩
  refine rs hM ?_
  refine rw_bin rfl rfl rfl rfl (b_lt _ _) ?_
  refine rw_nil ?_; intro w hM
  refine wp_seq ?_
  refine wp_if (tmp_lt rfl) rfl (fun hz => ?_) (fun hz => ?_)
  ·have hil : i < (ks'.length + 1) := by have := of_decide_eq_true hz; omega
   refine wp_skip ?_
   refine wp_seq ?_
   refine wp_block ?_
   refine re hM ?_
   refine mv ?_
   refine rw_build (bd36_0 _) rfl rfl rfl ?_
   refine rw_buildSlN (bs30_1 _ _ _ _) rfl rfl rfl (fun q2 GQ2 nq2 lq2 eq2 kq2 => ?_)
   refine rw_ownN (v := out) rfl rfl rfl rfl (hO.mono lq2) (Heap.le_trans hle lq2) (rd_made (l := [⟨6, 0, 0, 0⟩]) eq2 rfl rfl) rfl (all1 (st0 _ _)) (by omega) (fun aT ST OT LT => ?_)
   refine asg ?_
   refine rw_nil ?_; intro w hM
   simp only [Exit.then, Exit.inBlock]
   refine re hM ?_
   refine rw_bin (v := i64 ((i + 1 : Nat) : Int)) rfl rfl rfl rfl (bin_eq (b_addi (b := 1) (by omega) (by omega)) (congrArg i64 (by omega))) ?_
   refine mv ?_
   refine rw_nil ?_; intro w hM
   exact ⟨(ks'.length + 1) - (i + 1), _, rfl, by omega, i + 1, ST, _, aT, rfl, by omega, by simp only [List.length_append, List.length_cons, List.length_nil]; omega, Know.of ⟨rfl, rfl, rfl, rfl, rfl, trivial⟩, hM, LT, OT⟩
  ·refine wp_exit ?_
   simp only [Exit.then, Exit.inBlock, if_true]
   refine wp_mix_seq [3, 4, 5] [5] [0, 1, 2, 3, 4, 5, 6] G4 mixed (by kernel_rfl) hle hM ?_
   refine rw_loadA t.cells ld27 rfl rfl rfl e4' rfl ?_
   refine mv ?_
   refine mv ?_
   refine rw_callD cr23 rfl rfl (fun w hM => c23 hM (hkf.mono hle) (by omega)) rfl (fun _ => rfl) ?_; rintro v3 S3 ⟨L3, l3, hn3, O3⟩; refine ⟨Heap.le_trans hle L3, ?_⟩
   refine rw_ownD (v := out) rfl rfl rfl rfl (hO.mono L3) (Heap.le_trans hle L3) O3.sl.rd rfl O3.ty (by omega) rfl (u := v3) (fun a9 S9 O9 L9 => ?_)
   refine rw_callE cr22 rfl rfl (fun w hM => c22o hM hDb ht (hR.ok h0) O9 (by first|(rw [List.length_append]; omega)|(rw [List.length_append, List.length_append]; omega)|(simp only [List.length_append, List.length_cons, List.length_nil]; omega))) rfl (fun _ => ⟨rfl, rfl⟩) ?_; rintro _ SZ ⟨rfl, rfl⟩
   refine asg ?_
   refine rw_nil ?_; intro w hM
   refine wp_ret ?_
   exact post_tmp (v := .bool true) rfl rfl rfl ⟨rfl, hM.below⟩
set_option maxRecDepth 100000 in
theorem lifted15 (os : Os) (started : os.Started) (H : Type) (enc : TypeId × Value → H) :
  ReturnsInHanded {} Tryz.checked os 15 .any (fun w args => (Rows.fnWhileShrinkingSpec.pre enc Tryz.prog Tryz.f15 [] false w args ∧ laidMetH Tryz.prog laidDb w) ∧ sizedMet enc Tryz.prog Tryz.f15 (OpenSpec.ofChange Rows.fnWhileShrinkingSpec) false w args)
   (Rows.fnWhileShrinkingSpec.post enc Tryz.prog Tryz.f15 false true false false) := by
 refine returnsInHanded_of_change_and (C := Tryz.checked) (X := fun w _ => laidMetH Tryz.prog laidDb w) (fun _ _ _ hh h => h.of_heap hh) own started (by kernel_rfl) Tryz.func15
  (ChangeSpec.witness_shaped (enc := enc) (C := Tryz.checked) (os := os) (X := fun w _ => laidMetH Tryz.prog laidDb w) false (World.doorLaid Tryz.prog 14 os) #[.agg #[.bool false, .int .i64 0, .int .u64 0, .int .u64 0, .int .u64 0, .int .i64 0, .slice none 0 0], .slice none 0 0, .slice none 0 0, .int .i64 0] 8 rfl (World.shaped_of_RefB (by kernel_rfl) (by kernel_rfl)) (by kernel_rfl) (by kernel_rfl) (by kernel_rfl) (door_met os _)) ?_
 intro W base args ds gs before hval0 hW _ _ hL _
 have hval : ∀ (j : Nat) t v, Tryz.f15.params[j]? = some t → args[j]? = some v → Value.okWide Tryz.prog W .any base t v := hval0
 have hW' := hW
 obtain ⟨p, q, hA0, hV, rfl, hfz, hnd⟩ := hW
 have hA : DataW.TrodAll enc Tryz.prog W 0 (fun _ => true) true Tryz.f15.params.toList args.toList ds p := hA0
 rw [Tryz.params15] at hA hval
 obtain ⟨v0, v1, v2, v3, d0, d1, d2, d3, p0, p1, p2, p3, rfl, rfl, rfl, h0, h1, h2, h3⟩ := trodAll_four hA
 obtain ⟨rfl, rfl⟩ := trodVars_none hV
 have hDb := hasDb_of hL
 have lt0 : ∀ x ∈ p0, x.block < W.heap.size := by obtain ⟨m, hm⟩ := h0; exact DataW.trod_lt m _ _ _ hm
 have lt1 : ∀ x ∈ p1, x.block < W.heap.size := by obtain ⟨m, hm⟩ := h1; exact DataW.trod_lt m _ _ _ hm
 have lt2 : ∀ x ∈ p2, x.block < W.heap.size := by obtain ⟨m, hm⟩ := h2; exact DataW.trod_lt m _ _ _ hm
 obtain ⟨t0, e0, ht0, hR0⟩ := tab_open (hval 0 27 v0 rfl rfl) h0
 obtain ⟨ks1, hk1⟩ := keys_open (hval 1 25 v1 rfl rfl) h1
 obtain ⟨ks2, hk2⟩ := keys_open (hval 2 25 v2 rfl rfl) h2
 obtain ⟨x3, rfl, rfl, rfl, w3⟩ := open_int Tryz.underlying3 (hval 3 3 v3 rfl rfl) h3
 clear hA0 hval0
 have run := walk15 hDb ht0 hR0 hk1 hk2 (wf_i64_of w3)
 rw [← e0] at run
 refine run.mono fun e W' ⟨he, bel⟩ => ?_
 subst he
 exact ⟨_, rfl, _, _, _, [], _, [], hW', trodAll_mk1 (shut_bool Tryz.underlying4 _), (trodAll_mk4 (Below.trod laidOut (by kernel_rfl) (of_decide_eq_true (by kernel_rfl)) h0 bel lt0) (Below.trod laidOut (by kernel_rfl) (of_decide_eq_true (by kernel_rfl)) h1 bel lt1) (Below.trod laidOut (by kernel_rfl) (of_decide_eq_true (by kernel_rfl)) h2 bel lt2) (shut_int Tryz.underlying3 w3)), rfl, bel.frame _, fun h => by cases h⟩
theorem fnWhileShrinking_holds : Rows.FnWhileShrinkingSaid :=
 OpenClaim.holds_of_wide 15 Tryz.f15 rfl rfl rfl rfl rfl rfl rfl ⟨rfl, rfl, rfl, rfl, rfl⟩ rfl rfl rfl rfl rfl (by kernel_rfl) Tryz.func15 (by kernel_rfl)
  (of_decide_eq_true (by kernel_rfl)) (by unfold Func.isWrapper; rw [if_neg (of_decide_eq_false (by kernel_rfl))]; exact ⟨rfl, rfl⟩)
  (fun os started H enc _ => lifted15 os started H enc)
theorem fnWhileShrinking_card : Rows.FnWhileShrinkingCardSaid :=
 Claim7.holds_tied_plain_at .later [] [.data] true (true, "90126d0d88ad080e19404430648cf5f7fba61eeb2d65f4e3e95714f42eea46f3") false
  fnWhileShrinking_holds (fun _ h => by cases h) (by kernel_rfl) (fun _ h => by cases h) fnWhileShrinking_row_tie rfl ⟨rfl, rfl⟩ (by kernel_rfl) rfl
  (fun f fn hf hfn => by
   obtain rfl : f = 15 := Option.some.inj ((show Tryz.prog.funcNamed "runtimemaps/laws.FnWhileShrinking" = some 15 by kernel_rfl).symm.trans hf) |>.symm
   obtain rfl : fn = Tryz.f15 := (Option.some.inj (Tryz.func15.symm.trans hfn)).symm
   exact ⟨by kernel_rfl, fun j t ht => by
    rw [Tryz.params15] at ht
    have hm : t ∈ [27, 25, 25, 3] := by simpa using Array.mem_of_getElem? ht
    have hall : ([27, 25, 25, 3].all fun u => !Tryz.prog.wantsStandIn u) = true := by kernel_rfl
    exact (show Tryz.prog.wantsStandIn t = false by simpa using List.all_eq_true.1 hall t hm)⟩)
  (by kernel_rfl)
#print axioms fnWhileShrinking_card
end Go.Proofs.YtddpfkcofmfmpaaGreatDoor
