/-
 In whatever order different keys are put, each has its element: the law FnOrder returns true, at every table, all keys and every order.
 Conditions: the library's table deBruijn64tab reads as its text lays it (tied by the card); the law itself bounds the sizes of what it is handed.
-/
import Derived.Test.YtddpfkcofmfmpaaGreatDoorQ29
namespace Go.Proofs.YtddpfkcofmfmpaaGreatDoor
open Go Go.RowKit
open Go.ChangeShapes Go.WideShapes Go.ChangeAt
set_option maxRecDepth 20000
theorem walk11 {w0 : World} (hDb : HasDb w0) {t : TabV} (ht : t.OK) (hR : OffRd w0 t) {v v2 : Value} {ks : List Nat} {zs : List Int} (hk : KeysR w0 noH v ks) (hz : IntsR w0 noH v2 zs) :
  Calls Tryz.prog 11 [.agg t.cells.toArray, v, v2].toArray w0 (True0 w0) := by
 obtain ⟨ao, cap, rfl, hcap⟩ := hk.shape
 obtain ⟨ao2, cap2, rfl, hcap2⟩ := hz.shape
 refine calls_start Tryz.func11 rfl Tryz.ntmps11 (Nat.le_of_ble_eq_true rfl) ?_
 have hM := mem0 w0
 refine rs hM ?_
 refine rw_boxN (v := .agg t.cells.toArray) rfl rfl rfl (fun b3 G3 n3 l3 e3 k3 => ?_)
 refine asg ?_
 refine rw_nil ?_; intro w hM
 have e3' : G3 b3 = some (encTab t) := e3
 refine wp_seq_mid (fun f w => Know f [(1, .slice ao ks.length cap), (2, .slice ao2 zs.length cap2), (3, .pointer (some ⟨b3, 0, none⟩))] ∧ Mem w0 w G3 ∧ t.on ≤ 2147483647 ∧ ¬ (ks.length : Int) > 2147483647 ∧ ¬ (zs.length : Int) > 2147483647) ?_ ?_
 ·by_cases h0 : t.on ≤ 2147483647
  ·skip
   by_cases h1 : (ks.length : Int) > 2147483647
   ·refine rs hM ?_
    refine rw_loadA t.cells ld27 rfl rfl rfl e3' rfl ?_
    refine rw_callq (v := .bool true) cr18 rfl rfl (fun H' w hle hM => by have := c18 hM (t := t); rw [decide_eq_true h0] at this; exact this) rfl ?_
    refine rw_un rfl rfl rfl (u_not _) ?_
    refine mv ?_
    refine mv ?_
    refine rw_len Tryz.underlying25 rfl rfl rfl ?_
    refine rw_bin rfl rfl rfl rfl (b_true (b_gt _ _) (decide_eq_true h1)) ?_
    refine rw_pick rfl rfl rfl rfl rfl ?_
    refine mv ?_
    refine rw_skip rfl rfl ?_
    refine rw_skip rfl rfl ?_
    refine rw_skip rfl rfl ?_
    refine rw_pick rfl rfl rfl rfl rfl ?_
    refine rw_nil ?_; intro w hM
    refine wp_if (tmp_lt rfl) rfl (fun hc => ?_) (by nofun)
    refine rs hM ?_
    refine asg ?_
    refine rw_nil ?_; intro w hM
    refine wp_ret ?_
    simp only [Exit.then]
    exact post_tmp (v := .bool true) rfl rfl rfl ⟨rfl, hM.below⟩
   by_cases h2 : (zs.length : Int) > 2147483647
   ·refine rs hM ?_
    refine rw_loadA t.cells ld27 rfl rfl rfl e3' rfl ?_
    refine rw_callq (v := .bool true) cr18 rfl rfl (fun H' w hle hM => by have := c18 hM (t := t); rw [decide_eq_true h0] at this; exact this) rfl ?_
    refine rw_un rfl rfl rfl (u_not _) ?_
    refine mv ?_
    refine mv ?_
    refine rw_len Tryz.underlying25 rfl rfl rfl ?_
    refine rw_bin rfl rfl rfl rfl (b_false (b_gt _ _) (decide_eq_false h1)) ?_
    refine rw_pick rfl rfl rfl rfl rfl ?_
    refine mv ?_
    refine mv ?_
    refine rw_len Tryz.underlying47 rfl rfl rfl ?_
    refine rw_bin rfl rfl rfl rfl (b_true (b_gt _ _) (decide_eq_true h2)) ?_
    refine rw_pick rfl rfl rfl rfl rfl ?_
    refine rw_nil ?_; intro w hM
    refine wp_if (tmp_lt rfl) rfl (fun hc => ?_) (by nofun)
    refine rs hM ?_
    refine asg ?_
    refine rw_nil ?_; intro w hM
    refine wp_ret ?_
    simp only [Exit.then]
    exact post_tmp (v := .bool true) rfl rfl rfl ⟨rfl, hM.below⟩
   refine rs hM ?_
   refine rw_loadA t.cells ld27 rfl rfl rfl e3' rfl ?_
   refine rw_callq (v := .bool true) cr18 rfl rfl (fun H' w hle hM => by have := c18 hM (t := t); rw [decide_eq_true h0] at this; exact this) rfl ?_
   refine rw_un rfl rfl rfl (u_not _) ?_
   refine mv ?_
   refine mv ?_
   refine rw_len Tryz.underlying25 rfl rfl rfl ?_
   refine rw_bin rfl rfl rfl rfl (b_false (b_gt _ _) (decide_eq_false h1)) ?_
   refine rw_pick rfl rfl rfl rfl rfl ?_
   refine mv ?_
   refine mv ?_
   refine rw_len Tryz.underlying47 rfl rfl rfl ?_
   refine rw_bin rfl rfl rfl rfl (b_false (b_gt _ _) (decide_eq_false h2)) ?_
   refine rw_pick rfl rfl rfl rfl rfl ?_
   refine rw_nil ?_; intro w hM
   refine wp_if (tmp_lt rfl) rfl (by nofun) (fun hc => ?_)
   refine wp_skip ?_
   exact ⟨_, rfl, Know.of ⟨rfl, rfl, rfl, trivial⟩, hM, h0, h1, h2⟩
  ·refine rs hM ?_
   refine rw_loadA t.cells ld27 rfl rfl rfl e3' rfl ?_
   refine rw_callq (v := .bool false) cr18 rfl rfl (fun H' w hle hM => by have := c18 hM (t := t); rw [decide_eq_false h0] at this; exact this) rfl ?_
   refine rw_un rfl rfl rfl (u_not _) ?_
   refine mv ?_
   refine rw_skip rfl rfl ?_
   refine rw_skip rfl rfl ?_
   refine rw_skip rfl rfl ?_
   refine rw_pick rfl rfl rfl rfl rfl ?_
   refine mv ?_
   refine rw_skip rfl rfl ?_
   refine rw_skip rfl rfl ?_
   refine rw_skip rfl rfl ?_
   refine rw_pick rfl rfl rfl rfl rfl ?_
   refine rw_nil ?_; intro w hM
   refine wp_if (tmp_lt rfl) rfl (fun hc => ?_) (by nofun)
   refine rs hM ?_
   refine asg ?_
   refine rw_nil ?_; intro w hM
   refine wp_ret ?_
   simp only [Exit.then]
   exact post_tmp (v := .bool true) rfl rfl rfl ⟨rfl, hM.below⟩
 clear hM
 rintro f w ⟨⟨f1, rfl⟩, hM, h0, h1, h2⟩
 have hkf : KeysR w0 G3 (sliced ao 0 (min ks.length 1500) cap 1) (ks.take 1500) := (hk.mono fun x u hx => by cases hx).few
 obtain ⟨kv, hkv⟩ : ∃ kv, kv = sliced ao 0 (min ks.length 1500) cap 1 := ⟨_, rfl⟩
 obtain ⟨ks', hks'⟩ : ∃ ks', ks' = ks.take 1500 := ⟨_, rfl⟩
 have hl' : ks'.length ≤ 1500 := by rw [hks', List.length_take]; omega
 rw [← hkv, ← hks'] at hkf
 refine rs hM ?_
 refine mv ?_
 refine rw_callq (v := kv) cr19 rfl rfl (fun H' w hle hM => by rw [hkv]; exact c19 (m := 1500) hM hcap) rfl ?_
 refine asg ?_
 refine rw_nil ?_; intro w hM
 obtain ⟨ao', cap', rfl, _⟩ := hkf.shape
 refine rs hM ?_
 refine mv ?_
 refine rw_callE cr20 rfl rfl (fun w hM => c20 hM hkf (by omega)) rfl (by nofun) ?_; rintro v1 S1 ⟨LS1, lS1, hnS1, O1⟩
 refine asg ?_
 refine rw_nil ?_; intro w hM
 obtain ⟨oo, oc, rfl⟩ := O1.sl.shape
 refine rs hM ?_
 refine rw_makeMapN rfl rfl (fun bs Gs ns ls es kGs => ?_)
 refine asg ?_
 refine rw_nil ?_; intro w hM
 have hbs0 : G3 bs = none := le_none LS1 ns
 have hvb : ∀ x, (Value.slice oo lS1.length oc).ownBlock = some x → x ≠ bs := fun x hx e => by
  obtain ⟨cur, hc⟩ := O1.sl.blk hx
  rw [e, ns] at hc; cases hc
 refine wp_seq ?_
 refine rs hM ?_
 refine mv ?_
 refine rw_len Tryz.underlying25 rfl rfl rfl ?_
 refine mv ?_
 refine rw_nil ?_; intro w hM
 refine wp_block ?_
 refine wp_loop_s (fun c f w => ∃ i S o g, c = ks'.length - i ∧ i ≤ ks'.length ∧ Know f [(1, .slice ao' ks'.length cap'), (2, .slice ao2 zs.length cap2), (3, .pointer (some ⟨b3, 0, none⟩)), (7, .slice oo lS1.length oc), (8, .map (some bs)), (31, .slice ao' ks'.length cap'), (32, i64 (ks'.length : Nat)), (33, i64 (i : Nat))] ∧ Mem w0 w S ∧ G3.le S ∧ S bs = some o ∧ MapOf .u64 o (seenF g) ∧ OwnS G3 S (.slice oo lS1.length oc) lS1) (ks'.length - 0) ?_ ?_
 ·exact ⟨0, Gs, _, fun _ => false, rfl, Nat.zero_le _, Know.of ⟨rfl, rfl, rfl, rfl, rfl, rfl, rfl, rfl, trivial⟩, hM, Heap.le_trans LS1 ls, es, (MapOf.new .u64).ext fun a => by unfold seenF; rw [if_neg]; intro h; exact absurd h.2 (by simp), O1.mono ls⟩
 clear hM
 rintro c f w ⟨i, S, o, g, rfl, hi, ⟨fX, rfl⟩, hM, hle, hbs, hmo, hO⟩
 refine rs hM ?_
 refine rw_bin rfl rfl rfl rfl (b_lt _ _) ?_
 refine rw_nil ?_; intro w hM
 refine wp_seq ?_
 refine wp_if (tmp_lt rfl) rfl (fun hz1 => ?_) (fun hz1 => ?_)
 ·have hil : i < ks'.length := by have := of_decide_eq_true hz1; omega
  obtain ⟨k, hki⟩ : ∃ k, ks'[i]? = some k := ⟨_, List.getElem?_eq_getElem hil⟩
  have hkl := hkf.key k (List.mem_of_getElem? hki)
  obtain ⟨b, o2, cap3, hsl, hr⟩ := hkf.rd.some (by omega)
  cases hsl
  have e3S : S b3 = some (encTab t) := hle _ _ e3'
  refine wp_skip ?_
  refine wp_seq ?_
  refine wp_block ?_
  refine rs hM ?_
  refine rw_indexAddr rfl rfl rfl rfl (x_slice Tryz.underlying25 sz22 hil) ?_
  refine rw_loadG (v := u64 k) ld22 rfl rfl rfl (fun H' w hle' hM => by have := rd_step (size := 1) (f := fun k : Nat => [u64 k]) (fun _ => rfl) hr hki hle H' w hle' hM 0 _ rfl; rw [Nat.add_zero] at this; exact this) ?_
  refine asg ?_
  refine rw_nil ?_; intro w hM
  refine wp_seq_mid (fun f w => Know f [(1, .slice (some ⟨b, o2, none⟩) ks'.length cap'), (2, .slice ao2 zs.length cap2), (3, .pointer (some ⟨b3, 0, none⟩)), (7, .slice oo lS1.length oc), (8, .map (some bs)), (10, u64 k), (31, .slice (some ⟨b, o2, none⟩) ks'.length cap'), (32, i64 (ks'.length : Nat)), (33, i64 (i : Nat))] ∧ Mem w0 w S) ?_ ?_
  ·cases hg : g k with
   | true =>
    refine rs hM ?_
    refine mv ?_
    refine mv ?_
    refine rw_lookup (v := .bool true) Tryz.underlying48 Tryz.underlying22 Tryz.zeroValue4 rfl rfl rfl rfl hbs hmo (wf_u64 hkl) (by rw [seenF_at, hg]) ?_
    refine mv ?_
    refine rw_skip rfl rfl ?_
    refine rw_skip rfl rfl ?_
    refine rw_skip rfl rfl ?_
    refine rw_skip rfl rfl ?_
    refine rw_pick rfl rfl rfl rfl rfl ?_
    refine mv ?_
    refine rw_skip rfl rfl ?_
    refine rw_skip rfl rfl ?_
    refine rw_skip rfl rfl ?_
    refine rw_skip rfl rfl ?_
    refine rw_skip rfl rfl ?_
    refine rw_skip rfl rfl ?_
    refine rw_pick rfl rfl rfl rfl rfl ?_
    refine rw_nil ?_; intro w hM
    refine wp_if (tmp_lt rfl) rfl (fun hc => ?_) (by nofun)
    refine rs hM ?_
    refine rw_callE cr25 rfl rfl (fun w hM => c25o hM hDb) rfl (by nofun) ?_; rintro _ SZ ⟨rfl, rfl⟩
    refine asg ?_
    refine rw_nil ?_; intro w hM
    refine wp_ret ?_
    simp only [Exit.then, Exit.inBlock]
    exact post_tmp (v := .bool true) rfl rfl rfl ⟨rfl, hM.below⟩
   | false =>
    cases hn : nanB t.floats k with
    | true =>
     refine rs hM ?_
     refine mv ?_
     refine mv ?_
     refine rw_lookup (v := .bool false) Tryz.underlying48 Tryz.underlying22 Tryz.zeroValue4 rfl rfl rfl rfl hbs hmo (wf_u64 hkl) (by rw [seenF_at, hg]) ?_
     refine mv ?_
     refine fa fr27_0 ?_
     refine lo (v := .bool t.floats) ld4 e3S ?_
     refine mv ?_
     refine rw_callq (v := .bool true) cr27 rfl rfl (fun H' w hle hM => by have := c27 hM t.floats k; rw [hn] at this; exact this) rfl ?_
     refine rw_pick rfl rfl rfl rfl rfl ?_
     refine mv ?_
     refine rw_skip rfl rfl ?_
     refine rw_skip rfl rfl ?_
     refine rw_skip rfl rfl ?_
     refine rw_skip rfl rfl ?_
     refine rw_skip rfl rfl ?_
     refine rw_skip rfl rfl ?_
     refine rw_pick rfl rfl rfl rfl rfl ?_
     refine rw_nil ?_; intro w hM
     refine wp_if (tmp_lt rfl) rfl (fun hc => ?_) (by nofun)
     refine rs hM ?_
     refine rw_callE cr25 rfl rfl (fun w hM => c25o hM hDb) rfl (by nofun) ?_; rintro _ SZ ⟨rfl, rfl⟩
     refine asg ?_
     refine rw_nil ?_; intro w hM
     refine wp_ret ?_
     simp only [Exit.then, Exit.inBlock]
     exact post_tmp (v := .bool true) rfl rfl rfl ⟨rfl, hM.below⟩
    | false =>
     cases hf : t.floats with
     | false =>
      skip
      refine rs hM ?_
      refine mv ?_
      refine mv ?_
      refine rw_lookup (v := .bool false) Tryz.underlying48 Tryz.underlying22 Tryz.zeroValue4 rfl rfl rfl rfl hbs hmo (wf_u64 hkl) (by rw [seenF_at, hg]) ?_
      refine mv ?_
      refine fa fr27_0 ?_
      refine lo (v := .bool t.floats) ld4 e3S ?_
      refine mv ?_
      refine rw_callq (v := .bool false) cr27 rfl rfl (fun H' w hle hM => by have := c27 hM t.floats k; rw [hn] at this; exact this) rfl ?_
      refine rw_pick rfl rfl rfl rfl rfl ?_
      refine mv ?_
      refine fa fr27_0 ?_
      refine rw_load (v := .bool false) ld4 rfl rfl rfl e3S (congrArg (fun b => some (Value.bool b)) hf) ?_
      refine mv ?_
      refine rw_skip rfl rfl ?_
      refine rw_skip rfl rfl ?_
      refine rw_pick rfl rfl rfl rfl rfl ?_
      refine rw_pick rfl rfl rfl rfl rfl ?_
      refine rw_nil ?_; intro w hM
      refine wp_if (tmp_lt rfl) rfl (by nofun) (fun hc => ?_)
      refine wp_skip ?_
      exact ⟨_, rfl, Know.of ⟨rfl, rfl, rfl, rfl, rfl, rfl, rfl, rfl, rfl, trivial⟩, hM⟩
     | true =>
      cases hs : sameB true k 0 with
      | true =>
       refine rs hM ?_
       refine mv ?_
       refine mv ?_
       refine rw_lookup (v := .bool false) Tryz.underlying48 Tryz.underlying22 Tryz.zeroValue4 rfl rfl rfl rfl hbs hmo (wf_u64 hkl) (by rw [seenF_at, hg]) ?_
       refine mv ?_
       refine fa fr27_0 ?_
       refine lo (v := .bool t.floats) ld4 e3S ?_
       refine mv ?_
       refine rw_callq (v := .bool false) cr27 rfl rfl (fun H' w hle hM => by have := c27 hM t.floats k; rw [hn] at this; exact this) rfl ?_
       refine rw_pick rfl rfl rfl rfl rfl ?_
       refine mv ?_
       refine fa fr27_0 ?_
       refine rw_load (v := .bool true) ld4 rfl rfl rfl e3S (congrArg (fun b => some (Value.bool b)) hf) ?_
       refine mv ?_
       refine mv ?_
       refine rw_callq (v := .bool true) cr28 rfl rfl (fun H' w hle hM => by have := c28 hM true k 0; rw [hs] at this; exact this) rfl ?_
       refine rw_pick rfl rfl rfl rfl rfl ?_
       refine rw_pick rfl rfl rfl rfl rfl ?_
       refine rw_nil ?_; intro w hM
       refine wp_if (tmp_lt rfl) rfl (fun hc => ?_) (by nofun)
       refine rs hM ?_
       refine rw_callE cr25 rfl rfl (fun w hM => c25o hM hDb) rfl (by nofun) ?_; rintro _ SZ ⟨rfl, rfl⟩
       refine asg ?_
       refine rw_nil ?_; intro w hM
       refine wp_ret ?_
       simp only [Exit.then, Exit.inBlock]
       exact post_tmp (v := .bool true) rfl rfl rfl ⟨rfl, hM.below⟩
      | false =>
       refine rs hM ?_
       refine mv ?_
       refine mv ?_
       refine rw_lookup (v := .bool false) Tryz.underlying48 Tryz.underlying22 Tryz.zeroValue4 rfl rfl rfl rfl hbs hmo (wf_u64 hkl) (by rw [seenF_at, hg]) ?_
       refine mv ?_
       refine fa fr27_0 ?_
       refine lo (v := .bool t.floats) ld4 e3S ?_
       refine mv ?_
       refine rw_callq (v := .bool false) cr27 rfl rfl (fun H' w hle hM => by have := c27 hM t.floats k; rw [hn] at this; exact this) rfl ?_
       refine rw_pick rfl rfl rfl rfl rfl ?_
       refine mv ?_
       refine fa fr27_0 ?_
       refine rw_load (v := .bool true) ld4 rfl rfl rfl e3S (congrArg (fun b => some (Value.bool b)) hf) ?_
       refine mv ?_
       refine mv ?_
       refine rw_callq (v := .bool false) cr28 rfl rfl (fun H' w hle hM => by have := c28 hM true k 0; rw [hs] at this; exact this) rfl ?_
       refine rw_pick rfl rfl rfl rfl rfl ?_
       refine rw_pick rfl rfl rfl rfl rfl ?_
       refine rw_nil ?_; intro w hM
       refine wp_if (tmp_lt rfl) rfl (by nofun) (fun hc => ?_)
       refine wp_skip ?_
       exact ⟨_, rfl, Know.of ⟨rfl, rfl, rfl, rfl, rfl, rfl, rfl, rfl, rfl, trivial⟩, hM⟩
  clear hM
  rintro f w ⟨⟨fZ, rfl⟩, hM⟩
  refine re hM ?_
  refine mv ?_
  refine mv ?_
  refine rw_mapUpdateN Tryz.underlying48 Tryz.underlying22 rfl rfl rfl rfl rfl hbs hmo (wf_u64 hkl) (fun o' S11 ho' hS11 kS11 => ?_)
  refine rw_nil ?_; intro w hM
  simp only [Exit.then, Exit.inBlock]
  refine re hM ?_
  refine rw_bin (v := i64 ((i + 1 : Nat) : Int)) rfl rfl rfl rfl (bin_eq (b_addi (b := 1) (by omega) (by omega)) (congrArg i64 (by omega))) ?_
  refine mv ?_
  refine rw_nil ?_; intro w hM
  exact ⟨ks'.length - (i + 1), _, rfl, by omega, i + 1, S11, o', fun x => if x = k then true else g x, rfl, by omega, Know.of ⟨rfl, rfl, rfl, rfl, rfl, rfl, rfl, rfl, trivial⟩, hM, fun x u hx => (kS11 x fun e => by rw [e, hbs0] at hx; cases hx).trans (hle x u hx), hS11, ho'.ext fun a => seenF_cnt _ _ _ (if_pos rfl) (fun x hx => if_neg hx) a, ⟨hO.sl.move fun x u hx hb => (kS11 x (hvb x hb)).trans hx, hO.ty, hO.fresh⟩⟩
 ·refine wp_exit ?_
  simp only [Exit.then, Exit.inBlock, if_true]
  clear hbs hmo hvb
  obtain ⟨e, he⟩ : ∃ e : Nat, e = min zs.length lS1.length := ⟨_, rfl⟩
  refine wp_seq ?_
  refine rs hM ?_
  refine mv ?_
  refine rw_len Tryz.underlying47 rfl rfl rfl ?_
  refine mv ?_
  refine rw_len Tryz.underlying30 rfl rfl rfl ?_
  refine rw_min rfl rfl rfl rfl ?_
  refine mv ?_
  refine rw_nil ?_; intro w hM
  have hmin : (if ((lS1.length : Nat) : Int) < (zs.length : Nat) then ((lS1.length : Nat) : Int) else (zs.length : Nat)) = (e : Nat) := by
   by_cases h : lS1.length < zs.length
   ·rw [if_pos (by omega)]; omega
   ·rw [if_neg (by omega)]; omega
  rw [hmin]
  refine wp_block ?_
  refine wp_loop_s (fun c f w => ∃ i S l, c = e - i ∧ i ≤ e ∧ l.length = lS1.length ∧ Know f [(1, .slice ao' ks'.length cap'), (2, .slice ao2 zs.length cap2), (3, .pointer (some ⟨b3, 0, none⟩)), (7, .slice oo lS1.length oc), (62, i64 (e : Nat)), (63, i64 (i : Nat))] ∧ Mem w0 w S ∧ G3.le S ∧ OwnS G3 S (.slice oo lS1.length oc) l) (e - 0) ?_ ?_
  ·exact ⟨0, S, _, rfl, Nat.zero_le _, rfl, Know.of ⟨rfl, rfl, rfl, rfl, rfl, rfl, trivial⟩, hM, hle, hO⟩
  clear hM hO hle
  rintro c f w ⟨j, S, l, rfl, hj, hll, ⟨fY, rfl⟩, hM, hle, hO⟩
  refine rs hM ?_
  refine rw_bin rfl rfl rfl rfl (b_lt _ _) ?_
  refine rw_nil ?_; intro w hM
  refine wp_seq ?_
  refine wp_if (tmp_lt rfl) rfl (fun hz2 => ?_) (fun hz2 => ?_)
  ·have hjl : j < e := by have := of_decide_eq_true hz2; omega
   obtain ⟨z, hzj⟩ : ∃ z, zs[j]? = some z := ⟨_, List.getElem?_eq_getElem (by omega)⟩
   obtain ⟨b, o2, cap3, hsl, hrz⟩ := hz.rd.some (by omega)
   cases hsl
   obtain ⟨um, hum, hconv⟩ := c_wrap z
   obtain ⟨q, hq⟩ : ∃ q, q = um % lS1.length := ⟨_, rfl⟩
   have hql : q < lS1.length := by rw [hq]; exact Nat.mod_lt _ (by omega)
   refine wp_skip ?_
   refine wp_seq ?_
   refine wp_block ?_
   refine rs hM ?_
   refine mv ?_
   refine asg ?_
   refine rw_nil ?_; intro w hM
   refine rs hM ?_
   refine mv ?_
   refine mv ?_
   refine rw_indexAddr rfl rfl rfl rfl (x_slice Tryz.underlying47 sz3 (by omega)) ?_
   refine rw_loadG (v := i64 z) ld3 rfl rfl rfl (fun H' w hle' hM => by have := rd_step (size := 1) (f := fun z : Int => [i64 z]) (fun _ => rfl) hrz hzj (fun x u hx => by cases hx) H' w hle' hM 0 _ rfl; rw [Nat.add_zero] at this; exact this) ?_
   refine rw_conv (v := u64 um) rfl rfl rfl hconv ?_
   refine mv ?_
   refine rw_len Tryz.underlying30 rfl rfl rfl ?_
   refine rw_conv (v := u64 lS1.length) rfl rfl rfl (c_u64 Tryz.underlying3 Tryz.underlying37 _ (by omega)) ?_
   refine rw_bin (v := u64 q) rfl rfl rfl rfl (by rw [hq]; exact b_rem64 um _ (by omega)) ?_
   refine rw_conv (v := i64 (q : Nat)) rfl rfl rfl (c_i64 Tryz.underlying37 Tryz.underlying3 (by omega) (by omega)) ?_
   refine asg ?_
   refine rw_nil ?_; intro w hM
   obtain ⟨gb, cp, cc, hv, hSg, hcs, hlc, hg0⟩ := hO.block (by omega)
   injection hv with hv1 hv2 hv3
   subst hv3
   subst hv1
   obtain ⟨b', o', cap4, hsl', hr⟩ := hO.sl.rd.some (by omega)
   injection hsl' with hs1 hs2 hs3
   cases hs1
   obtain ⟨si, hsi⟩ : ∃ s, l[j]? = some s := ⟨_, List.getElem?_eq_getElem (by omega)⟩
   obtain ⟨sq, hsq⟩ : ∃ s, l[q]? = some s := ⟨_, List.getElem?_eq_getElem (by omega)⟩
   refine wp_mix_end [13, 15] [13, 15] [0, 1, 2, 3, 4, 5, 6, 7, 8, 9, 10, 11, 12, 13, 14, 15] S mixed (by kernel_rfl) (Heap.le_refl _) hM ?_
   refine mv ?_
   refine mv ?_
   refine mv ?_
   refine mv ?_
   refine mv ?_
   refine mv ?_
   refine rw_indexAddr rfl rfl rfl rfl (x_slice Tryz.underlying30 sz36 hql) ?_
   refine rw_loadAG (stepC sq) ld36 rfl rfl rfl (rd_step stepC_len hr hsq (Heap.le_refl _)) ?_
   refine mv ?_
   refine mv ?_
   refine rw_indexAddr rfl rfl rfl rfl (x_slice Tryz.underlying30 sz36 (show j < lS1.length by omega)) ?_
   refine rw_loadAG (stepC si) ld36 rfl rfl rfl (rd_step stepC_len hr hsi (Heap.le_refl _)) ?_
   refine rw_indexAddr rfl rfl rfl rfl (x_slice Tryz.underlying30 sz36 (show j < lS1.length by omega)) ?_
   refine rw_storeM (v := .agg (stepC sq).toArray) (c' := setMany cc (j * 4) (stepC sq)) sz36 rfl rfl rfl rfl hSg (by show setMany cc (0 + j * 4) (stepC sq) = _; rw [Nat.zero_add]) rfl (by omega) rfl (fun _ => ⟨rfl, rfl⟩) (fun SA hSA kSA => ?_)
   refine rw_indexAddr rfl rfl rfl rfl (x_slice Tryz.underlying30 sz36 hql) ?_
   refine rw_storeM (v := .agg (stepC si).toArray) (c' := setMany (setMany cc (j * 4) (stepC sq)) (q * 4) (stepC si)) sz36 rfl rfl rfl rfl hSA (by show setMany _ (0 + q * 4) (stepC si) = _; rw [Nat.zero_add]) rfl (by rw [setMany_size]; omega) rfl (fun _ => ⟨rfl, rfl⟩) (fun SB hSB kSB => ?_)
   refine rw_nil ?_; intro w hM
   have O1' := hO.set (i := j) (by omega) (hO.ty _ (List.mem_of_getElem? hsq)) hSg hSA
   have O2' := O1'.set (i := q) (by rw [List.length_set]; omega) (hO.ty _ (List.mem_of_getElem? hsi)) hSA hSB
   simp only [Exit.then, Exit.inBlock]
   refine re hM ?_
   refine rw_bin (v := i64 ((j + 1 : Nat) : Int)) rfl rfl rfl rfl (bin_eq (b_addi (b := 1) (by omega) (by omega)) (congrArg i64 (by omega))) ?_
   refine mv ?_
   refine rw_nil ?_; intro w hM
   exact ⟨e - (j + 1), _, rfl, by omega, j + 1, SB, _, rfl, by omega, by rw [List.length_set, List.length_set]; exact hll, Know.of ⟨rfl, rfl, rfl, rfl, rfl, rfl, trivial⟩, hM, fun x u hx => by
    have hne : x ≠ gb := fun e => by rw [e, hg0] at hx; cases hx
    exact (kSB x hne).trans ((kSA x hne).trans (hle x u hx)), O2'⟩
  ·refine wp_exit ?_
   simp only [Exit.then, Exit.inBlock, if_true]
   refine wp_mix_seq [3, 4, 5] [5] [0, 1, 2, 3, 4, 5, 6] G3 mixed (by kernel_rfl) hle hM ?_
   refine rw_loadA t.cells ld27 rfl rfl rfl e3' rfl ?_
   refine mv ?_
   refine mv ?_
   refine rw_callD cr23 rfl rfl (fun w hM => c23 hM (hkf.mono hle) (by omega)) rfl (fun _ => rfl) ?_; rintro v3 S3 ⟨L3, l3, hn3, O3⟩; refine ⟨Heap.le_trans hle L3, ?_⟩
   refine rw_ownD (v := .slice oo lS1.length oc) rfl rfl rfl rfl (hO.mono L3) (Heap.le_trans hle L3) O3.sl.rd rfl O3.ty (by omega) rfl (u := v3) (fun a9 S9 O9 L9 => ?_)
   refine rw_callE cr22 rfl rfl (fun w hM => c22o hM hDb ht (hR.ok h0) O9 (by first|(rw [List.length_append]; omega)|(rw [List.length_append, List.length_append]; omega)|(simp only [List.length_append, List.length_cons, List.length_nil]; omega))) rfl (fun _ => ⟨rfl, rfl⟩) ?_; rintro _ SZ ⟨rfl, rfl⟩
   refine asg ?_
   refine rw_nil ?_; intro w hM
   refine wp_ret ?_
   exact post_tmp (v := .bool true) rfl rfl rfl ⟨rfl, hM.below⟩
set_option maxRecDepth 100000 in
theorem lifted11 (os : Os) (started : os.Started) (H : Type) (enc : TypeId × Value → H) :
  ReturnsInHanded {} Tryz.checked os 11 .any (fun w args => (Rows.fnOrderSpec.pre enc Tryz.prog Tryz.f11 [] false w args ∧ laidMetH Tryz.prog laidDb w) ∧ sizedMet enc Tryz.prog Tryz.f11 (OpenSpec.ofChange Rows.fnOrderSpec) false w args)
   (Rows.fnOrderSpec.post enc Tryz.prog Tryz.f11 false true false false) := by
 refine returnsInHanded_of_change_and (C := Tryz.checked) (X := fun w _ => laidMetH Tryz.prog laidDb w) (fun _ _ _ hh h => h.of_heap hh) own started (by kernel_rfl) Tryz.func11
  (ChangeSpec.witness_shaped (enc := enc) (C := Tryz.checked) (os := os) (X := fun w _ => laidMetH Tryz.prog laidDb w) false (World.doorLaid Tryz.prog 14 os) #[.agg #[.bool false, .int .i64 0, .int .u64 0, .int .u64 0, .int .u64 0, .int .i64 0, .slice none 0 0], .slice none 0 0, .slice none 0 0] 8 rfl (World.shaped_of_RefB (by kernel_rfl) (by kernel_rfl)) (by kernel_rfl) (by kernel_rfl) (by kernel_rfl) (door_met os _)) ?_
 intro W base args ds gs before hval0 hW _ _ hL _
 have hval : ∀ (j : Nat) t v, Tryz.f11.params[j]? = some t → args[j]? = some v → Value.okWide Tryz.prog W .any base t v := hval0
 have hW' := hW
 obtain ⟨p, q, hA0, hV, rfl, hfz, hnd⟩ := hW
 have hA : DataW.TrodAll enc Tryz.prog W 0 (fun _ => true) true Tryz.f11.params.toList args.toList ds p := hA0
 rw [Tryz.params11] at hA hval
 obtain ⟨v0, v1, v2, d0, d1, d2, p0, p1, p2, rfl, rfl, rfl, h0, h1, h2⟩ := trodAll_three hA
 obtain ⟨rfl, rfl⟩ := trodVars_none hV
 have hDb := hasDb_of hL
 have lt0 : ∀ x ∈ p0, x.block < W.heap.size := by obtain ⟨m, hm⟩ := h0; exact DataW.trod_lt m _ _ _ hm
 have lt1 : ∀ x ∈ p1, x.block < W.heap.size := by obtain ⟨m, hm⟩ := h1; exact DataW.trod_lt m _ _ _ hm
 have lt2 : ∀ x ∈ p2, x.block < W.heap.size := by obtain ⟨m, hm⟩ := h2; exact DataW.trod_lt m _ _ _ hm
 obtain ⟨t0, e0, ht0, hR0⟩ := tab_open (hval 0 27 v0 rfl rfl) h0
 obtain ⟨ks1, hk1⟩ := keys_open (hval 1 25 v1 rfl rfl) h1
 obtain ⟨zs2, hz2⟩ := ints_open (hval 2 47 v2 rfl rfl) h2
 clear hA0 hval0
 have run := walk11 hDb ht0 hR0 hk1 hz2
 rw [← e0] at run
 refine run.mono fun e W' ⟨he, bel⟩ => ?_
 subst he
 exact ⟨_, rfl, _, _, _, [], _, [], hW', trodAll_mk1 (shut_bool Tryz.underlying4 _), (trodAll_mk3 (Below.trod laidOut (by kernel_rfl) (of_decide_eq_true (by kernel_rfl)) h0 bel lt0) (Below.trod laidOut (by kernel_rfl) (of_decide_eq_true (by kernel_rfl)) h1 bel lt1) (Below.trod laidOut (by kernel_rfl) (of_decide_eq_true (by kernel_rfl)) h2 bel lt2)), rfl, bel.frame _, fun h => by cases h⟩
theorem fnOrder_holds : Rows.FnOrderSaid :=
 OpenClaim.holds_of_wide 11 Tryz.f11 rfl rfl rfl rfl rfl rfl rfl ⟨rfl, rfl, rfl, rfl, rfl⟩ rfl rfl rfl rfl rfl (by kernel_rfl) Tryz.func11 (by kernel_rfl)
  (of_decide_eq_true (by kernel_rfl)) (by unfold Func.isWrapper; rw [if_neg (of_decide_eq_false (by kernel_rfl))]; exact ⟨rfl, rfl⟩)
  (fun os started H enc _ => lifted11 os started H enc)
theorem fnOrder_card : Rows.FnOrderCardSaid :=
 Claim7.holds_tied_plain_at .later [] [.data] true (true, "90126d0d88ad080e19404430648cf5f7fba61eeb2d65f4e3e95714f42eea46f3") false
  fnOrder_holds (fun _ h => by cases h) (by kernel_rfl) (fun _ h => by cases h) fnOrder_row_tie rfl ⟨rfl, rfl⟩ (by kernel_rfl) rfl
  (fun f fn hf hfn => by
   obtain rfl : f = 11 := Option.some.inj ((show Tryz.prog.funcNamed "runtimemaps/laws.FnOrder" = some 11 by kernel_rfl).symm.trans hf) |>.symm
   obtain rfl : fn = Tryz.f11 := (Option.some.inj (Tryz.func11.symm.trans hfn)).symm
   exact ⟨by kernel_rfl, fun j t ht => by
    rw [Tryz.params11] at ht
    have hm : t ∈ [27, 25, 47] := by simpa using Array.mem_of_getElem? ht
    have hall : ([27, 25, 47].all fun u => !Tryz.prog.wantsStandIn u) = true := by kernel_rfl
    exact (show Tryz.prog.wantsStandIn t = false by simpa using List.all_eq_true.1 hall t hm)⟩)
  (by kernel_rfl)
#print axioms fnOrder_card
end Go.Proofs.YtddpfkcofmfmpaaGreatDoor
