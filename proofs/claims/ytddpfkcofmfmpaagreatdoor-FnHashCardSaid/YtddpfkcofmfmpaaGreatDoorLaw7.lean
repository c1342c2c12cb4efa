/-
 Without iterations the answers do not hang on how keys are hashed, for how many entries the map was made, or on the numbers for iterators: the law FnHash returns true, at every pair of tables and every script.
 Conditions: the library's table deBruijn64tab reads as its text lays it (tied by the card); the law itself bounds the sizes of what it is handed.
-/
import Derived.Test.YtddpfkcofmfmpaaGreatDoorQ29
namespace Go.Proofs.YtddpfkcofmfmpaaGreatDoor
open Go Go.RowKit
open Go.ChangeShapes Go.WideShapes Go.ChangeAt
set_option maxRecDepth 20000
theorem walk7 {w0 : World} (hDb : HasDb w0) {t : TabV} (ht : t.OK) (hR : OffRd w0 t) {u : TabV} (hu : u.OK) (hRu : OffRd w0 u) {vs : Value} {l0 : List Stp} (hty : ∀ s ∈ l0, StpTy s) (hrd : Rd w0 noH 4 vs l0.length (encS l0)) :
  Calls Tryz.prog 7 [.agg t.cells.toArray, .agg u.cells.toArray, vs].toArray w0 (True0 w0) := by
 obtain ⟨so, sc, rfl⟩ := hrd.shape
 refine calls_start Tryz.func7 rfl Tryz.ntmps7 (Nat.le_of_ble_eq_true rfl) ?_
 have hM := mem0 w0
 refine rs hM ?_
 refine rw_boxN (v := .agg t.cells.toArray) rfl rfl rfl (fun b3 G3 n3 l3 e3 k3 => ?_)
 refine rw_boxN (v := .agg u.cells.toArray) rfl rfl rfl (fun b4 G4 n4 l4 e4 k4 => ?_)
 refine asg ?_
 refine rw_nil ?_; intro w hM
 have e3' : G4 b3 = some (encTab t) := l4 _ _ e3
 have e4' : G4 b4 = some (encTab u) := e4
 have hne : b3 ≠ b4 := ne_of_none n4 e3
 have hP4 : PlainH G4 := (noH_plain.new e3 k3 rfl).new e4 k4 rfl
 refine wp_seq_mid (fun f w => Know f [(2, .slice so l0.length sc), (3, .pointer (some ⟨b3, 0, none⟩)), (4, .pointer (some ⟨b4, 0, none⟩))] ∧ Mem w0 w G4 ∧ t.on ≤ 2147483647 ∧ u.on ≤ 2147483647 ∧ ¬ (l0.length : Int) > 2147483647) ?_ ?_
 ·by_cases h0 : t.on ≤ 2147483647
  ·by_cases h1 : u.on ≤ 2147483647
   ·by_cases h2 : (l0.length : Int) > 2147483647
    ·skip
     refine rs hM ?_
     refine rw_loadA t.cells ld27 rfl rfl rfl e3' rfl ?_
     refine rw_callq (v := .bool true) cr18 rfl rfl (fun H' w hle hM => by have := c18 hM (t := t); rw [decide_eq_true h0] at this; exact this) rfl ?_
     refine rw_un rfl rfl rfl (u_not _) ?_
     refine mv ?_
     refine rw_loadA u.cells ld27 rfl rfl rfl e4' rfl ?_
     refine rw_callq (v := .bool true) cr18 rfl rfl (fun H' w hle hM => by have := c18 hM (t := u); rw [decide_eq_true h1] at this; exact this) rfl ?_
     refine rw_un rfl rfl rfl (u_not _) ?_
     refine rw_pick rfl rfl rfl rfl rfl ?_
     refine mv ?_
     refine mv ?_
     refine rw_len Tryz.underlying30 rfl rfl rfl ?_
     refine rw_bin rfl rfl rfl rfl (b_true (b_gt _ _) (decide_eq_true h2)) ?_
     refine rw_pick rfl rfl rfl rfl rfl ?_
     refine rw_nil ?_; intro w hM
     refine wp_if (tmp_lt rfl) rfl (fun hc => ?_) (by nofun)
     refine rs hM ?_
     refine asg ?_
     refine rw_nil ?_; intro w hM
     refine wp_ret ?_
     simp only [Exit.then]
     exact post_tmp (v := .bool true) rfl rfl rfl ⟨rfl, hM.below⟩
    ·skip
     refine rs hM ?_
     refine rw_loadA t.cells ld27 rfl rfl rfl e3' rfl ?_
     refine rw_callq (v := .bool true) cr18 rfl rfl (fun H' w hle hM => by have := c18 hM (t := t); rw [decide_eq_true h0] at this; exact this) rfl ?_
     refine rw_un rfl rfl rfl (u_not _) ?_
     refine mv ?_
     refine rw_loadA u.cells ld27 rfl rfl rfl e4' rfl ?_
     refine rw_callq (v := .bool true) cr18 rfl rfl (fun H' w hle hM => by have := c18 hM (t := u); rw [decide_eq_true h1] at this; exact this) rfl ?_
     refine rw_un rfl rfl rfl (u_not _) ?_
     refine rw_pick rfl rfl rfl rfl rfl ?_
     refine mv ?_
     refine mv ?_
     refine rw_len Tryz.underlying30 rfl rfl rfl ?_
     refine rw_bin rfl rfl rfl rfl (b_false (b_gt _ _) (decide_eq_false h2)) ?_
     refine rw_pick rfl rfl rfl rfl rfl ?_
     refine rw_nil ?_; intro w hM
     refine wp_if (tmp_lt rfl) rfl (by nofun) (fun hc => ?_)
     refine wp_skip ?_
     exact ⟨_, rfl, Know.of ⟨rfl, rfl, rfl, trivial⟩, hM, h0, h1, h2⟩
   ·skip
    refine rs hM ?_
    refine rw_loadA t.cells ld27 rfl rfl rfl e3' rfl ?_
    refine rw_callq (v := .bool true) cr18 rfl rfl (fun H' w hle hM => by have := c18 hM (t := t); rw [decide_eq_true h0] at this; exact this) rfl ?_
    refine rw_un rfl rfl rfl (u_not _) ?_
    refine mv ?_
    refine rw_loadA u.cells ld27 rfl rfl rfl e4' rfl ?_
    refine rw_callq (v := .bool false) cr18 rfl rfl (fun H' w hle hM => by have := c18 hM (t := u); rw [decide_eq_false h1] at this; exact this) rfl ?_
    refine rw_un rfl rfl rfl (u_not _) ?_
    refine rw_pick rfl rfl rfl rfl rfl ?_
    refine mv ?_
    refine rw_skip rfl rfl ?_
    refine rw_skip rfl rfl ?_
    refine rw_skip rfl rfl ?_
    refine rw_pick rfl rfl rfl rfl rfl ?_
    refine rw_nil ?_; intro w hM
    refine wp_if (tmp_lt rfl) rfl (fun hc => ?_) (by nofun)
    refine rs hM ?_
    refine asg ?_
    refine rw_nil ?_; intro w hM
    refine wp_ret ?_
    simp only [Exit.then]
    exact post_tmp (v := .bool true) rfl rfl rfl ⟨rfl, hM.below⟩
  ·skip
   refine rs hM ?_
   refine rw_loadA t.cells ld27 rfl rfl rfl e3' rfl ?_
   refine rw_callq (v := .bool false) cr18 rfl rfl (fun H' w hle hM => by have := c18 hM (t := t); rw [decide_eq_false h0] at this; exact this) rfl ?_
   refine rw_un rfl rfl rfl (u_not _) ?_
   refine mv ?_
   refine rw_skip rfl rfl ?_
   refine rw_skip rfl rfl ?_
   refine rw_skip rfl rfl ?_
   refine rw_pick rfl rfl rfl rfl rfl ?_
   refine mv ?_
   refine rw_skip rfl rfl ?_
   refine rw_skip rfl rfl ?_
   refine rw_skip rfl rfl ?_
   refine rw_pick rfl rfl rfl rfl rfl ?_
   refine rw_nil ?_; intro w hM
   refine wp_if (tmp_lt rfl) rfl (fun hc => ?_) (by nofun)
   refine rs hM ?_
   refine asg ?_
   refine rw_nil ?_; intro w hM
   refine wp_ret ?_
   simp only [Exit.then]
   exact post_tmp (v := .bool true) rfl rfl rfl ⟨rfl, hM.below⟩
 clear hM
 rintro f w ⟨⟨f1, rfl⟩, hM, h0, h1, h2⟩
 refine rs hM ?_
 refine fa fr27_0 ?_
 refine lo (v := .bool t.floats) ld4 e3' ?_
 refine fa fr27_0 ?_
 refine rw_storeE (v := .bool t.floats) (c' := (TabV.cells { u with floats := t.floats }).toArray) sz4 rfl rfl rfl rfl e4' rfl (by show 0 + 0 < 7; decide) rfl (by nofun) (fun SF hSF kSF => ?_)
 refine rw_nil ?_; intro w hM
 have hPF : PlainH SF := hP4.new hSF kSF rfl
 have hu' : TabV.OK { u with floats := t.floats } := ⟨hu.seed, hu.times, hu.mask, hu.shift, hu.hint⟩
 have hRu' : OffRd w0 { u with floats := t.floats } := hRu
 obtain ⟨u', hue⟩ : ∃ u' : TabV, u' = { u with floats := t.floats } := ⟨_, rfl⟩
 have h1' : u'.on ≤ 2147483647 := by rw [hue]; exact h1
 have hfl : t.floats = u'.floats := by rw [hue]
 have x4 : SF b4 = some (encTab u') := by rw [hue]; exact hSF
 have x3 : SF b3 = some (encTab t) := (kSF _ hne).trans e3'
 rw [← hue] at hu' hRu'
 clear hSF hue hu hRu h1
 refine rs hM ?_
 refine asg ?_
 refine rw_nil ?_; intro w hM
 refine wp_seq ?_
 refine rs hM ?_
 refine mv ?_
 refine rw_len Tryz.underlying30 rfl rfl rfl ?_
 refine mv ?_
 refine rw_nil ?_; intro w hM
 refine wp_block ?_
 refine wp_loop_s (fun c f w => ∃ i S l out, c = l0.length - i ∧ i ≤ l0.length ∧ l.length ≤ i ∧ (∀ s ∈ l, s.kind ≠ 5 ∧ s.kind ≠ 6) ∧ Know f [(3, .pointer (some ⟨b3, 0, none⟩)), (4, .pointer (some ⟨b4, 0, none⟩)), (7, out), (29, .slice so l0.length sc), (30, i64 (l0.length : Nat)), (31, i64 (i : Nat))] ∧ Mem w0 w S ∧ SF.le S ∧ OwnS SF S out l) (l0.length - 0) ?_ ?_
 ·exact ⟨0, SF, [], _, rfl, Nat.zero_le _, Nat.zero_le _, fun s hs => (by cases hs), Know.of ⟨rfl, rfl, rfl, rfl, rfl, rfl, trivial⟩, hM, Heap.le_refl _, OwnS.nil _ _⟩
 clear hM
 rintro c f w ⟨i, S, l, out, rfl, hi, hli, hks, ⟨fX, rfl⟩, hM, hle, hO⟩
 refine rs hM ?_
 refine rw_bin rfl rfl rfl rfl (b_lt _ _) ?_
 refine rw_nil ?_; intro w hM
 refine wp_seq ?_
 refine wp_if (tmp_lt rfl) rfl (fun hz => ?_) (fun hz => ?_)
 ·have hil : i < l0.length := by have := of_decide_eq_true hz; omega
  obtain ⟨s, hsq⟩ : ∃ s, l0[i]? = some s := ⟨_, List.getElem?_eq_getElem hil⟩
  have hst := hty s (List.mem_of_getElem? hsq)
  obtain ⟨b, o, cap, hsl, hrs⟩ := hrd.some (by omega)
  cases hsl
  refine wp_skip ?_
  refine wp_seq ?_
  refine wp_block ?_
  refine rs hM ?_
  refine rw_indexAddr rfl rfl rfl rfl (x_slice Tryz.underlying30 sz36 hil) ?_
  refine rw_loadAG (stepC s) ld36 rfl rfl rfl (rd_step stepC_len hrs hsq (fun x u hx => by cases hx)) ?_
  refine rw_allocN Tryz.zeroValue36 rfl rfl (fun b9 G9 n9 l9 e9 k9 => ?_)
  refine rw_store (v := .agg #[.int .i64 _, .int .i64 _, .int .u64 _, .int .i64 _]) sz36 rfl rfl rfl rfl e9 rfl rfl rfl (by nofun) (fun S7 hS7 kS7 => ?_)
  refine rw_nil ?_; intro w hM
  have hS9 : S7 b9 = some (.cells (stepC s).toArray 36 (0, 0)) := hS7.trans rfl
  have l7 : S.le S7 := le_keep l9 n9 kS7
  by_cases h5 : s.kind = 5
  ·skip
   refine rs hM ?_
   refine fa fr36_0 ?_
   refine lo (v := i64 s.kind) ld3 hS9 ?_
   refine rw_bin rfl rfl rfl rfl (b_false (b_ne _ _) (by rw [h5]; rfl)) ?_
   refine mv ?_
   refine rw_skip rfl rfl ?_
   refine rw_skip rfl rfl ?_
   refine rw_skip rfl rfl ?_
   refine rw_pick rfl rfl rfl rfl rfl ?_
   refine rw_nil ?_; intro w hM
   refine wp_if (tmp_lt rfl) rfl (by nofun) (fun hc => ?_)
   refine wp_skip ?_
   simp only [Exit.then, Exit.inBlock]
   refine re hM ?_
   refine rw_bin (v := i64 ((i + 1 : Nat) : Int)) rfl rfl rfl rfl (bin_eq (b_addi (b := 1) (by omega) (by omega)) (congrArg i64 (by omega))) ?_
   refine mv ?_
   refine rw_nil ?_; intro w hM
   exact ⟨l0.length - (i + 1), _, rfl, by omega, i + 1, S7, _, out, rfl, by omega, by omega, hks, Know.of ⟨rfl, rfl, rfl, rfl, rfl, rfl, trivial⟩, hM, (Heap.le_trans hle l7), hO.mono l7⟩
  by_cases h6 : s.kind = 6
  ·skip
   refine rs hM ?_
   refine fa fr36_0 ?_
   refine lo (v := i64 s.kind) ld3 hS9 ?_
   refine rw_bin rfl rfl rfl rfl (b_true (b_ne _ _) (bne_iff_ne.2 h5)) ?_
   refine mv ?_
   refine fa fr36_0 ?_
   refine lo (v := i64 s.kind) ld3 hS9 ?_
   refine rw_bin rfl rfl rfl rfl (b_false (b_ne _ _) (by rw [h6]; rfl)) ?_
   refine rw_pick rfl rfl rfl rfl rfl ?_
   refine rw_nil ?_; intro w hM
   refine wp_if (tmp_lt rfl) rfl (by nofun) (fun hc => ?_)
   refine wp_skip ?_
   simp only [Exit.then, Exit.inBlock]
   refine re hM ?_
   refine rw_bin (v := i64 ((i + 1 : Nat) : Int)) rfl rfl rfl rfl (bin_eq (b_addi (b := 1) (by omega) (by omega)) (congrArg i64 (by omega))) ?_
   refine mv ?_
   refine rw_nil ?_; intro w hM
   exact ⟨l0.length - (i + 1), _, rfl, by omega, i + 1, S7, _, out, rfl, by omega, by omega, hks, Know.of ⟨rfl, rfl, rfl, rfl, rfl, rfl, trivial⟩, hM, (Heap.le_trans hle l7), hO.mono l7⟩
  refine rs hM ?_
  refine fa fr36_0 ?_
  refine lo (v := i64 s.kind) ld3 hS9 ?_
  refine rw_bin rfl rfl rfl rfl (b_true (b_ne _ _) (bne_iff_ne.2 h5)) ?_
  refine mv ?_
  refine fa fr36_0 ?_
  refine lo (v := i64 s.kind) ld3 hS9 ?_
  refine rw_bin rfl rfl rfl rfl (b_true (b_ne _ _) (bne_iff_ne.2 h6)) ?_
  refine rw_pick rfl rfl rfl rfl rfl ?_
  refine rw_nil ?_; intro w hM
  refine wp_if (tmp_lt rfl) rfl (fun hc => ?_) (by nofun)
  refine re hM ?_
  refine mv ?_
  refine rw_loadA (stepC s) ld36 rfl rfl rfl hS9 rfl ?_
  refine rw_buildSlN (bs30_1 s.kind s.iter s.key s.elem) rfl rfl rfl (fun q2 GQ2 nq2 lq2 eq2 kq2 => ?_)
  refine rw_ownN (v := out) rfl rfl rfl rfl (hO.mono (Heap.le_trans l7 lq2)) (Heap.le_trans hle (Heap.le_trans l7 lq2)) (rd_made (l := [s]) eq2 rfl rfl) rfl (all1 hst) (by omega) (fun a3 SA OA LA => ?_)
  refine asg ?_
  refine rw_nil ?_; intro w hM
  simp only [Exit.then, Exit.inBlock]
  refine re hM ?_
  refine rw_bin (v := i64 ((i + 1 : Nat) : Int)) rfl rfl rfl rfl (bin_eq (b_addi (b := 1) (by omega) (by omega)) (congrArg i64 (by omega))) ?_
  refine mv ?_
  refine rw_nil ?_; intro w hM
  exact ⟨l0.length - (i + 1), _, rfl, by omega, i + 1, SA, _, a3, rfl, by omega, by simp only [List.length_append, List.length_cons, List.length_nil]; omega, fun x hx => by
   rcases List.mem_append.1 hx with hx | hx
   ·exact hks x hx
   ·rw [List.mem_singleton] at hx; subst hx; exact ⟨h5, h6⟩, Know.of ⟨rfl, rfl, rfl, rfl, rfl, rfl, trivial⟩, hM, LA, OA⟩
 ·refine wp_exit ?_
  simp only [Exit.then, Exit.inBlock, if_true]
  obtain ⟨oo, oc, rfl⟩ := hO.sl.shape
  have y3 := hle _ _ x3
  have y4 := hle _ _ x4
  refine wp_seq_mid (fun f w => Know f [(3, .pointer (some ⟨b3, 0, none⟩)), (4, .pointer (some ⟨b4, 0, none⟩)), (7, .slice oo l.length oc)] ∧ Mem w0 w S ∧ FitsP t l ∧ FitsP u' l) ?_ ?_
  ·refine rs hM ?_
   refine rw_loadA t.cells ld27 rfl rfl rfl y3 rfl ?_
   refine mv ?_
   refine rw_callE cr24 rfl rfl (fun w hM => c24 hM ht hO.ty (by omega) hO.sl.rd) rfl (by nofun) ?_; rintro _ SA ⟨rfl, r, rfl, hr⟩
   cases r with
   | false =>
    refine rw_un rfl rfl rfl (u_not _) ?_
    refine mv ?_
    refine rw_skip rfl rfl ?_
    refine rw_skip rfl rfl ?_
    refine rw_skip rfl rfl ?_
    refine rw_skip rfl rfl ?_
    refine rw_pick rfl rfl rfl rfl rfl ?_
    refine rw_nil ?_; intro w hM
    refine wp_if (tmp_lt rfl) rfl (fun hc => ?_) (by nofun)
    refine rs hM ?_
    refine rw_callE cr25 rfl rfl (fun w hM => c25o hM hDb) rfl (by nofun) ?_; rintro _ SZ ⟨rfl, rfl⟩
    refine asg ?_
    refine rw_nil ?_; intro w hM
    refine wp_ret ?_
    simp only [Exit.then]
    exact post_tmp (v := .bool true) rfl rfl rfl ⟨rfl, hM.below⟩
   | true =>
    refine rw_un rfl rfl rfl (u_not _) ?_
    refine mv ?_
    refine rw_loadA u'.cells ld27 rfl rfl rfl y4 rfl ?_
    refine mv ?_
    refine rw_callE cr24 rfl rfl (fun w hM => c24 hM hu' hO.ty (by omega) hO.sl.rd) rfl (by nofun) ?_; rintro _ SA ⟨rfl, r2, rfl, hr2⟩
    cases r2 with
    | false =>
     refine rw_un rfl rfl rfl (u_not _) ?_
     refine rw_pick rfl rfl rfl rfl rfl ?_
     refine rw_nil ?_; intro w hM
     refine wp_if (tmp_lt rfl) rfl (fun hc => ?_) (by nofun)
     refine rs hM ?_
     refine rw_callE cr25 rfl rfl (fun w hM => c25o hM hDb) rfl (by nofun) ?_; rintro _ SZ ⟨rfl, rfl⟩
     refine asg ?_
     refine rw_nil ?_; intro w hM
     refine wp_ret ?_
     simp only [Exit.then]
     exact post_tmp (v := .bool true) rfl rfl rfl ⟨rfl, hM.below⟩
    | true =>
     refine rw_un rfl rfl rfl (u_not _) ?_
     refine rw_pick rfl rfl rfl rfl rfl ?_
     refine rw_nil ?_; intro w hM
     refine wp_if (tmp_lt rfl) rfl (by nofun) (fun hc => ?_)
     refine wp_skip ?_
     exact ⟨_, rfl, Know.of ⟨rfl, rfl, rfl, trivial⟩, hM, hr rfl, hr2 rfl⟩
  clear hM
  rintro f w ⟨⟨fY, rfl⟩, hM, hF1, hF2⟩
  obtain ⟨X, hX⟩ : ∃ X, X = SF.add S (.slice oo l.length oc) := ⟨_, rfl⟩
  have hMX : Mem w0 w X := by rw [hX]; exact hM.mono (Heap.add_le hle)
  have hPX : PlainH X := by rw [hX]; exact hPF.add hO.sl rfl
  have hsX : Sl X 36 4 (.slice oo l.length oc) l.length (encS l) := by rw [hX]; exact hO.sl.added
  have hXF : SF.le X := by rw [hX]; exact Heap.le_add hle
  have z3 := hXF _ _ x3
  have z4 := hXF _ _ x4
  clear hM hX
  refine wp_mix_seq [2, 5] [5] [0, 1, 3, 4, 2, 5, 6, 7] X mixed (by kernel_rfl) (Heap.le_refl _) hMX ?_
  refine rw_loadA t.cells ld27 rfl rfl rfl z3 rfl ?_
  refine mv ?_
  refine rw_loadA u'.cells ld27 rfl rfl rfl z4 rfl ?_
  refine mv ?_
  refine rw_callD cr26 rfl rfl (fun w hM => c26 hM hDb ht (hR.ok h0) hF1.hint hF1.ok hF1.len hF1.spread hsX.rd hPX) rfl (fun _ => rfl) ?_; rintro va S2 ⟨ra, Ma, hacc, hsa, hle2⟩; obtain ⟨ao, ac, rfl⟩ := hsa.shape; refine ⟨hle2, ?_⟩
  refine rw_callD cr26 rfl rfl (fun w hM => c26 (hM.mono (Heap.add_le hle2)) hDb hu' (hRu'.ok h1') hF2.hint hF2.ok hF2.len hF2.spread (hsX.rd.mono (Heap.le_add hle2)) (hPX.add hsa rfl)) rfl (fun _ => rfl) ?_; rintro vb S5 ⟨rb, Mb, haccb, hsb, hle5⟩; obtain ⟨bo, bc, rfl⟩ := hsb.shape; refine ⟨Heap.le_trans (Heap.le_add hle2) hle5, ?_⟩
  refine asg ?_
  refine asg ?_
  refine rw_nil ?_; intro w hM
  have hsa5 := hsa.added.mono hle5
  have hab : ra = rb := accAll_det (fun a b => by rw [same_of, same_of, hfl]) hks hacc haccb rfl
  subst hab
  have hla := hacc.len
  clear hacc haccb hMX hPX hsX hXF z3 z4 hsa hle2 hle5
  refine wp_seq ?_
  refine rs hM ?_
  refine mv ?_
  refine rw_len Tryz.underlying41 rfl rfl rfl ?_
  refine mv ?_
  refine rw_len Tryz.underlying30 rfl rfl rfl ?_
  refine rw_bin rfl rfl rfl rfl (b_false (b_ne _ _) (by simp)) ?_
  refine mv ?_
  refine mv ?_
  refine rw_len Tryz.underlying41 rfl rfl rfl ?_
  refine mv ?_
  refine rw_len Tryz.underlying30 rfl rfl rfl ?_
  refine rw_bin rfl rfl rfl rfl (b_false (b_ne _ _) (by simp)) ?_
  refine rw_pick rfl rfl rfl rfl rfl ?_
  refine rw_nil ?_; intro w hM
  refine wp_if (tmp_lt rfl) rfl (by nofun) (fun hc => ?_)
  refine wp_skip ?_
  refine wp_seq ?_
  refine rs hM ?_
  refine mv ?_
  refine rw_len Tryz.underlying41 rfl rfl rfl ?_
  refine mv ?_
  refine rw_nil ?_; intro w hM
  refine wp_block ?_
  refine wp_loop_s (fun c f w => ∃ j, c = l.length - j ∧ j ≤ l.length ∧ Know f [(10, .slice ao l.length ac), (11, .slice bo l.length bc), (78, i64 (l.length : Nat)), (79, i64 (j : Nat))] ∧ Mem w0 w S5) (l.length - 0) ?_ ?_
  ·exact ⟨0, rfl, Nat.zero_le _, Know.of ⟨rfl, rfl, rfl, rfl, trivial⟩, hM⟩
  clear hM
  rintro c f w ⟨j, rfl, hj, ⟨fZ, rfl⟩, hM⟩
  refine rs hM ?_
  refine rw_bin rfl rfl rfl rfl (b_lt _ _) ?_
  refine rw_nil ?_; intro w hM
  refine wp_seq ?_
  refine wp_if (tmp_lt rfl) rfl (fun hz2 => ?_) (fun hz2 => ?_)
  ·have hjl : j < l.length := by have := of_decide_eq_true hz2; omega
   obtain ⟨a, haj⟩ : ∃ a, ra[j]? = some a := ⟨_, List.getElem?_eq_getElem (by omega)⟩
   obtain ⟨ba, oa, ca, ea, hra⟩ := (hsa5.rd (w0 := w0)).some (by omega)
   cases ea
   obtain ⟨bb, ob, cb, eb, hrb⟩ := (hsb.rd (w0 := w0)).some (by omega)
   cases eb
   refine wp_skip ?_
   refine wp_seq ?_
   refine wp_block ?_
   refine rs hM ?_
   refine mv ?_
   refine asg ?_
   refine rw_nil ?_; intro w hM
   refine wp_mix_seq [] [] [0, 1, 2, 3, 4, 5, 6, 7, 8] S5 mixed (by kernel_rfl) (Heap.le_refl _) hM ?_
   refine mv ?_
   refine mv ?_
   refine rw_indexAddr rfl rfl rfl rfl (x_slice Tryz.underlying41 sz44 hjl) ?_
   refine rw_loadAG (ansC a) ld44 rfl rfl rfl (rd_step ansC_len hra haj (Heap.le_refl _)) ?_
   refine mv ?_
   refine mv ?_
   refine rw_indexAddr rfl rfl rfl rfl (x_slice Tryz.underlying41 sz44 hjl) ?_
   refine rw_loadAG (ansC a) ld44 rfl rfl rfl (rd_step ansC_len hrb haj (Heap.le_refl _)) ?_
   refine rw_bin (v := .bool false) rfl rfl rfl rfl (by have := ne44 a a; rw [ansEq_same] at this; exact this) ?_
   refine rw_nil ?_; intro w hM
   refine wp_if (tmp_lt rfl) rfl (by nofun) (fun hc => ?_)
   refine wp_skip ?_
   simp only [Exit.then, Exit.inBlock]
   refine re hM ?_
   refine rw_bin (v := i64 ((j + 1 : Nat) : Int)) rfl rfl rfl rfl (bin_eq (b_addi (b := 1) (by omega) (by omega)) (congrArg i64 (by omega))) ?_
   refine mv ?_
   refine rw_nil ?_; intro w hM
   exact ⟨l.length - (j + 1), _, rfl, by omega, j + 1, rfl, by omega, Know.of ⟨rfl, rfl, rfl, rfl, trivial⟩, hM⟩
  ·refine wp_exit ?_
   simp only [Exit.then, Exit.inBlock, if_true]
   refine rs hM ?_
   refine rw_callE cr25 rfl rfl (fun w hM => c25o hM hDb) rfl (by nofun) ?_; rintro _ SZ ⟨rfl, rfl⟩
   refine asg ?_
   refine rw_nil ?_; intro w hM
   refine wp_ret ?_
   exact post_tmp (v := .bool true) rfl rfl rfl ⟨rfl, hM.below⟩
set_option maxRecDepth 100000 in
theorem lifted7 (os : Os) (started : os.Started) (H : Type) (enc : TypeId × Value → H) :
  ReturnsInHanded {} Tryz.checked os 7 .any (fun w args => (Rows.fnHashSpec.pre enc Tryz.prog Tryz.f7 [] false w args ∧ laidMetH Tryz.prog laidDb w) ∧ sizedMet enc Tryz.prog Tryz.f7 (OpenSpec.ofChange Rows.fnHashSpec) false w args)
   (Rows.fnHashSpec.post enc Tryz.prog Tryz.f7 false true false false) := by
 refine returnsInHanded_of_change_and (C := Tryz.checked) (X := fun w _ => laidMetH Tryz.prog laidDb w) (fun _ _ _ hh h => h.of_heap hh) own started (by kernel_rfl) Tryz.func7
  (ChangeSpec.witness_shaped (enc := enc) (C := Tryz.checked) (os := os) (X := fun w _ => laidMetH Tryz.prog laidDb w) false (World.doorLaid Tryz.prog 14 os) #[.agg #[.bool false, .int .i64 0, .int .u64 0, .int .u64 0, .int .u64 0, .int .i64 0, .slice none 0 0], .agg #[.bool false, .int .i64 0, .int .u64 0, .int .u64 0, .int .u64 0, .int .i64 0, .slice none 0 0], .slice none 0 0] 8 rfl (World.shaped_of_RefB (by kernel_rfl) (by kernel_rfl)) (by kernel_rfl) (by kernel_rfl) (by kernel_rfl) (door_met os _)) ?_
 intro W base args ds gs before hval0 hW _ _ hL _
 have hval : ∀ (j : Nat) t v, Tryz.f7.params[j]? = some t → args[j]? = some v → Value.okWide Tryz.prog W .any base t v := hval0
 have hW' := hW
 obtain ⟨p, q, hA0, hV, rfl, hfz, hnd⟩ := hW
 have hA : DataW.TrodAll enc Tryz.prog W 0 (fun _ => true) true Tryz.f7.params.toList args.toList ds p := hA0
 rw [Tryz.params7] at hA hval
 obtain ⟨v0, v1, v2, d0, d1, d2, p0, p1, p2, rfl, rfl, rfl, h0, h1, h2⟩ := trodAll_three hA
 obtain ⟨rfl, rfl⟩ := trodVars_none hV
 have hDb := hasDb_of hL
 have lt0 : ∀ x ∈ p0, x.block < W.heap.size := by obtain ⟨m, hm⟩ := h0; exact DataW.trod_lt m _ _ _ hm
 have lt1 : ∀ x ∈ p1, x.block < W.heap.size := by obtain ⟨m, hm⟩ := h1; exact DataW.trod_lt m _ _ _ hm
 have lt2 : ∀ x ∈ p2, x.block < W.heap.size := by obtain ⟨m, hm⟩ := h2; exact DataW.trod_lt m _ _ _ hm
 obtain ⟨t0, e0, ht0, hR0⟩ := tab_open (hval 0 27 v0 rfl rfl) h0
 obtain ⟨t1, e1, ht1, hR1⟩ := tab_open (hval 1 27 v1 rfl rfl) h1
 obtain ⟨l2, hty2, hrd2⟩ := steps_open (hval 2 30 v2 rfl rfl) h2
 clear hA0 hval0
 have run := walk7 hDb ht0 hR0 ht1 hR1 hty2 hrd2
 rw [← e0, ← e1] at run
 refine run.mono fun e W' ⟨he, bel⟩ => ?_
 subst he
 exact ⟨_, rfl, _, _, _, [], _, [], hW', trodAll_mk1 (shut_bool Tryz.underlying4 _), (trodAll_mk3 (Below.trod laidOut (by kernel_rfl) (of_decide_eq_true (by kernel_rfl)) h0 bel lt0) (Below.trod laidOut (by kernel_rfl) (of_decide_eq_true (by kernel_rfl)) h1 bel lt1) (Below.trod laidOut (by kernel_rfl) (of_decide_eq_true (by kernel_rfl)) h2 bel lt2)), rfl, bel.frame _, fun h => by cases h⟩
theorem fnHash_holds : Rows.FnHashSaid :=
 OpenClaim.holds_of_wide 7 Tryz.f7 rfl rfl rfl rfl rfl rfl rfl ⟨rfl, rfl, rfl, rfl, rfl⟩ rfl rfl rfl rfl rfl (by kernel_rfl) Tryz.func7 (by kernel_rfl)
  (of_decide_eq_true (by kernel_rfl)) (by unfold Func.isWrapper; rw [if_neg (of_decide_eq_false (by kernel_rfl))]; exact ⟨rfl, rfl⟩)
  (fun os started H enc _ => lifted7 os started H enc)
theorem fnHash_card : Rows.FnHashCardSaid :=
 Claim7.holds_tied_plain_at .later [] [.data] true (true, "90126d0d88ad080e19404430648cf5f7fba61eeb2d65f4e3e95714f42eea46f3") false
  fnHash_holds (fun _ h => by cases h) (by kernel_rfl) (fun _ h => by cases h) fnHash_row_tie rfl ⟨rfl, rfl⟩ (by kernel_rfl) rfl
  (fun f fn hf hfn => by
   obtain rfl : f = 7 := Option.some.inj ((show Tryz.prog.funcNamed "runtimemaps/laws.FnHash" = some 7 by kernel_rfl).symm.trans hf) |>.symm
   obtain rfl : fn = Tryz.f7 := (Option.some.inj (Tryz.func7.symm.trans hfn)).symm
   exact ⟨by kernel_rfl, fun j t ht => by
    rw [Tryz.params7] at ht
    have hm : t ∈ [27, 27, 30] := by simpa using Array.mem_of_getElem? ht
    have hall : ([27, 27, 30].all fun u => !Tryz.prog.wantsStandIn u) = true := by kernel_rfl
    exact (show Tryz.prog.wantsStandIn t = false by simpa using List.all_eq_true.1 hall t hm)⟩)
  (by kernel_rfl)
#print axioms fnHash_card
end Go.Proofs.YtddpfkcofmfmpaaGreatDoor
