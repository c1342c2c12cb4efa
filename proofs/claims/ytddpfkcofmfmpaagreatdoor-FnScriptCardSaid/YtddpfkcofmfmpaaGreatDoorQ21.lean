/-
  How the thin package hashes; what a map's type does. Conditions stand in each contract. More operations: a function value; the greater and the lesser of two integers. Conditions stand in each lemma. A map is made; the numbers that it draws. Conditions stand in each contract. The thin package makes a map. Conditions stand in the contract.
  Conditions stand in each lemma.
-/
import Derived.Test.YtddpfkcofmfmpaaGreatDoorQ20
namespace Go.Proofs.YtddpfkcofmfmpaaGreatDoor
open Go Go.RowKit
set_option maxRecDepth 20000
section
/-- A table's data as the thin package has them. -/
structure TabV where
 floats : Bool
 hint : Int
 seed : Nat
 times : Nat
 mask : Nat
 shift : Int
 oa : Option Addr
 on : Nat
 oc : Nat
def TabV.hash (t : TabV) : List Value := [u64 t.seed, u64 t.times, u64 t.mask, i64 t.shift]
def TabV.cells (t : TabV) : List Value := [.bool t.floats, i64 t.hint, u64 t.seed, u64 t.times, u64 t.mask, i64 t.shift, .slice t.oa t.on t.oc]
def encTab (t : TabV) : Obj := .cells t.cells.toArray 27 (0, 0)
structure TabV.OK (t : TabV) : Prop where
 seed : t.seed < 2 ^ 64
 times : t.times < 2 ^ 64
 mask : t.mask < 2 ^ 64
 shift : InI64 t.shift
 hint : InI64 t.hint
def TabV.sh (t : TabV) : Nat := if t.shift < 0 ∨ t.shift > 63 then 0 else t.shift.toNat
theorem TabV.sh_le (t : TabV) : t.sh ≤ 63 := by unfold TabV.sh; split <;> omega
def TabV.of (t : TabV) (k : Nat) : Nat := (k ^^^ t.seed) * t.times % 2 ^ 64 / 2 ^ t.sh &&& t.mask
theorem TabV.of_lt (t : TabV) (k : Nat) : t.of k < 2 ^ 64 := Nat.lt_of_le_of_lt Nat.and_le_left (Nat.lt_of_le_of_lt (Nat.div_le_self _ _) (Nat.mod_lt _ (by decide)))
def TabV.ofF (t : TabV) (k : Nat) : Nat := if feq k 0 then t.of 0 else if !feq k k then t.of 1 else t.of (k % 2 ^ 64)
theorem fnan_mod {a b : Nat} (h : a % 18446744073709551616 = b % 18446744073709551616) : fnan a = fnan b ∧ fzero a = fzero b := by
 have : a % 9223372036854775808 = b % 9223372036854775808 := by omega
 unfold fnan fzero; rw [this]; exact ⟨rfl, rfl⟩
theorem feq_symm {a b : Nat} (h : feq a b = true) : feq b a = true := by
 rw [feq_iff] at h ⊢
 obtain ⟨h1, h2, h3⟩ := h
 exact ⟨h2, h1, h3.imp Eq.symm fun h => ⟨h.2, h.1⟩⟩
theorem feq_trans {a b c : Nat} (h : feq a b = true) (h' : feq b c = true) : feq a c = true := by
 rw [feq_iff] at h h' ⊢
 obtain ⟨h1, h2, h3⟩ := h
 obtain ⟨_, h5, h6⟩ := h'
 refine ⟨h1, h5, ?_⟩
 rcases h3 with h3 | h3
 ·rcases h6 with h6 | h6
  ·exact .inl (h3.trans h6)
  ·exact .inr ⟨by rw [(fnan_mod h3).2]; exact h6.1, h6.2⟩
 ·rcases h6 with h6 | h6
  ·exact .inr ⟨h3.1, by rw [← (fnan_mod h6).2]; exact h3.2⟩
  ·exact .inr ⟨h3.1, h6.2⟩
/-- Keys that are numbers; keys that are floats. -/
def ktI (t : TabV) : KT := ⟨fun k => t.of (k % 2 ^ 64), fun a b => a == b, fun _ => t.of_lt _, fun a b h => by rw [beq_iff_eq] at h ⊢; exact h.symm, fun a b c h h' => by rw [beq_iff_eq] at *; exact h.trans h', fun a b h => by rw [beq_iff_eq] at h; rw [h]⟩
def ktF (t : TabV) : KT := ⟨t.ofF, feq, fun k => by unfold TabV.ofF; split; exact t.of_lt _; split <;> exact t.of_lt _, fun _ _ => feq_symm, fun _ _ _ => feq_trans, fun a b h => by
 unfold TabV.ofF
 have hz : feq a 0 = feq b 0 := by
  cases h1 : feq a 0 <;> cases h2 : feq b 0
  ·rfl
  ·rw [feq_trans h h2] at h1; cases h1
  ·rw [feq_trans (feq_symm h) h1] at h2; cases h2
  ·rfl
 rw [hz]
 have ha : feq a a = true := feq_trans h (feq_symm h)
 have hb : feq b b = true := feq_trans (feq_symm h) h
 rw [ha, hb]
 cases h0 : feq b 0 with
 | true => rfl
 | false =>
  have h' := (feq_iff a b).1 h
  rcases h'.2.2 with e | e
  ·rw [show a % 2 ^ 64 = b % 2 ^ 64 from e]
  ·exfalso
   have hzz : feq b 0 = true := (feq_iff b 0).2 ⟨h'.2.1, rfl, .inr ⟨e.2, rfl⟩⟩
   rw [hzz] at h0; cases h0⟩
def ktOf (t : TabV) : KT := if t.floats then ktF t else ktI t
variable {w0 w : World} {H : Heap}
theorem c42 (hM : Mem w0 w H) {t : TabV} (ht : t.OK) {k : Nat} (hk : k < 2 ^ 64) : Calls Tryz.prog 42 [.agg t.hash.toArray, u64 k].toArray w (Keeps w0 H (u64 (t.of k))) := by
 have hs := ht.seed
 have hm := ht.mask
 have hxor : k ^^^ t.seed < 2 ^ 64 := Nat.xor_lt_two_pow hk hs
 have hsh := t.sh_le
 have hdv : (k ^^^ t.seed) * t.times % 2 ^ 64 / 2 ^ t.sh < 2 ^ 64 := Nat.lt_of_le_of_lt (Nat.div_le_self _ _) (Nat.mod_lt _ (by decide))
 refine calls_start Tryz.func42 rfl Tryz.ntmps42 (Nat.le_of_ble_eq_true rfl) ?_
 refine rs hM ?_
 refine rw_boxN (v := .agg t.hash.toArray) rfl rfl rfl (fun b2 G2 n2 l2 e2 k2 => ?_)
 refine asg ?_
 refine rw_nil ?_; intro w hM
 refine rs hM ?_
 refine fa fr24_3 ?_
 refine lo (v := i64 t.shift) ld3 e2 ?_
 refine asg ?_
 refine rw_nil ?_; intro w hM
 refine wp_seq_mid (fun f w => Know f [(1, u64 k), (2, .pointer (some ⟨b2, 0, none⟩)), (5, i64 (t.sh : Nat))] ∧ Mem w0 w G2) ?_ ?_
 ·by_cases h1 : t.shift < 0
  ·have es : t.sh = 0 := by unfold TabV.sh; rw [if_pos (.inl h1)]
   refine rs hM ?_
   refine mv ?_
   refine rw_bin rfl rfl rfl rfl (b_true (b_lt _ _) (decide_eq_true h1)) ?_
   refine mv ?_
   refine rw_skip rfl rfl ?_
   refine rw_skip rfl rfl ?_
   refine rw_pick rfl rfl rfl rfl rfl ?_
   refine rw_nil ?_; intro w hM
   refine wp_if (tmp_lt rfl) rfl (fun hc => ?_) (by nofun)
   refine re hM ?_
   refine asg ?_
   refine rw_nil ?_; intro w hM
   rw [es]
   exact ⟨_, rfl, Know.of ⟨rfl, rfl, rfl, trivial⟩, hM⟩
  ·by_cases h2 : t.shift > 63
   ·have es : t.sh = 0 := by unfold TabV.sh; rw [if_pos (.inr h2)]
    refine rs hM ?_
    refine mv ?_
    refine rw_bin rfl rfl rfl rfl (b_false (b_lt _ _) (decide_eq_false h1)) ?_
    refine mv ?_
    refine mv ?_
    refine rw_bin rfl rfl rfl rfl (b_true (b_gt _ _) (decide_eq_true h2)) ?_
    refine rw_pick rfl rfl rfl rfl rfl ?_
    refine rw_nil ?_; intro w hM
    refine wp_if (tmp_lt rfl) rfl (fun hc => ?_) (by nofun)
    refine re hM ?_
    refine asg ?_
    refine rw_nil ?_; intro w hM
    rw [es]
    exact ⟨_, rfl, Know.of ⟨rfl, rfl, rfl, trivial⟩, hM⟩
   ·have es : ((t.sh : Nat) : Int) = t.shift := by unfold TabV.sh; rw [if_neg (by omega)]; omega
    refine rs hM ?_
    refine mv ?_
    refine rw_bin rfl rfl rfl rfl (b_false (b_lt _ _) (decide_eq_false h1)) ?_
    refine mv ?_
    refine mv ?_
    refine rw_bin rfl rfl rfl rfl (b_false (b_gt _ _) (decide_eq_false h2)) ?_
    refine rw_pick rfl rfl rfl rfl rfl ?_
    refine rw_nil ?_; intro w hM
    refine wp_if (tmp_lt rfl) rfl (by nofun) (fun hc => ?_)
    refine wp_skip ?_
    rw [es]
    exact ⟨_, rfl, Know.of ⟨rfl, rfl, rfl, trivial⟩, hM⟩
 clear hM
 rintro f w ⟨⟨f1, rfl⟩, hM⟩
 refine rs hM ?_
 refine mv ?_
 refine fa fr24_0 ?_
 refine lo (v := u64 t.seed) ld22 e2 ?_
 refine rw_bin (v := u64 (k ^^^ t.seed)) rfl rfl rfl rfl (b_xor64 _ _ hk hs) ?_
 refine fa fr24_1 ?_
 refine lo (v := u64 t.times) ld22 e2 ?_
 refine rw_bin (v := u64 ((k ^^^ t.seed) * t.times % 2 ^ 64)) rfl rfl rfl rfl (b_mul64 _ _) ?_
 refine mv ?_
 refine rw_conv (v := u64 t.sh) rfl rfl rfl (c_u64 Tryz.underlying3 Tryz.underlying37 t.sh (by omega)) ?_
 refine rw_bin (v := u64 ((k ^^^ t.seed) * t.times % 2 ^ 64 / 2 ^ t.sh)) rfl rfl rfl rfl (b_shr64 _ t.sh (by omega)) ?_
 refine fa fr24_2 ?_
 refine lo (v := u64 t.mask) ld22 e2 ?_
 refine rw_bin (v := u64 (t.of k)) rfl rfl rfl rfl (b_and64 _ _ hdv hm) ?_
 refine asg ?_
 refine rw_nil ?_; intro w hM
 refine wp_ret ?_
 exact post_tmp rfl rfl rfl (keep rfl (hM.mono l2))
theorem b_feq {P : Program} {t : TypeId} {k : FloatKind} (a b : Nat) (_h : P.underlying t = some (.float k)) : BinRun P .eql t (.float .f64 a) (.float .f64 b) (.bool (feq a b)) := fun w X Y => by
 simp only [eqGuard]
 have h1 : (binOp .eql t (.float .f64 a) (.float .f64 b)).run P w = .ok (.bool (feq a b)) w := rfl
 exact h1
theorem b_fne {P : Program} {t : TypeId} {k : FloatKind} (a b : Nat) (_h : P.underlying t = some (.float k)) : BinRun P .neq t (.float .f64 a) (.float .f64 b) (.bool (!feq a b)) := fun w X Y => by
 simp only [eqGuard]
 have h1 : (binOp .neq t (.float .f64 a) (.float .f64 b)).run P w = .ok (.bool (!feq a b)) w := rfl
 exact h1
theorem c38 (hM : Mem w0 w H) {t : TabV} (ht : t.OK) {k : Nat} (hk : k < 2 ^ 64) : Calls Tryz.prog 38 [.agg t.hash.toArray, .float .f64 k].toArray w (Keeps w0 H (u64 (t.ofF k))) := by
 refine calls_start Tryz.func38 rfl Tryz.ntmps38 (Nat.le_of_ble_eq_true rfl) ?_
 refine rs hM ?_
 refine rw_boxN (v := .agg t.hash.toArray) rfl rfl rfl (fun b2 G2 n2 l2 e2 k2 => ?_)
 refine asg ?_
 refine rw_nil ?_; intro w hM
 refine wp_seq_mid (fun f w => Know f [(1, .float .f64 k), (2, .pointer (some ⟨b2, 0, none⟩))] ∧ Mem w0 w G2 ∧ t.ofF k = t.of (k % 2 ^ 64)) ?_ ?_
 ·refine wp_block ?_
  cases h0 : feq k 0 with
  | true =>
   refine rs hM ?_
   refine mv ?_
   refine rw_bin (v := .bool true) rfl rfl rfl rfl (by have := b_feq (P := Tryz.prog) k 0 Tryz.underlying61; rw [h0] at this; exact this) ?_
   refine asg ?_
   refine rw_nil ?_; intro w hM
   refine wp_if (tmp_lt rfl) rfl (fun hc => ?_) (by nofun)
   refine rs hM ?_
   refine rw_loadA t.hash ld24 rfl rfl rfl e2 rfl ?_
   refine rw_callq (vs := [.agg t.hash.toArray, u64 0]) cr42 rfl rfl (fun H' w hle hM => c42 hM ht (by decide)) rfl ?_
   refine asg ?_
   refine rw_nil ?_; intro w hM
   refine wp_ret ?_
   simp only [Exit.inBlock, Exit.then]
   exact post_tmp rfl rfl rfl (keep (by unfold TabV.ofF; rw [h0]; rfl) (hM.mono l2))
  | false =>
   refine rs hM ?_
   refine mv ?_
   refine rw_bin (v := .bool false) rfl rfl rfl rfl (by have := b_feq (P := Tryz.prog) k 0 Tryz.underlying61; rw [h0] at this; exact this) ?_
   refine asg ?_
   refine rw_nil ?_; intro w hM
   refine wp_if (tmp_lt rfl) rfl (by nofun) (fun hc => ?_)
   cases h1 : feq k k with
   | true =>
    refine rs hM ?_
    refine mv ?_
    refine mv ?_
    refine rw_bin (v := .bool false) rfl rfl rfl rfl (by have := b_fne (P := Tryz.prog) k k Tryz.underlying61; rw [h1] at this; exact this) ?_
    refine asg ?_
    refine rw_nil ?_; intro w hM
    refine wp_if (tmp_lt rfl) rfl (by nofun) (fun hc => ?_)
    refine wp_skip ?_
    exact ⟨_, rfl, Know.of ⟨rfl, rfl, trivial⟩, hM, by unfold TabV.ofF; rw [h0, h1]; rfl⟩
   | false =>
    refine rs hM ?_
    refine mv ?_
    refine mv ?_
    refine rw_bin (v := .bool true) rfl rfl rfl rfl (by have := b_fne (P := Tryz.prog) k k Tryz.underlying61; rw [h1] at this; exact this) ?_
    refine asg ?_
    refine rw_nil ?_; intro w hM
    refine wp_if (tmp_lt rfl) rfl (fun hc => ?_) (by nofun)
    refine rs hM ?_
    refine rw_loadA t.hash ld24 rfl rfl rfl e2 rfl ?_
    refine rw_callq (vs := [.agg t.hash.toArray, u64 1]) cr42 rfl rfl (fun H' w hle hM => c42 hM ht (by decide)) rfl ?_
    refine asg ?_
    refine rw_nil ?_; intro w hM
    refine wp_ret ?_
    simp only [Exit.inBlock, Exit.then]
    exact post_tmp rfl rfl rfl (keep (by unfold TabV.ofF; rw [h0, h1]; rfl) (hM.mono l2))
 clear hM
 rintro f w ⟨⟨f1, rfl⟩, hM, he⟩
 refine wp_mix_seq [] [] [0, 1, 2, 3, 4] G2 mixed (by kernel_rfl) (Heap.le_refl _) hM ?_
 refine rw_loadA t.hash ld24 rfl rfl rfl e2 rfl ?_
 refine mv ?_
 refine rw_ext (v := u64 k) rfl rfl (ext55 k) rfl ?_
 refine rw_callq (vs := [.agg t.hash.toArray, u64 k]) cr42 rfl rfl (fun H' w hle hM => c42 hM ht hk) rfl ?_
 refine asg ?_
 refine rw_nil ?_; intro w hM
 refine wp_ret ?_
 exact post_tmp (v := u64 (t.of k)) rfl rfl rfl (keep (by rw [he, Nat.mod_eq_of_lt hk]) (hM.mono l2))
/-- The cells that a table's functions look at. -/
theorem tab_take (t : TabV) : objTake (encTab t) 2 t.hash.length = some t.hash := rfl
theorem c41 (hM : Mem w0 w H) {t : TabV} (ht : t.OK) {b : Nat} (hb : H b = some (encTab t)) {k s : Nat} (hk : k < 2 ^ 64) : Calls Tryz.prog 41 ([u64 k, u64 s] ++ [Value.pointer (some ⟨b, 0, none⟩)]).toArray w (Keeps w0 H (u64 (t.of k))) := by
 refine calls_start Tryz.func41 rfl Tryz.ntmps41 (Nat.le_of_ble_eq_true rfl) ?_
 refine rs hM ?_
 refine asg ?_
 refine rw_nil ?_; intro w hM
 refine rs hM ?_
 refine fa fr27_2 ?_
 refine rw_loadA t.hash ld24 rfl rfl rfl hb (tab_take t) ?_
 refine mv ?_
 refine rw_callq (vs := [.agg t.hash.toArray, u64 k]) cr42 rfl rfl (fun H' w hle hM => c42 hM ht hk) rfl ?_
 refine asg ?_
 refine rw_nil ?_; intro w hM
 refine wp_ret ?_
 exact post_tmp rfl rfl rfl (keep rfl hM)
theorem c37 (hM : Mem w0 w H) {t : TabV} (ht : t.OK) {b : Nat} (hb : H b = some (encTab t)) {k s : Nat} (hk : k < 2 ^ 64) : Calls Tryz.prog 37 ([Value.float .f64 k, u64 s] ++ [Value.pointer (some ⟨b, 0, none⟩)]).toArray w (Keeps w0 H (u64 (t.ofF k))) := by
 refine calls_start Tryz.func37 rfl Tryz.ntmps37 (Nat.le_of_ble_eq_true rfl) ?_
 refine rs hM ?_
 refine asg ?_
 refine rw_nil ?_; intro w hM
 refine rs hM ?_
 refine fa fr27_2 ?_
 refine rw_loadA t.hash ld24 rfl rfl rfl hb (tab_take t) ?_
 refine mv ?_
 refine rw_callq (vs := [.agg t.hash.toArray, .float .f64 k]) cr38 rfl rfl (fun H' w hle hM => c38 hM ht hk) rfl ?_
 refine asg ?_
 refine rw_nil ?_; intro w hM
 refine wp_ret ?_
 exact post_tmp rfl rfl rfl (keep rfl hM)
/-- A block that holds a function. -/
def encFn (g b ty : Nat) : Obj := .cells #[.func (.func g) #[] #[.pointer (some ⟨b, 0, none⟩)]] ty (0, 0)
theorem c57 (hM : Mem w0 w H) {t : TabV} (ht : t.OK) {b1 b4 : Nat} (hb1 : H b1 = some (encTab t)) (hb4 : H b4 = some (encFn 41 b1 73)) {b off k s : Nat} {ob : Obj} (hb : H b = some ob) (hc : objCell ob off = some (u64 k)) (hk : k < 2 ^ 64) :
  Calls Tryz.prog 57 ([Value.pointer (some ⟨b, off, none⟩), u64 s] ++ [Value.pointer (some ⟨b4, 0, none⟩)]).toArray w (Keeps w0 H (u64 ((ktI t).hash k))) := by
 refine calls_start Tryz.func57 rfl Tryz.ntmps57 (Nat.le_of_ble_eq_true rfl) ?_
 refine rs hM ?_
 refine asg ?_
 refine rw_nil ?_; intro w hM
 refine wp_mix_seq [] [] [0, 1, 2, 3, 4, 5, 6] H mixed (by kernel_rfl) (Heap.le_refl _) hM ?_
 refine lo (v := .func (.func 41) #[] #[.pointer (some ⟨b1, 0, none⟩)]) ld73 hb4 ?_
 refine mv ?_
 refine nck ?_
 refine rw_load (v := u64 k) ld84 rfl rfl rfl hb hc ?_
 refine mv ?_
 refine rw_callvq (captured := [.pointer (some ⟨b1, 0, none⟩)]) cr41 rfl rfl rfl (fun H' w hle hM => c41 hM ht (hle _ _ hb1) hk) rfl ?_
 refine asg ?_
 refine rw_nil ?_; intro w hM
 refine wp_ret ?_
 exact post_tmp rfl rfl rfl (keep (by show u64 (t.of k) = u64 (t.of (k % 2 ^ 64)); rw [Nat.mod_eq_of_lt hk]) hM)
theorem c53 (hM : Mem w0 w H) {t : TabV} (ht : t.OK) {b1 b4 : Nat} (hb1 : H b1 = some (encTab t)) (hb4 : H b4 = some (encFn 37 b1 68)) {b off k s : Nat} {ob : Obj} (hb : H b = some ob) (hc : objCell ob off = some (u64 k)) (hk : k < 2 ^ 64) :
  Calls Tryz.prog 53 ([Value.pointer (some ⟨b, off, none⟩), u64 s] ++ [Value.pointer (some ⟨b4, 0, none⟩)]).toArray w (Keeps w0 H (u64 ((ktF t).hash k))) := by
 refine calls_start Tryz.func53 rfl Tryz.ntmps53 (Nat.le_of_ble_eq_true rfl) ?_
 refine rs hM ?_
 refine asg ?_
 refine rw_nil ?_; intro w hM
 refine wp_mix_seq [] [] [0, 1, 2, 3, 4, 5, 6, 7] H mixed (by kernel_rfl) (Heap.le_refl _) hM ?_
 refine lo (v := .func (.func 37) #[] #[.pointer (some ⟨b1, 0, none⟩)]) ld68 hb4 ?_
 refine mv ?_
 refine nck ?_
 refine rw_load (v := u64 k) ld84 rfl rfl rfl hb hc ?_
 refine rw_ext (v := .float .f64 k) rfl rfl (ext33 k) rfl ?_
 refine mv ?_
 refine rw_callvq (captured := [.pointer (some ⟨b1, 0, none⟩)]) cr37 rfl rfl rfl (fun H' w hle hM => c37 hM ht (hle _ _ hb1) hk) rfl ?_
 refine asg ?_
 refine rw_nil ?_; intro w hM
 refine wp_ret ?_
 exact post_tmp rfl rfl rfl (keep rfl hM)
theorem c58 (hM : Mem w0 w H) {b off k b' off' k' : Nat} {ob ob' : Obj} (hb : H b = some ob) (hc : objCell ob off = some (u64 k)) (hb' : H b' = some ob') (hc' : objCell ob' off' = some (u64 k')) :
  Calls Tryz.prog 58 ([Value.pointer (some ⟨b, off, none⟩), .pointer (some ⟨b', off', none⟩)] ++ []).toArray w (Keeps w0 H (.bool (k == k'))) := by
 refine calls_start Tryz.func58 rfl Tryz.ntmps58 (Nat.le_of_ble_eq_true rfl) ?_
 refine rs hM ?_
 refine asg ?_
 refine rw_nil ?_; intro w hM
 refine wp_mix_seq [] [] [0, 1, 2, 3, 4, 5, 6, 7] H mixed (by kernel_rfl) (Heap.le_refl _) hM ?_
 refine mv ?_
 refine nck ?_
 refine rw_load (v := u64 k) ld84 rfl rfl rfl hb hc ?_
 refine mv ?_
 refine nck ?_
 refine rw_load (v := u64 k') ld84 rfl rfl rfl hb' hc' ?_
 refine rw_bin rfl rfl rfl rfl (b_eq _ _) ?_
 refine asg ?_
 refine rw_nil ?_; intro w hM
 refine wp_ret ?_
 refine post_tmp rfl rfl rfl (keep (congrArg Value.bool ?_) hM)
 by_cases h : k = k'
 ·subst h; simp
 ·rw [beq_false_of_ne h]; exact beq_false_of_ne (by omega)
theorem c54 (hM : Mem w0 w H) {b off k b' off' k' : Nat} {ob ob' : Obj} (hb : H b = some ob) (hc : objCell ob off = some (u64 k)) (hb' : H b' = some ob') (hc' : objCell ob' off' = some (u64 k')) :
  Calls Tryz.prog 54 ([Value.pointer (some ⟨b, off, none⟩), .pointer (some ⟨b', off', none⟩)] ++ []).toArray w (Keeps w0 H (.bool (feq k k'))) := by
 refine calls_start Tryz.func54 rfl Tryz.ntmps54 (Nat.le_of_ble_eq_true rfl) ?_
 refine rs hM ?_
 refine asg ?_
 refine rw_nil ?_; intro w hM
 refine wp_mix_seq [] [] [0, 1, 2, 3, 4, 5, 6, 7, 8, 9] H mixed (by kernel_rfl) (Heap.le_refl _) hM ?_
 refine mv ?_
 refine nck ?_
 refine rw_load (v := u64 k) ld84 rfl rfl rfl hb hc ?_
 refine rw_ext (v := .float .f64 k) rfl rfl (ext33 k) rfl ?_
 refine mv ?_
 refine nck ?_
 refine rw_load (v := u64 k') ld84 rfl rfl rfl hb' hc' ?_
 refine rw_ext (v := .float .f64 k') rfl rfl (ext33 k') rfl ?_
 refine rw_bin rfl rfl rfl rfl (b_feq k k' Tryz.underlying61) ?_
 refine asg ?_
 refine rw_nil ?_; intro w hM
 refine wp_ret ?_
 exact post_tmp rfl rfl rfl (keep rfl hM)
/-- A map's type in memory. -/
def encTy (fh fe : Nat) (b4 : Nat) (nu : Bool) (rand : Value) : Obj := .cells #[.func (.func fh) #[] #[.pointer (some ⟨b4, 0, none⟩)], .func (.func fe) #[] #[], .bool nu, rand] 88 (0, 0)
def tyI {t : TabV} (ht : t.OK) {E : Heap} {bt b1 b4 : Nat} {rand : Value} (h1 : E b1 = some (encTab t)) (h4 : E b4 = some (encFn 41 b1 73)) (h : E bt = some (encTy 57 58 b4 false rand)) : TypOK (ktI t) w0 E bt false where
 fh := 57
 fe := 58
 ch := [.pointer (some ⟨b4, 0, none⟩)]
 rand := rand
 typ := h
 crh := cr57
 cre := cr58
 hasher := fun hM hE hb hc hk => c57 hM ht (hE _ _ h1) (hE _ _ h4) hb hc hk
 equal := fun hM _ hb hc _ hb' hc' _ => c58 hM hb hc hb' hc'
def tyF {t : TabV} (ht : t.OK) {E : Heap} {bt b1 b4 : Nat} {rand : Value} (h1 : E b1 = some (encTab t)) (h4 : E b4 = some (encFn 37 b1 68)) (h : E bt = some (encTy 53 54 b4 true rand)) : TypOK (ktF t) w0 E bt true where
 fh := 53
 fe := 54
 ch := [.pointer (some ⟨b4, 0, none⟩)]
 rand := rand
 typ := h
 crh := cr53
 cre := cr54
 hasher := fun hM hE hb hc hk => c53 hM ht (hE _ _ h1) (hE _ _ h4) hb hc hk
 equal := fun hM _ hb hc _ hb' hc' _ => c54 hM hb hc hb' hc'
end
section
section
variable {P : Program} {ops : Array Oper} {sp br : List Nat} {d : Bool} {w0 : World} {K : Slots → World → Prop} {i : Nat} {rest : List Nat} {Hq H : Heap} {f : Slots}
variable {dst : Tmp} {ty : TypeId} {pos : String} {aft : Array Edge} {g : Option (Nat × Bool)}
theorem rw_makeFunc {fn : Fn} {cap : Array Operand} {vs : List Value} (ho : ops[i]? = some ⟨some dst, .makeFunc fn #[] cap, ty, pos, aft, g⟩) (hw : wantedS ops f ⟨some dst, .makeFunc fn #[] cap, ty, pos, aft, g⟩ = true) (hx : cap.toList.map (ev f) = vs)
  (h : RW P ops sp br d w0 K rest Hq H (f.set dst (.func fn #[] vs.toArray))) : RW P ops sp br d w0 K (i :: rest) Hq H f :=
 rw_q ho hw (v := .func fn #[] vs.toArray) (fun _ w _ _ => by
  have e : cap.map (ev f) = vs.toArray := by apply Array.toList_inj.1; rw [Array.toList_map, hx]
  simp [execOp, e, Instr.makeFunc, bind, pure, Sem.bind]) h
theorem rw_max {k : IntKind} {x y : Operand} {ats : Array TypeId} {a b : Int} (ho : ops[i]? = some ⟨some dst, .call ⟨.builtin .max, #[x, y], ats⟩, ty, pos, aft, g⟩) (hw : wantedS ops f ⟨some dst, .call ⟨.builtin .max, #[x, y], ats⟩, ty, pos, aft, g⟩ = true) (hx : ev f x = .int k a) (hy : ev f y = .int k b)
  (h : RW P ops sp br d w0 K rest Hq H (f.set dst (.int k (if b > a then b else a)))) : RW P ops sp br d w0 K (i :: rest) Hq H f :=
 rw_q ho hw (v := .int k (if b > a then b else a)) (fun _ w _ _ => by
  simp [execOp, resolve, invoke, builtin, Builtin.max_, Builtin.max2, hx, hy, bind, pure, Sem.bind]) h
theorem rw_min {k : IntKind} {x y : Operand} {ats : Array TypeId} {a b : Int} (ho : ops[i]? = some ⟨some dst, .call ⟨.builtin .min, #[x, y], ats⟩, ty, pos, aft, g⟩) (hw : wantedS ops f ⟨some dst, .call ⟨.builtin .min, #[x, y], ats⟩, ty, pos, aft, g⟩ = true) (hx : ev f x = .int k a) (hy : ev f y = .int k b)
  (h : RW P ops sp br d w0 K rest Hq H (f.set dst (.int k (if b < a then b else a)))) : RW P ops sp br d w0 K (i :: rest) Hq H f :=
 rw_q ho hw (v := .int k (if b < a then b else a)) (fun _ w _ _ => by
  simp [execOp, resolve, invoke, builtin, Builtin.min_, Builtin.min2, hx, hy, bind, pure, Sem.bind]) h
end
end
section
/-- The numbers that are given, in the memory that was there at the beginning. -/
def OffOK (w0 : World) (t : TabV) : Prop := t.on < 2 ^ 62 ∧ (t.on = 0 ∨ ∃ b o, t.oa = some ⟨b, o, none⟩ ∧ ∀ i, i < t.on → ∃ x, x < 2 ^ 64 ∧ w0.cell? ⟨b, o + i, none⟩ = some (u64 x))
/-- A block that holds a slice of numbers. -/
def encSl (t : TabV) : Obj := .cells #[.slice t.oa t.on t.oc] 25 (0, 0)
variable {w0 w : World} {H : Heap}
theorem c56 (hM : Mem w0 w H) {t : TabV} (hO : OffOK w0 t) {b25 cb n : Nat} (h25 : H b25 = some (encSl t)) (hcb : H cb = some (encI n)) (hn : n < 2 ^ 62) :
  Calls Tryz.prog 56 ([] ++ [Value.pointer (some ⟨b25, 0, none⟩), .pointer (some ⟨cb, 0, none⟩)]).toArray w (Gives w0 fun v S => ∃ r n', v = u64 r ∧ r < 2 ^ 64 ∧ n' ≤ n + 1 ∧ S cb = some (encI n') ∧ ∀ x, x ≠ cb → S x = H x) := by
 have hlen := hO.1
 refine calls_start Tryz.func56 rfl Tryz.ntmps56 (Nat.le_of_ble_eq_true rfl) ?_
 refine rs hM ?_
 refine asg ?_
 refine rw_nil ?_; intro w hM
 refine wp_seq ?_
 refine rs hM ?_
 refine lo (v := .slice t.oa t.on t.oc) ld25 h25 ?_
 refine rw_len Tryz.underlying25 rfl rfl rfl ?_
 refine rw_bin rfl rfl rfl rfl (b_eq _ _) ?_
 refine rw_nil ?_; intro w hM
 refine wp_if (tmp_lt rfl) rfl (fun hc => ?_) (fun hc => ?_)
 ·refine rs hM ?_
  refine asg ?_
  refine rw_nil ?_; intro w hM
  refine wp_ret ?_
  simp only [Exit.then]
  exact post_tmp (v := u64 0) rfl rfl rfl ⟨_, H, rfl, hM, 0, n, rfl, by decide, by omega, hcb, fun _ _ => rfl⟩
 ·have h0 : t.on ≠ 0 := fun e => by rw [e] at hc; cases hc
  obtain ⟨b, o, hoa, hcells⟩ := hO.2.resolve_left h0
  have hpos : 0 < t.on := by omega
  obtain ⟨x, hx, hxc⟩ := hcells (n % t.on) (Nat.mod_lt _ hpos)
  refine wp_skip ?_
  simp only [Exit.then]
  refine wp_mix_seq [] [] [0, 1, 2, 3, 4, 5, 6, 7] H mixed (by kernel_rfl) (Heap.le_refl _) hM ?_
  refine rw_load (v := .slice (some ⟨b, o, none⟩) t.on t.oc) ld25 rfl rfl rfl h25 (by rw [← hoa]; rfl) ?_
  refine lo (v := i64 (n : Nat)) ld3 hcb ?_
  refine lo (v := .slice t.oa t.on t.oc) ld25 h25 ?_
  refine rw_len Tryz.underlying25 rfl rfl rfl ?_
  refine rw_bin rfl rfl rfl rfl (b_rem n t.on hpos) ?_
  refine rw_indexAddr rfl rfl rfl rfl (x_slice Tryz.underlying25 sz22 (Nat.mod_lt _ hpos)) ?_
  refine rw_load_old (v := u64 x) ld22 rfl rfl rfl (by rw [Nat.mul_one]; exact hxc) ?_
  refine asg ?_
  refine rw_nil ?_; intro w hM
  refine rs hM ?_
  refine lo (v := i64 (n : Nat)) ld3 hcb ?_
  refine rw_bin (v := i64 (n + 1 : Nat)) rfl rfl rfl rfl (bin_eq (b_addi (by omega) (by omega)) (by congr 1)) ?_
  refine rw_store1 (v := .int .i64 _) sz3 rfl rfl rfl rfl hcb rfl rfl (by nofun) (fun S4 hS4 kS4 => ?_)
  refine rw_nil ?_; intro w hM
  refine rs hM ?_
  refine mv ?_
  refine asg ?_
  refine rw_nil ?_; intro w hM
  refine wp_ret ?_
  exact post_tmp (v := u64 x) rfl rfl rfl ⟨_, S4, rfl, hM, x, n + 1, rfl, hx, Nat.le_refl _, hS4.trans rfl, kS4⟩
/-- .. as the map takes them. -/
def rndOf {t : TabV} (hO : OffOK w0 t) {E : Heap} {b25 cb : Nat} (h25 : E b25 = some (encSl t)) : Rnd w0 E cb (.func (.func 56) #[] #[.pointer (some ⟨b25, 0, none⟩), .pointer (some ⟨cb, 0, none⟩)]) where
 fr := 56
 cr := [.pointer (some ⟨b25, 0, none⟩), .pointer (some ⟨cb, 0, none⟩)]
 val := rfl
 run := cr56
 call := fun hM hE hcb hn => c56 hM hO (hE _ _ h25) hcb hn
theorem c39 (hM : Mem w0 w H) {t : TabV} : Calls Tryz.prog 39 [.slice t.oa t.on t.oc].toArray w (Gives w0 fun v S => ∃ b25 cb, v = .func (.func 56) #[] #[.pointer (some ⟨b25, 0, none⟩), .pointer (some ⟨cb, 0, none⟩)] ∧ b25 ≠ cb ∧ H b25 = none ∧ H cb = none ∧ S b25 = some (encSl t) ∧ S cb = some (encI 0) ∧ H.le S) := by
 refine calls_start Tryz.func39 rfl Tryz.ntmps39 (Nat.le_of_ble_eq_true rfl) ?_
 refine rs hM ?_
 refine rw_boxN (v := .slice t.oa t.on t.oc) rfl rfl rfl (fun b1 G1 n1 l1 e1 k1 => ?_)
 refine asg ?_
 refine rw_nil ?_; intro w hM
 refine rs hM ?_
 refine rw_allocN Tryz.zeroValue3 rfl rfl (fun b3 G3 n3 l3 e3 k3 => ?_)
 refine rw_store1 (v := .int .i64 _) sz3 rfl rfl rfl rfl e3 rfl rfl (by nofun) (fun S1 hS1 kS1 => ?_)
 refine rw_nil ?_; intro w hM
 refine rs hM ?_
 refine rw_makeFunc rfl rfl rfl ?_
 refine asg ?_
 refine rw_nil ?_; intro w hM
 refine wp_ret ?_
 have hne : b1 ≠ b3 := fun e => by rw [← e, e1] at n3; cases n3
 refine post_tmp (v := .func (.func 56) #[] #[.pointer (some ⟨b1, 0, none⟩), .pointer (some ⟨b3, 0, none⟩)]) rfl rfl rfl ⟨_, _, rfl, hM, b1, b3, rfl, hne, n1, ?_, ?_, ?_, ?_⟩
 ·exact le_none l1 n3
 ·rw [kS1 _ hne]; exact l3 _ _ e1
 ·exact hS1.trans rfl
 ·exact le_keep (Heap.le_trans l1 l3) (le_none l1 n3) kS1
theorem c52 (hM : Mem w0 w H) (hDb : HasDb w0) {K : KT} {E : Heap} {bty cb hint : Nat} {nu : Bool} (hE : E.le H) (Ty : TypOK K w0 E bty nu) (R : Rnd w0 E cb Ty.rand) (hcb : H cb = some (encI 0)) (hEc : E cb = none) (hh : hint ≤ 5000) :
  Calls Tryz.prog 52 [u64 hint, .pointer (some ⟨bty, 0, none⟩)].toArray w (Gives w0 fun v S => ∃ bT bm S0, v = .pointer (some ⟨bT, 0, none⟩) ∧ NewM K H bm cb S0 ∧ S0 bT = none ∧ S bT = some (.cells #[.pointer (some ⟨bty, 0, none⟩), .pointer (some ⟨bm, 0, none⟩)] 98 (0, 0)) ∧ ∀ x, x ≠ bT → S x = S0 x) := by
 refine calls_start Tryz.func52 rfl Tryz.ntmps52 (Nat.le_of_ble_eq_true rfl) ?_
 refine rs hM ?_
 refine asg ?_
 refine rw_nil ?_; intro w hM
 refine rs hM ?_
 refine mv ?_
 refine mv ?_
 refine mv ?_
 refine rw_callE cr72 rfl rfl (fun w hM => c72 hM hDb hE Ty R hcb hEc hh) rfl (by nofun) ?_; rintro _ S3 ⟨bm, rfl, hN⟩
 refine rw_build (bd98_0_1 _ _) rfl rfl rfl ?_
 refine rw_boxN (v := .agg #[.pointer _, .pointer _]) rfl rfl rfl (fun b10 G10 n10 l10 e10 k10 => ?_)
 refine asg ?_
 refine rw_nil ?_; intro w hM
 refine wp_ret ?_
 exact post_tmp (v := .pointer (some ⟨b10, 0, none⟩)) rfl rfl rfl ⟨_, _, rfl, hM, b10, bm, S3, rfl, hN, n10, e10, k10⟩
/-- What a new map is, with all that she leans on: type and numbers. -/
def Made (t : TabV) (w0 : World) (S : Heap) (bT cb bm : Nat) : Prop := ∃ (K : KT) (nu : Bool) (E : Heap) (bty : Nat) (Ty : TypOK K w0 E bty nu) (_ : Rnd w0 E cb Ty.rand), K = ktOf t ∧ nu = t.floats ∧ E.le S ∧ (∀ x u, E x = some u → Plain u) ∧ E cb = none ∧
  S bT = some (.cells #[.pointer (some ⟨bty, 0, none⟩), .pointer (some ⟨bm, 0, none⟩)] 98 (0, 0)) ∧ ∃ m V n', MapIs K S bm m V ∧ m.wr = 0 ∧ m.tomb = false ∧ m.used = 0 ∧ m.clr = 0 ∧ (∀ g s k e, ¬ V.live g s k e) ∧ V.Pot 0 ∧ S cb = some (encI n') ∧ n' ≤ 1
/-- Four blocks of a heap. -/
def four (G : Heap) (a b c d : Nat) : Heap := fun x => if x = a ∨ x = b ∨ x = c ∨ x = d then G x else none
theorem four_le (G : Heap) (a b c d : Nat) : (four G a b c d).le G := fun x u h => by
 unfold four at h; split at h
 ·exact h
 ·cases h
theorem made_of {t : TabV} {H G S0 S : Heap} {K : KT} {nu : Bool} {b1 b4 bt b25 cb bT bm : Nat} (Ty : TypOK K w0 (four G b1 b4 bt b25) bt nu) (R : Rnd w0 (four G b1 b4 bt b25) cb Ty.rand) (hK : K = ktOf t) (hn : nu = t.floats) (hp : ∀ x u, four G b1 b4 bt b25 x = some u → Plain u) (hGH : ∀ x u, H x = some u → G x = some u) (hEc : four G b1 b4 bt b25 cb = none)
  (hN : NewM K G bm cb S0) (h1 : S0 bT = none) (h2 : S bT = some (.cells #[.pointer (some ⟨bt, 0, none⟩), .pointer (some ⟨bm, 0, none⟩)] 98 (0, 0))) (h3 : ∀ x, x ≠ bT → S x = S0 x) : H bT = none ∧ H bm = none ∧ Made t w0 S bT cb bm ∧ ∀ x u, H x = some u → x ≠ cb → S x = some u := by
 obtain ⟨m, V, n', a1, a2, a3, a4, a5, a6, a7, a8, a9, a10, a11⟩ := hN
 have hS0 : ∀ x u, S0 x = some u → S x = some u := fun x u hx => (h3 x (ne_of_none h1 hx)).trans hx
 have hTn : H bT = none := by
  cases e : H bT with
  | none => rfl
  | some u =>
   exfalso
   by_cases hc : bT = cb
   ·rw [hc, a8] at h1; cases h1
   ·rw [a11 _ _ (hGH _ _ e) hc] at h1; cases h1
 refine ⟨hTn, ?_, ⟨K, nu, _, bt, Ty, R, hK, hn, fun x u hx => hS0 _ _ (a11 x u (four_le _ _ _ _ _ _ _ hx) (ne_of_none hEc hx)), hp, hEc, h2, m, V, n', a1.mono hS0, a2, a3, a4, a5, a6, a7, hS0 _ _ a8, a9⟩, fun x u hx hc => hS0 _ _ (a11 x u (hGH _ _ hx) hc)⟩
 cases e : H bm with
 | none => rfl
 | some u => rw [hGH _ _ e] at a10; cases a10
theorem four_in {G : Heap} {a b c d : Nat} : four G a b c d a = G a ∧ four G a b c d b = G b ∧ four G a b c d c = G c ∧ four G a b c d d = G d :=
 ⟨if_pos (.inl rfl), if_pos (.inr (.inl rfl)), if_pos (.inr (.inr (.inl rfl))), if_pos (.inr (.inr (.inr rfl)))⟩
theorem four_cases {G : Heap} {a b c d x : Nat} {u : Obj} (h : four G a b c d x = some u) : G x = some u ∧ (x = a ∨ x = b ∨ x = c ∨ x = d) := by
 unfold four at h; split at h
 ·rename_i hc; exact ⟨h, hc⟩
 ·cases h
theorem four_plain {G : Heap} {a b c d : Nat} {oa ob oc od : Obj} (ha : G a = some oa) (hb : G b = some ob) (hc : G c = some oc) (hd : G d = some od) (pa : Plain oa) (pb : Plain ob) (pc : Plain oc) (pd : Plain od) : ∀ x u, four G a b c d x = some u → Plain u := fun x u h => by
 obtain ⟨h1, h2⟩ := four_cases h
 rcases h2 with rfl | rfl | rfl | rfl
 ·rw [ha] at h1; cases h1; exact pa
 ·rw [hb] at h1; cases h1; exact pb
 ·rw [hc] at h1; cases h1; exact pc
 ·rw [hd] at h1; cases h1; exact pd
theorem plain_of {c : Array Value} {ty : Nat} {fr : Nat × Nat} (h : (Nat.beq ty 132 || Nat.beq ty 149 || Nat.beq ty 158 || Nat.beq ty 101) = false) : Plain (.cells c ty fr) := by
 simp only [Bool.or_eq_false_iff] at h
 exact ⟨nat_beq_f.1 h.1.1.1, nat_beq_f.1 h.1.1.2, nat_beq_f.1 h.1.2, nat_beq_f.1 h.2⟩
theorem four_none {G : Heap} {a b c d x : Nat} (h1 : x ≠ a) (h2 : x ≠ b) (h3 : x ≠ c) (h4 : x ≠ d) : four G a b c d x = none := if_neg (by rintro (h | h | h | h) <;> contradiction)
theorem tyI_of {t : TabV} (ht : t.OK) (hO : OffOK w0 t) {G : Heap} {b1 b4 bt b25 cb : Nat} (h1 : G b1 = some (encTab t)) (h4 : G b4 = some (encFn 41 b1 73)) (hbt : G bt = some (encTy 57 58 b4 false (.func (.func 56) #[] #[.pointer (some ⟨b25, 0, none⟩), .pointer (some ⟨cb, 0, none⟩)]))) (h25 : G b25 = some (encSl t)) (hcb : G cb = some (encI 0)) (n4 : cb ≠ b4) (nt : cb ≠ bt) :
  ∃ (Ty : TypOK (ktI t) w0 (four G b1 b4 bt b25) bt false) (_ : Rnd w0 (four G b1 b4 bt b25) cb Ty.rand), (∀ x u, four G b1 b4 bt b25 x = some u → Plain u) ∧ four G b1 b4 bt b25 cb = none := by
 obtain ⟨i1, i2, i3, i4⟩ := four_in (G := G) (a := b1) (b := b4) (c := bt) (d := b25)
 exact ⟨tyI ht (i1.trans h1) (i2.trans h4) (i3.trans hbt), rndOf hO (i4.trans h25), four_plain h1 h4 hbt h25 (plain_of rfl) (plain_of rfl) (plain_of rfl) (plain_of rfl), four_none (ne_of_ty hcb h1 rfl rfl rfl) n4 nt (ne_of_ty hcb h25 rfl rfl rfl)⟩
theorem tyF_of {t : TabV} (ht : t.OK) (hO : OffOK w0 t) {G : Heap} {b1 b4 bt b25 cb : Nat} (h1 : G b1 = some (encTab t)) (h4 : G b4 = some (encFn 37 b1 68)) (hbt : G bt = some (encTy 53 54 b4 true (.func (.func 56) #[] #[.pointer (some ⟨b25, 0, none⟩), .pointer (some ⟨cb, 0, none⟩)]))) (h25 : G b25 = some (encSl t)) (hcb : G cb = some (encI 0)) (n4 : cb ≠ b4) (nt : cb ≠ bt) :
  ∃ (Ty : TypOK (ktF t) w0 (four G b1 b4 bt b25) bt true) (_ : Rnd w0 (four G b1 b4 bt b25) cb Ty.rand), (∀ x u, four G b1 b4 bt b25 x = some u → Plain u) ∧ four G b1 b4 bt b25 cb = none := by
 obtain ⟨i1, i2, i3, i4⟩ := four_in (G := G) (a := b1) (b := b4) (c := bt) (d := b25)
 exact ⟨tyF ht (i1.trans h1) (i2.trans h4) (i3.trans hbt), rndOf hO (i4.trans h25), four_plain h1 h4 hbt h25 (plain_of rfl) (plain_of rfl) (plain_of rfl) (plain_of rfl), four_none (ne_of_ty hcb h1 rfl rfl rfl) n4 nt (ne_of_ty hcb h25 rfl rfl rfl)⟩
theorem c40 (hM : Mem w0 w H) (hDb : HasDb w0) {t : TabV} (ht : t.OK) (hO : OffOK w0 t) (hf : t.floats = false) {b1 b25 cb hint : Nat} (h1 : H b1 = some (encTab t)) (h25 : H b25 = some (encSl t)) (hcb : H cb = some (encI 0)) (hh : hint ≤ 5000) :
  Calls Tryz.prog 40 [u64 hint, .func (.func 41) #[] #[.pointer (some ⟨b1, 0, none⟩)], .func (.func 56) #[] #[.pointer (some ⟨b25, 0, none⟩), .pointer (some ⟨cb, 0, none⟩)]].toArray w (Gives w0 fun v S => ∃ bT bm, v = .pointer (some ⟨bT, 0, none⟩) ∧ H bT = none ∧ H bm = none ∧ Made t w0 S bT cb bm ∧ ∀ x u, H x = some u → x ≠ cb → S x = some u) := by
 refine calls_start Tryz.func40 rfl Tryz.ntmps40 (Nat.le_of_ble_eq_true rfl) ?_
 refine rs hM ?_
 refine rw_boxN (v := .func (.func 41) #[] #[.pointer (some ⟨b1, 0, none⟩)]) rfl rfl rfl (fun b4 G4 n4 l4 e4 k4 => ?_)
 refine asg ?_
 refine rw_nil ?_; intro w hM
 refine rs hM ?_
 refine mv ?_
 refine rw_makeFunc rfl rfl rfl ?_
 refine mv ?_
 refine rw_build (bd88_0_1_3 _ _ _ _ _ _ _ _ _) rfl rfl rfl ?_
 refine rw_boxN (v := .agg #[.func (.func 57) #[] #[.pointer (some ⟨b4, 0, none⟩)], .func (.func 58) #[] #[], .bool false, .func (.func 56) #[] #[.pointer (some ⟨b25, 0, none⟩), .pointer (some ⟨cb, 0, none⟩)]]) rfl rfl rfl (fun bt G11 n11 l11 e11 k11 => ?_); obtain ⟨Ty, R, hp, hEc⟩ := tyI_of (w0 := w0) ht hO (l11 _ _ (l4 _ _ h1)) (l11 _ _ e4) e11 (l11 _ _ (l4 _ _ h25)) (l11 _ _ (l4 _ _ hcb)) (fun e => by rw [e, n4] at hcb; cases hcb) (fun e => by rw [← e, l4 _ _ hcb] at n11; cases n11)
 refine rw_callE cr52 rfl rfl (fun w hM => c52 hM hDb (four_le _ _ _ _ _) Ty R (l11 _ _ (l4 _ _ hcb)) hEc hh) rfl (by nofun) ?_; rintro _ S5 ⟨bT, bm, S0, rfl, hN, g1, g2, g3⟩
 refine asg ?_
 refine rw_nil ?_; intro w hM
 refine wp_ret ?_
 obtain ⟨r1, r2, r3, r4⟩ := made_of (H := H) Ty R (by unfold ktOf; rw [hf]; rfl) hf.symm hp (fun x u hx => l11 _ _ (l4 _ _ hx)) hEc hN g1 g2 g3
 exact post_tmp (v := .pointer (some ⟨bT, 0, none⟩)) rfl rfl rfl ⟨_, _, rfl, hM, bT, bm, rfl, r1, r2, r3, r4⟩
theorem c36 (hM : Mem w0 w H) (hDb : HasDb w0) {t : TabV} (ht : t.OK) (hO : OffOK w0 t) (hf : t.floats = true) {b1 b25 cb hint : Nat} (h1 : H b1 = some (encTab t)) (h25 : H b25 = some (encSl t)) (hcb : H cb = some (encI 0)) (hh : hint ≤ 5000) :
  Calls Tryz.prog 36 [u64 hint, .func (.func 37) #[] #[.pointer (some ⟨b1, 0, none⟩)], .func (.func 56) #[] #[.pointer (some ⟨b25, 0, none⟩), .pointer (some ⟨cb, 0, none⟩)]].toArray w (Gives w0 fun v S => ∃ bT bm, v = .pointer (some ⟨bT, 0, none⟩) ∧ H bT = none ∧ H bm = none ∧ Made t w0 S bT cb bm ∧ ∀ x u, H x = some u → x ≠ cb → S x = some u) := by
 refine calls_start Tryz.func36 rfl Tryz.ntmps36 (Nat.le_of_ble_eq_true rfl) ?_
 refine rs hM ?_
 refine rw_boxN (v := .func (.func 37) #[] #[.pointer (some ⟨b1, 0, none⟩)]) rfl rfl rfl (fun b4 G4 n4 l4 e4 k4 => ?_)
 refine asg ?_
 refine rw_nil ?_; intro w hM
 refine rs hM ?_
 refine mv ?_
 refine rw_makeFunc rfl rfl rfl ?_
 refine mv ?_
 refine rw_build (bd88_0_1_2_3 _ _ _ _ _ _ _ _ _ _) rfl rfl rfl ?_
 refine rw_boxN (v := .agg #[.func (.func 53) #[] #[.pointer (some ⟨b4, 0, none⟩)], .func (.func 54) #[] #[], .bool true, .func (.func 56) #[] #[.pointer (some ⟨b25, 0, none⟩), .pointer (some ⟨cb, 0, none⟩)]]) rfl rfl rfl (fun bt G11 n11 l11 e11 k11 => ?_); obtain ⟨Ty, R, hp, hEc⟩ := tyF_of (w0 := w0) ht hO (l11 _ _ (l4 _ _ h1)) (l11 _ _ e4) e11 (l11 _ _ (l4 _ _ h25)) (l11 _ _ (l4 _ _ hcb)) (fun e => by rw [e, n4] at hcb; cases hcb) (fun e => by rw [← e, l4 _ _ hcb] at n11; cases n11)
 refine rw_callE cr52 rfl rfl (fun w hM => c52 hM hDb (four_le _ _ _ _ _) Ty R (l11 _ _ (l4 _ _ hcb)) hEc hh) rfl (by nofun) ?_; rintro _ S5 ⟨bT, bm, S0, rfl, hN, g1, g2, g3⟩
 refine asg ?_
 refine rw_nil ?_; intro w hM
 refine wp_ret ?_
 obtain ⟨r1, r2, r3, r4⟩ := made_of (H := H) Ty R (by unfold ktOf; rw [hf]; rfl) hf.symm hp (fun x u hx => l11 _ _ (l4 _ _ hx)) hEc hN g1 g2 g3
 exact post_tmp (v := .pointer (some ⟨bT, 0, none⟩)) rfl rfl rfl ⟨_, _, rfl, hM, bT, bm, rfl, r1, r2, r3, r4⟩
end
section
variable {w0 w : World} {H : Heap}
theorem c31 (hM : Mem w0 w H) (hDb : HasDb w0) {t : TabV} (ht : t.OK) (hO : OffOK w0 t) (hh : t.hint ≤ 5000) :
  Calls Tryz.prog 31 [.agg t.cells.toArray].toArray w (Gives w0 fun v S => ∃ bT bm cb, v = .pointer (some ⟨bT, 0, none⟩) ∧ H bT = none ∧ H bm = none ∧ H cb = none ∧ Made t w0 S bT cb bm ∧ H.le S) := by
 obtain ⟨hn, hhn⟩ : ∃ hn : Nat, hn = t.hint.toNat := ⟨_, rfl⟩
 have he : (if (0 : Int) > t.hint then 0 else t.hint) = (hn : Nat) := by split <;> omega
 have hle : hn ≤ 5000 := by omega
 refine calls_start Tryz.func31 rfl Tryz.ntmps31 (Nat.le_of_ble_eq_true rfl) ?_
 refine rs hM ?_
 refine rw_boxN (v := .agg t.cells.toArray) rfl rfl rfl (fun b1 G1 n1 l1 e1 k1 => ?_)
 refine asg ?_
 refine rw_nil ?_; intro w hM
 have e1' : G1 b1 = some (encTab t) := e1
 refine rs hM ?_
 refine fa fr27_1 ?_
 refine lo (v := i64 t.hint) ld3 e1' ?_
 refine rw_max rfl rfl rfl rfl ?_
 refine rw_conv (a := i64 (hn : Nat)) rfl rfl (congrArg (Value.int .i64) he) (c_u64 Tryz.underlying3 Tryz.underlying22 hn (by omega)) ?_
 refine asg ?_
 refine rw_nil ?_; intro w hM
 refine wp_seq ?_
 refine rs hM ?_
 refine fa fr27_0 ?_
 refine lo (v := .bool t.floats) ld4 e1' ?_
 refine rw_nil ?_; intro w hM
 refine wp_if (tmp_lt rfl) rfl (fun hc => ?_) (fun hc => ?_)
 ·refine rs hM ?_
  refine mv ?_
  refine rw_makeFunc rfl rfl rfl ?_
  refine fa fr27_3 ?_
  refine lo (v := .slice t.oa t.on t.oc) ld25 e1' ?_
  refine rw_callE cr39 rfl rfl (fun w hM => c39 (t := t) hM) rfl (by nofun) ?_; rintro _ S4 ⟨b25, cb, rfl, hne, n25, ncb, h25, hcb, hle4⟩
  refine rw_callE cr36 rfl rfl (fun w hM => c36 hM hDb ht hO hc (hle4 _ _ e1') h25 hcb hle) rfl (by nofun) ?_; rintro _ S5 ⟨bT, bm, rfl, r1, r2, r3, r4⟩
  refine asg ?_
  refine rw_nil ?_; intro w hM
  refine wp_ret ?_
  simp only [Exit.then]
  exact post_tmp (v := .pointer (some ⟨bT, 0, none⟩)) rfl rfl rfl ⟨_, _, rfl, hM, bT, bm, cb, rfl, le_none (Heap.le_trans l1 hle4) r1, le_none (Heap.le_trans l1 hle4) r2, le_none l1 ncb, r3, fun x u hx => r4 x u (hle4 _ _ (l1 _ _ hx)) (ne_of_none (le_none l1 ncb) hx)⟩
 ·refine wp_skip ?_
  simp only [Exit.then]
  refine rs hM ?_
  refine mv ?_
  refine rw_makeFunc rfl rfl rfl ?_
  refine fa fr27_3 ?_
  refine lo (v := .slice t.oa t.on t.oc) ld25 e1' ?_
  refine rw_callE cr39 rfl rfl (fun w hM => c39 (t := t) hM) rfl (by nofun) ?_; rintro _ S4 ⟨b25, cb, rfl, hne, n25, ncb, h25, hcb, hle4⟩
  refine rw_callE cr40 rfl rfl (fun w hM => c40 hM hDb ht hO hc (hle4 _ _ e1') h25 hcb hle) rfl (by nofun) ?_; rintro _ S5 ⟨bT, bm, rfl, r1, r2, r3, r4⟩
  refine asg ?_
  refine rw_nil ?_; intro w hM
  refine wp_ret ?_
  exact post_tmp (v := .pointer (some ⟨bT, 0, none⟩)) rfl rfl rfl ⟨_, _, rfl, hM, bT, bm, cb, rfl, le_none (Heap.le_trans l1 hle4) r1, le_none (Heap.le_trans l1 hle4) r2, le_none l1 ncb, r3, fun x u hx => r4 x u (hle4 _ _ (l1 _ _ hx)) (ne_of_none (le_none l1 ncb) hx)⟩
end
end Go.Proofs.YtddpfkcofmfmpaaGreatDoor
