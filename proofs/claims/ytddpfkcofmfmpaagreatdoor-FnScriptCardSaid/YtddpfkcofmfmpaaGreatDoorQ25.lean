/-
  The reference's small functions: keys that are equal, keys that are no numbers, hashes. Conditions stand in each contract. The reference in memory: its entries and iterations; the entry of a key; how many there are. Conditions stand in each contract. Answers compared. Conditions stand in each lemma.
  Conditions stand in each lemma.
-/
import Derived.Test.YtddpfkcofmfmpaaGreatDoorQ24
import Derived.Laws.StructEq
namespace Go.Proofs.YtddpfkcofmfmpaaGreatDoor
open Go Go.RowKit
set_option maxRecDepth 20000
section
variable {w0 w : World} {H : Heap}
def sameB (fl : Bool) (a b : Nat) : Bool := match fl with | true => feq a b | false => a == b
def nanB (fl : Bool) (a : Nat) : Bool := fl && !sameB fl a a
theorem same_of (t : TabV) (a b : Nat) : (ktOf t).eqk a b = sameB t.floats a b := by
 unfold ktOf sameB; cases t.floats <;> rfl
theorem nan_of (t : TabV) (a : Nat) : (ktOf t).nan a = nanB t.floats a := by
 unfold KT.nan nanB
 rw [same_of]
 cases t.floats with
 | true => rfl
 | false => simp [sameB]
theorem c28 (hM : Mem w0 w H) (fl : Bool) (a b : Nat) : Calls Tryz.prog 28 [.bool fl, u64 a, u64 b].toArray w (Keeps w0 H (.bool (sameB fl a b))) := by
 refine calls_start Tryz.func28 rfl Tryz.ntmps28 (Nat.le_of_ble_eq_true rfl) ?_
 refine rs hM ?_
 refine asg ?_
 refine rw_nil ?_; intro w hM
 refine wp_seq ?_
 refine rs hM ?_
 refine mv ?_
 refine rw_nil ?_; intro w hM
 cases fl with
 | true =>
  refine wp_if (tmp_lt rfl) rfl (fun hc => ?_) (by nofun)
  refine rs hM ?_
  refine mv ?_
  refine rw_ext (v := .float .f64 a) rfl rfl (ext33 a) rfl ?_
  refine mv ?_
  refine rw_ext (v := .float .f64 b) rfl rfl (ext33 b) rfl ?_
  refine rw_bin rfl rfl rfl rfl (b_feq a b Tryz.underlying61) ?_
  refine asg ?_
  refine rw_nil ?_; intro w hM
  refine wp_ret ?_
  exact post_tmp rfl rfl rfl (keep rfl hM)
 | false =>
  refine wp_if (tmp_lt rfl) rfl (by nofun) (fun hc => ?_)
  refine wp_skip ?_
  have e : ((a : Int) == (b : Int)) = (a == b) := by
   by_cases h : a = b
   ·rw [h]; simp
   ·rw [beq_false_of_ne h]; exact beq_false_of_ne (by omega)
  refine rs hM ?_
  refine mv ?_
  refine mv ?_
  refine rw_bin (v := .bool (a == b)) rfl rfl rfl rfl (by have := b_eq (P := Tryz.prog) (t := 22) (k := .u64) (a : Int) (b : Int); rw [e] at this; exact this) ?_
  refine asg ?_
  refine rw_nil ?_; intro w hM
  refine wp_ret ?_
  exact post_tmp rfl rfl rfl (keep rfl hM)
theorem c27 (hM : Mem w0 w H) (fl : Bool) (a : Nat) : Calls Tryz.prog 27 [.bool fl, u64 a].toArray w (Keeps w0 H (.bool (nanB fl a))) := by
 refine calls_start Tryz.func27 rfl Tryz.ntmps27 (Nat.le_of_ble_eq_true rfl) ?_
 refine rs hM ?_
 refine asg ?_
 refine rw_nil ?_; intro w hM
 cases fl with
 | true =>
  refine rs hM ?_
  refine mv ?_
  refine mv ?_
  refine mv ?_
  refine mv ?_
  refine mv ?_
  refine rw_callq (v := .bool (sameB true a a)) cr28 rfl rfl (fun H' w hle hM => c28 hM true a a) rfl ?_
  refine rw_un rfl rfl rfl (u_not _) ?_
  refine rw_pick rfl rfl rfl rfl rfl ?_
  refine asg ?_
  refine rw_nil ?_; intro w hM
  refine wp_ret ?_
  exact post_tmp rfl rfl rfl (keep rfl hM)
 | false =>
  refine rs hM ?_
  refine mv ?_
  refine mv ?_
  refine rw_skip rfl rfl ?_
  refine rw_skip rfl rfl ?_
  refine rw_skip rfl rfl ?_
  refine rw_skip rfl rfl ?_
  refine rw_skip rfl rfl ?_
  refine rw_pick rfl rfl rfl rfl rfl ?_
  refine asg ?_
  refine rw_nil ?_; intro w hM
  refine wp_ret ?_
  exact post_tmp rfl rfl rfl (keep rfl hM)
theorem hashK_of (t : TabV) (k : Nat) (hk : k < 2 ^ 64) : (ktOf t).hash k = t.of (bif t.floats then (bif sameB true k 0 then 0 else bif nanB true k then 1 else k) else k) := by
 unfold ktOf
 cases t.floats with
 | false => exact congrArg t.of (Nat.mod_eq_of_lt hk)
 | true =>
  show t.ofF k = _
  unfold TabV.ofF
  show (if feq k 0 = true then t.of 0 else if (!feq k k) = true then t.of 1 else t.of (k % 2 ^ 64)) = t.of (bif feq k 0 then 0 else bif !feq k k then 1 else k)
  rw [Nat.mod_eq_of_lt hk]
  cases feq k 0 <;> cases feq k k <;> rfl
theorem c35 (hM : Mem w0 w H) {t : TabV} (ht : t.OK) {k : Nat} (hk : k < 2 ^ 64) : Calls Tryz.prog 35 [.agg t.cells.toArray, u64 k].toArray w (Keeps w0 H (u64 ((ktOf t).hash k))) := by
 refine calls_start Tryz.func35 rfl Tryz.ntmps35 (Nat.le_of_ble_eq_true rfl) ?_
 refine rs hM ?_
 refine rw_boxN (v := .agg t.cells.toArray) rfl rfl rfl (fun b2 G2 n2 l2 e2 k2 => ?_)
 refine asg ?_
 refine rw_nil ?_; intro w hM
 have e2' : G2 b2 = some (encTab t) := e2
 obtain ⟨k', hk'⟩ : ∃ k', k' = bif t.floats then (bif sameB true k 0 then 0 else bif nanB true k then 1 else k) else k := ⟨_, rfl⟩
 have hkl : k' < 2 ^ 64 := by
  rw [hk']
  cases t.floats
  ·exact hk
  ·cases sameB true k 0
   ·cases nanB true k
    ·exact hk
    ·exact (by decide : (1 : Nat) < 2 ^ 64)
   ·exact (by decide : (0 : Nat) < 2 ^ 64)
 have hh : (ktOf t).hash k = t.of k' := by rw [hashK_of t k hk, hk']
 rw [hh]
 refine wp_seq_mid (fun f w => Know f [(1, u64 k'), (2, .pointer (some ⟨b2, 0, none⟩))] ∧ Mem w0 w G2) ?_ ?_
 ·refine rs hM ?_
  refine fa fr27_0 ?_
  refine lo (v := .bool t.floats) ld4 e2' ?_
  refine rw_nil ?_; intro w hM
  cases hf : t.floats with
  | false =>
   rw [hf] at hk'
   replace hk' : k = k' := hk'.symm
   subst hk'
   refine wp_if (tmp_lt rfl) rfl (by nofun) (fun hc => ?_)
   refine wp_skip ?_
   exact ⟨_, rfl, Know.of ⟨rfl, rfl, trivial⟩, hM⟩
  | true =>
   rw [hf] at hk'
   refine wp_if (tmp_lt rfl) rfl (fun hc => ?_) (by nofun)
   refine wp_block ?_
   cases h0 : sameB true k 0 with
   | true =>
    rw [h0] at hk'
    replace hk' : k' = 0 := hk'
    subst hk'
    refine rs hM ?_
    refine mv ?_
    refine rw_callq (v := .bool true) cr28 rfl rfl (fun H' w hle hM => by have := c28 hM true k 0; rw [h0] at this; exact this) rfl ?_
    refine asg ?_
    refine rw_nil ?_; intro w hM
    refine wp_if (tmp_lt rfl) rfl (fun hc => ?_) (by nofun)
    refine re hM ?_
    refine asg ?_
    refine rw_nil ?_; intro w hM
    exact ⟨_, rfl, Know.of ⟨rfl, rfl, trivial⟩, hM⟩
   | false =>
    rw [h0] at hk'
    refine rs hM ?_
    refine mv ?_
    refine rw_callq (v := .bool false) cr28 rfl rfl (fun H' w hle hM => by have := c28 hM true k 0; rw [h0] at this; exact this) rfl ?_
    refine asg ?_
    refine rw_nil ?_; intro w hM
    refine wp_if (tmp_lt rfl) rfl (by nofun) (fun hc => ?_)
    cases h1 : nanB true k with
    | true =>
     rw [h1] at hk'
     replace hk' : k' = 1 := hk'
     subst hk'
     refine rs hM ?_
     refine mv ?_
     refine rw_callq (v := .bool true) cr27 rfl rfl (fun H' w hle hM => by have := c27 hM true k; rw [h1] at this; exact this) rfl ?_
     refine asg ?_
     refine rw_nil ?_; intro w hM
     refine wp_if (tmp_lt rfl) rfl (fun hc => ?_) (by nofun)
     refine re hM ?_
     refine asg ?_
     refine rw_nil ?_; intro w hM
     exact ⟨_, rfl, Know.of ⟨rfl, rfl, trivial⟩, hM⟩
    | false =>
     rw [h1] at hk'
     replace hk' : k = k' := hk'.symm
     subst hk'
     refine rs hM ?_
     refine mv ?_
     refine rw_callq (v := .bool false) cr27 rfl rfl (fun H' w hle hM => by have := c27 hM true k; rw [h1] at this; exact this) rfl ?_
     refine asg ?_
     refine rw_nil ?_; intro w hM
     refine wp_if (tmp_lt rfl) rfl (by nofun) (fun hc => ?_)
     refine wp_skip ?_
     exact ⟨_, rfl, Know.of ⟨rfl, rfl, trivial⟩, hM⟩
 clear hM
 rintro f w ⟨⟨f1, rfl⟩, hM⟩
 have hs := ht.seed
 have hm := ht.mask
 have hxor : k' ^^^ t.seed < 2 ^ 64 := Nat.xor_lt_two_pow hkl hs
 have hsh := t.sh_le
 have hdv : (k' ^^^ t.seed) * t.times % 2 ^ 64 / 2 ^ t.sh < 2 ^ 64 := Nat.lt_of_le_of_lt (Nat.div_le_self _ _) (Nat.mod_lt _ (by decide))
 refine rs hM ?_
 refine mv ?_
 refine fa fr27_2 ?_
 refine fa fr24_0 ?_
 refine lo (v := u64 t.seed) ld22 e2' ?_
 refine rw_bin (v := u64 (k' ^^^ t.seed)) rfl rfl rfl rfl (b_xor64 _ _ hkl hs) ?_
 refine fa fr27_2 ?_
 refine fa fr24_1 ?_
 refine lo (v := u64 t.times) ld22 e2' ?_
 refine rw_bin (v := u64 ((k' ^^^ t.seed) * t.times % 2 ^ 64)) rfl rfl rfl rfl (b_mul64 _ _) ?_
 refine asg ?_
 refine rw_nil ?_; intro w hM
 obtain ⟨z, hz⟩ : ∃ z, z = (k' ^^^ t.seed) * t.times % 2 ^ 64 := ⟨_, rfl⟩
 have hzl : z < 2 ^ 64 := by rw [hz]; exact Nat.mod_lt _ (by decide)
 rw [← hz]
 have hof : t.of k' = z / 2 ^ t.sh &&& t.mask := by unfold TabV.of; rw [hz]
 rw [hof]
 rw [← hz] at hdv
 refine wp_seq_mid (fun f w => Know f [(2, .pointer (some ⟨b2, 0, none⟩)), (5, u64 (z / 2 ^ t.sh))] ∧ Mem w0 w G2) ?_ ?_
 ·by_cases h1 : t.shift > 0
  ·by_cases h2 : t.shift < 64
   ·have es : ((t.sh : Nat) : Int) = t.shift := by unfold TabV.sh; rw [if_neg (by omega)]; omega
    refine rs hM ?_
    refine fa fr27_2 ?_
    refine fa fr24_3 ?_
    refine lo (v := i64 t.shift) ld3 e2' ?_
    refine rw_bin rfl rfl rfl rfl (b_true (b_gt _ _) (decide_eq_true h1)) ?_
    refine mv ?_
    refine fa fr27_2 ?_
    refine fa fr24_3 ?_
    refine lo (v := i64 t.shift) ld3 e2' ?_
    refine rw_bin rfl rfl rfl rfl (b_true (b_lt _ _) (decide_eq_true h2)) ?_
    refine rw_pick rfl rfl rfl rfl rfl ?_
    refine rw_nil ?_; intro w hM
    refine wp_if (tmp_lt rfl) rfl (fun hc => ?_) (by nofun)
    refine re hM ?_
    refine mv ?_
    refine fa fr27_2 ?_
    refine fa fr24_3 ?_
    refine rw_load (v := i64 (t.sh : Nat)) ld3 rfl rfl rfl e2' (by rw [es]; rfl) ?_
    refine rw_conv (v := u64 t.sh) rfl rfl rfl (c_u64 Tryz.underlying3 Tryz.underlying37 t.sh (by omega)) ?_
    refine rw_bin (v := u64 (z / 2 ^ t.sh)) rfl rfl rfl rfl (b_shr64 _ t.sh (by omega)) ?_
    refine asg ?_
    refine rw_nil ?_; intro w hM
    exact ⟨_, rfl, Know.of ⟨rfl, rfl, trivial⟩, hM⟩
   ·have es : t.sh = 0 := by unfold TabV.sh; rw [if_pos (by omega)]
    refine rs hM ?_
    refine fa fr27_2 ?_
    refine fa fr24_3 ?_
    refine lo (v := i64 t.shift) ld3 e2' ?_
    refine rw_bin rfl rfl rfl rfl (b_true (b_gt _ _) (decide_eq_true h1)) ?_
    refine mv ?_
    refine fa fr27_2 ?_
    refine fa fr24_3 ?_
    refine lo (v := i64 t.shift) ld3 e2' ?_
    refine rw_bin rfl rfl rfl rfl (b_false (b_lt _ _) (decide_eq_false h2)) ?_
    refine rw_pick rfl rfl rfl rfl rfl ?_
    refine rw_nil ?_; intro w hM
    refine wp_if (tmp_lt rfl) rfl (by nofun) (fun hc => ?_)
    refine wp_skip ?_
    rw [es, Nat.pow_zero, Nat.div_one]
    exact ⟨_, rfl, Know.of ⟨rfl, rfl, trivial⟩, hM⟩
  ·have es : t.sh = 0 := by unfold TabV.sh; split <;> omega
   refine rs hM ?_
   refine fa fr27_2 ?_
   refine fa fr24_3 ?_
   refine lo (v := i64 t.shift) ld3 e2' ?_
   refine rw_bin rfl rfl rfl rfl (b_false (b_gt _ _) (decide_eq_false h1)) ?_
   refine mv ?_
   refine rw_skip rfl rfl ?_
   refine rw_skip rfl rfl ?_
   refine rw_skip rfl rfl ?_
   refine rw_skip rfl rfl ?_
   refine rw_pick rfl rfl rfl rfl rfl ?_
   refine rw_nil ?_; intro w hM
   refine wp_if (tmp_lt rfl) rfl (by nofun) (fun hc => ?_)
   refine wp_skip ?_
   rw [es, Nat.pow_zero, Nat.div_one]
   exact ⟨_, rfl, Know.of ⟨rfl, rfl, trivial⟩, hM⟩
 clear hM
 rintro f w ⟨⟨f2, rfl⟩, hM⟩
 refine rs hM ?_
 refine mv ?_
 refine fa fr27_2 ?_
 refine fa fr24_2 ?_
 refine lo (v := u64 t.mask) ld22 e2' ?_
 refine rw_bin (v := u64 (z / 2 ^ t.sh &&& t.mask)) rfl rfl rfl rfl (b_and64 _ _ hdv hm) ?_
 refine asg ?_
 refine rw_nil ?_; intro w hM
 refine wp_ret ?_
 exact post_tmp rfl rfl rfl (keep rfl (hM.mono l2))
end
section
variable {w0 w : World} {H : Heap}
def entE (a : Ent) : List Value := [u64 a.key, i64 a.elem, .bool a.gone]
def encEs (l : List Ent) : List Value := l.flatMap entE
def encNs (l : List Nat) : List Value := l.flatMap fun i => [i64 (i : Nat)]
theorem entE_len (a : Ent) : (entE a).length = 3 := rfl
/-- An iteration's cells. -/
structure ItM where
 on : Bool
 was : Value
 sn : Option Nat
def mdC (fl : Bool) (al : Value) (ix : Nat → ItM) : Array Value := #[.bool fl, al, .bool (ix 0).on, (ix 0).was, .map (ix 0).sn, .bool (ix 1).on, (ix 1).was, .map (ix 1).sn, .bool (ix 2).on, (ix 2).was, .map (ix 2).sn, .bool (ix 3).on, (ix 3).was, .map (ix 3).sn, .bool (ix 4).on, (ix 4).was, .map (ix 4).sn, .bool (ix 5).on, (ix 5).was, .map (ix 5).sn, .bool (ix 6).on, (ix 6).was, .map (ix 6).sn, .bool (ix 7).on, (ix 7).was, .map (ix 7).sn]
def encMd (fl : Bool) (al : Value) (ix : Nat → ItM) : Obj := .cells (mdC fl al ix) 118 (0, 0)
def setIx (ix : Nat → ItM) (q : Nat) (t : ItM) : Nat → ItM := fun p => if p = q then t else ix p
theorem mdC_on {fl : Bool} {al : Value} {ix : Nat → ItM} {q : Nat} (hq : q < 8) : objCell (encMd fl al ix) (2 + q * 3) = some (.bool (ix q).on) := by
 match q, hq with
 | 0, _ | 1, _ | 2, _ | 3, _ | 4, _ | 5, _ | 6, _ | 7, _ => rfl
theorem mdC_was {fl : Bool} {al : Value} {ix : Nat → ItM} {q : Nat} (hq : q < 8) : objCell (encMd fl al ix) (2 + q * 3 + 1) = some (ix q).was := by
 match q, hq with
 | 0, _ | 1, _ | 2, _ | 3, _ | 4, _ | 5, _ | 6, _ | 7, _ => rfl
theorem mdC_sn {fl : Bool} {al : Value} {ix : Nat → ItM} {q : Nat} (hq : q < 8) : objCell (encMd fl al ix) (2 + q * 3 + 2) = some (.map (ix q).sn) := by
 match q, hq with
 | 0, _ | 1, _ | 2, _ | 3, _ | 4, _ | 5, _ | 6, _ | 7, _ => rfl
theorem mdC_off {fl : Bool} {al : Value} {ix : Nat → ItM} {q : Nat} (hq : q < 8) : (mdC fl al ix).setIfInBounds (2 + q * 3) (.bool false) = mdC fl al (setIx ix q { ix q with on := false }) := by
 match q, hq with
 | 0, _ | 1, _ | 2, _ | 3, _ | 4, _ | 5, _ | 6, _ | 7, _ => rfl
theorem mdC_set {fl : Bool} {al : Value} {ix : Nat → ItM} {q : Nat} (hq : q < 8) (t : ItM) : setMany (mdC fl al ix) (2 + q * 3) [.bool t.on, t.was, .map t.sn] = mdC fl al (setIx ix q t) := by
 match q, hq with
 | 0, _ | 1, _ | 2, _ | 3, _ | 4, _ | 5, _ | 6, _ | 7, _ => rfl
/-- What a map of what was seen holds. -/
def seenF (seen : Nat → Bool) : Int → Option Value := fun a => if 0 ≤ a ∧ seen a.toNat = true then some (.bool true) else none
structure ItMem (H0 S : Heap) (n : Nat) (x : ItM) (t : Itr) : Prop where
 eq : x.on = t.on
 live : t.on = true → ∃ bs o, x.sn = some bs ∧ H0 bs = none ∧ S bs = some o ∧ MapOf .i64 o (seenF t.seen) ∧ Sl S 3 1 x.was t.was.length (encNs t.was) ∧ (∀ y, x.was.ownBlock = some y → H0 y = none) ∧ t.was.length ≤ n ∧ ∀ i, i ∈ t.was → i < n
/-- The reference in memory; H0 is what was there before. -/
structure MdMem (H0 S : Heap) (bM : Nat) (fl : Bool) (al : Value) (ix : Nat → ItM) (M : Mdl) : Prop where
 blk : S bM = some (encMd fl al ix)
 old : H0 bM = none
 all : Sl S 121 3 al M.all.length (encEs M.all)
 aold : ∀ y, al.ownBlock = some y → H0 y = none
 its : ∀ q, q < 8 → ItMem H0 S M.all.length (ix q) (M.its q)
 dist : ∀ q p bs, q < 8 → p < 8 → (M.its q).on = true → (M.its p).on = true → (ix q).sn = some bs → (ix p).sn = some bs → q = p
theorem ItMem.mono {H0 S S' : Heap} {n : Nat} {x : ItM} {t : Itr} (h : ItMem H0 S n x t) (hle : S.le S') : ItMem H0 S' n x t :=
 ⟨h.eq, fun ho => by obtain ⟨bs, o, a1, a2, a3, a4, a5, a6, a7⟩ := h.live ho; exact ⟨bs, o, a1, a2, hle _ _ a3, a4, a5.mono hle, a6, a7⟩⟩
theorem MdMem.mono {H0 S S' : Heap} {bM : Nat} {fl : Bool} {al : Value} {ix : Nat → ItM} {M : Mdl} (h : MdMem H0 S bM fl al ix M) (hle : S.le S') : MdMem H0 S' bM fl al ix M :=
 ⟨hle _ _ h.blk, h.old, h.all.mono hle, h.aold, fun q hq => (h.its q hq).mono hle, h.dist⟩
/-! ### The entry of a key -/
def hitE (K : KT) (k : Nat) (a : Ent) : Bool := !a.gone && K.eqk a.key k
theorem findE_at {K : KT} {all : List Ent} {k i : Nat} {a : Ent} (h : all[i]? = some a) (h1 : hitE K k a = true) (h2 : ∀ j b, j < i → all[j]? = some b → hitE K k b = false) : findE K all k = some i := by
 obtain ⟨hl, he⟩ := List.getElem?_eq_some_iff.1 h
 unfold findE
 rw [List.findIdx?_eq_some_iff_getElem]
 exact ⟨hl, by rw [he]; exact h1, fun j hj => by have := h2 j _ hj (List.getElem?_eq_getElem (by omega)); unfold hitE at this; rw [this]; exact Bool.false_ne_true⟩
theorem findE_no {K : KT} {all : List Ent} {k : Nat} (h2 : ∀ j b, j < all.length → all[j]? = some b → hitE K k b = false) : findE K all k = none := by
 unfold findE
 rw [List.findIdx?_eq_none_iff]
 intro a ha
 obtain ⟨j, hj⟩ := List.mem_iff_getElem?.1 ha
 have := h2 j a (List.getElem?_eq_some_iff.1 hj).1 hj
 unfold hitE at this; rw [this]
def findI (K : KT) (all : List Ent) (k : Nat) : Int := match findE K all k with | some i => (i : Nat) | none => -1
variable {H0 : Heap} {bM : Nat} {fl : Bool} {al : Value} {ix : Nat → ItM} {M : Mdl} {K : KT}
theorem c69 (hM : Mem w0 w H) (hP : MdMem H0 H bM fl al ix M) (hK : ∀ a b, K.eqk a b = sameB fl a b) (hn : M.all.length ≤ 6000) {k : Nat} :
  Calls Tryz.prog 69 [.pointer (some ⟨bM, 0, none⟩), u64 k].toArray w (Keeps w0 H (i64 (findI K M.all k))) := by
 have hb := hP.blk
 obtain ⟨ao, cap, hal⟩ := hP.all.shape
 have hrd := hP.all.rd (w0 := w0)
 refine calls_start Tryz.func69 rfl Tryz.ntmps69 (Nat.le_of_ble_eq_true rfl) ?_
 refine rs hM ?_
 refine asg ?_
 refine rw_nil ?_; intro w hM
 refine wp_seq ?_
 refine rs hM ?_
 refine mv ?_
 refine nck ?_
 refine fa fr118_1 ?_
 refine rw_load (v := .slice ao M.all.length cap) ld112 rfl rfl rfl hb (by rw [← hal]; rfl) ?_
 refine rw_len Tryz.underlying112 rfl rfl rfl ?_
 refine mv ?_
 refine rw_nil ?_; intro w hM
 refine wp_block ?_
 refine wp_loop_s (fun c f w => ∃ i S, c = M.all.length - i ∧ i ≤ M.all.length ∧ Know f [(0, .pointer (some ⟨bM, 0, none⟩)), (1, u64 k), (10, .slice ao M.all.length cap), (11, i64 (M.all.length : Nat)), (12, i64 (i : Nat))] ∧ Mem w0 w S ∧ H.le S ∧ ∀ j b, j < i → M.all[j]? = some b → hitE K k b = false) (M.all.length - 0) ?_ ?_
 ·exact ⟨0, H, rfl, Nat.zero_le _, Know.of ⟨rfl, rfl, rfl, rfl, rfl, trivial⟩, hM, Heap.le_refl _, fun j b hj => by omega⟩
 clear hM
 rintro c f w ⟨i, S, rfl, hi, ⟨f1, rfl⟩, hM, hle, hno⟩
 refine rs hM ?_
 refine rw_bin rfl rfl rfl rfl (b_lt _ _) ?_
 refine rw_nil ?_; intro w hM
 refine wp_seq ?_
 refine wp_if (tmp_lt rfl) rfl (fun hz => ?_) (fun hz => ?_)
 ·have hil : i < M.all.length := by have := of_decide_eq_true hz; omega
  obtain ⟨a, ha⟩ : ∃ a, M.all[i]? = some a := ⟨_, List.getElem?_eq_getElem hil⟩
  obtain ⟨b, o, cap', hsl, hr⟩ := hrd.some (by omega)
  rw [hal] at hsl
  cases hsl
  refine wp_skip ?_
  refine wp_seq ?_
  refine wp_block ?_
  refine rs hM ?_
  refine mv ?_
  refine rw_indexAddr rfl rfl rfl rfl (x_slice Tryz.underlying112 sz121 hil) ?_
  refine rw_loadAG (entE a) ld121 rfl rfl rfl (rd_step entE_len hr ha hle) ?_
  refine rw_allocN Tryz.zeroValue121 rfl rfl (fun b6 G6 n6 l6 e6 k6 => ?_)
  refine asg ?_
  refine rw_store (v := .agg #[.int .u64 _, .int .i64 _, .bool _]) sz121 rfl rfl rfl rfl e6 rfl rfl rfl (by nofun) (fun S3 hS3 kS3 => ?_)
  refine rw_nil ?_; intro w hM
  have hS6 : S3 b6 = some (.cells (entE a).toArray 121 (0, 0)) := hS3.trans rfl
  have hl3 : S.le S3 := le_keep l6 n6 kS3
  have hb3 := hl3 _ _ (hle _ _ hb)
  have fin : hitE K k a = false → ∀ j b, j < i + 1 → M.all[j]? = some b → hitE K k b = false := fun hh j b hj hb => by
   by_cases e : j = i
   ·subst e; rw [ha] at hb; cases hb; exact hh
   ·exact hno j b (by omega) hb
  cases hg : a.gone with
  | true =>
   refine wp_mix_seq [] [] [0, 1, 2, 3, 4, 5, 6, 7, 8, 9, 10, 11, 12] S3 mixed (by kernel_rfl) (Heap.le_refl _) hM ?_
   refine fa fr121_2 ?_
   refine rw_load (v := .bool true) ld4 rfl rfl rfl hS6 (by rw [← hg]; rfl) ?_
   refine rw_un rfl rfl rfl (u_not _) ?_
   refine mv ?_
   refine rw_skip rfl rfl ?_
   refine rw_skip rfl rfl ?_
   refine rw_skip rfl rfl ?_
   refine rw_skip rfl rfl ?_
   refine rw_skip rfl rfl ?_
   refine rw_skip rfl rfl ?_
   refine rw_skip rfl rfl ?_
   refine rw_skip rfl rfl ?_
   refine rw_pick rfl rfl rfl rfl rfl ?_
   refine rw_nil ?_; intro w hM
   refine wp_if (tmp_lt rfl) rfl (by nofun) (fun hc => ?_)
   refine wp_skip ?_
   simp only [Exit.then, Exit.inBlock]
   refine re hM ?_
   refine rw_bin (v := i64 ((i + 1 : Nat) : Int)) rfl rfl rfl rfl (bin_eq (b_addi (b := 1) (by omega) (by omega)) (congrArg i64 (by omega))) ?_
   refine mv ?_
   refine rw_nil ?_; intro w hM
   exact ⟨M.all.length - (i + 1), _, rfl, by omega, i + 1, S3, rfl, by omega, Know.of ⟨rfl, rfl, rfl, rfl, rfl, trivial⟩, hM, Heap.le_trans hle hl3, fin (by unfold hitE; rw [hg]; rfl)⟩
  | false =>
   refine wp_mix_seq [] [] [0, 1, 2, 3, 4, 5, 6, 7, 8, 9, 10, 11, 12] S3 mixed (by kernel_rfl) (Heap.le_refl _) hM ?_
   refine fa fr121_2 ?_
   refine rw_load (v := .bool false) ld4 rfl rfl rfl hS6 (by rw [← hg]; rfl) ?_
   refine rw_un rfl rfl rfl (u_not _) ?_
   refine mv ?_
   refine mv ?_
   refine nck ?_
   refine fa fr118_0 ?_
   refine lo (v := .bool fl) ld4 hb3 ?_
   refine fa fr121_0 ?_
   refine lo (v := u64 a.key) ld22 hS6 ?_
   refine mv ?_
   refine rw_callq (v := .bool (K.eqk a.key k)) cr28 rfl rfl (fun H' w hle hM => by rw [hK]; exact c28 hM fl a.key k) rfl ?_
   refine rw_pick rfl rfl rfl rfl rfl ?_
   refine rw_nil ?_; intro w hM
   refine wp_if (tmp_lt rfl) rfl (fun hc => ?_) (fun hc => ?_)
   ·have hh : hitE K k a = true := by unfold hitE; rw [hg]; exact hc
    refine rs hM ?_
    refine mv ?_
    refine asg ?_
    refine rw_nil ?_; intro w hM
    refine wp_ret ?_
    simp only [Exit.then, Exit.inBlock]
    refine post_tmp (v := i64 (findI K M.all k)) rfl rfl ?_ (keep rfl (hM.mono (Heap.le_trans hle hl3)))
    unfold findI
    rw [findE_at ha hh hno]
    rfl
   ·have hh : hitE K k a = false := by unfold hitE; rw [hg]; exact hc
    refine wp_skip ?_
    simp only [Exit.then, Exit.inBlock]
    refine re hM ?_
    refine rw_bin (v := i64 ((i + 1 : Nat) : Int)) rfl rfl rfl rfl (bin_eq (b_addi (b := 1) (by omega) (by omega)) (congrArg i64 (by omega))) ?_
    refine mv ?_
    refine rw_nil ?_; intro w hM
    exact ⟨M.all.length - (i + 1), _, rfl, by omega, i + 1, S3, rfl, by omega, Know.of ⟨rfl, rfl, rfl, rfl, rfl, trivial⟩, hM, Heap.le_trans hle hl3, fin hh⟩
 ·refine wp_exit ?_
  simp only [Exit.then, Exit.inBlock, if_true]
  have hi' : i = M.all.length := by have := of_decide_eq_false hz; omega
  subst hi'
  refine rs hM ?_
  refine asg ?_
  refine rw_nil ?_; intro w hM
  refine wp_ret ?_
  refine post_tmp (v := i64 (findI K M.all k)) rfl rfl ?_ (keep rfl (hM.mono hle))
  unfold findI
  rw [findE_no hno]
  rfl
theorem c70 (hM : Mem w0 w H) (hP : MdMem H0 H bM fl al ix M) (hn : M.all.length ≤ 6000) :
  Calls Tryz.prog 70 [.pointer (some ⟨bM, 0, none⟩)].toArray w (Keeps w0 H (i64 (lenE M.all : Nat))) := by
 have hb := hP.blk
 obtain ⟨ao, cap, hal⟩ := hP.all.shape
 have hrd := hP.all.rd (w0 := w0)
 have hcle : ∀ i, cnt (liv M.all) i ≤ i := fun i => cnt_le _ i
 refine calls_start Tryz.func70 rfl Tryz.ntmps70 (Nat.le_of_ble_eq_true rfl) ?_
 refine rs hM ?_
 refine asg ?_
 refine rw_nil ?_; intro w hM
 refine rs hM ?_
 refine asg ?_
 refine rw_nil ?_; intro w hM
 refine wp_seq ?_
 refine rs hM ?_
 refine mv ?_
 refine nck ?_
 refine fa fr118_1 ?_
 refine rw_load (v := .slice ao M.all.length cap) ld112 rfl rfl rfl hb (by rw [← hal]; rfl) ?_
 refine rw_len Tryz.underlying112 rfl rfl rfl ?_
 refine mv ?_
 refine rw_nil ?_; intro w hM
 refine wp_block ?_
 refine wp_loop_s (fun c f w => ∃ i S, c = M.all.length - i ∧ i ≤ M.all.length ∧ Know f [(3, i64 (cnt (liv M.all) i : Nat)), (9, .slice ao M.all.length cap), (10, i64 (M.all.length : Nat)), (11, i64 (i : Nat))] ∧ Mem w0 w S ∧ H.le S) (M.all.length - 0) ?_ ?_
 ·exact ⟨0, H, rfl, Nat.zero_le _, Know.of ⟨rfl, rfl, rfl, rfl, trivial⟩, hM, Heap.le_refl _⟩
 clear hM
 rintro c f w ⟨i, S, rfl, hi, ⟨f1, rfl⟩, hM, hle⟩
 refine rs hM ?_
 refine rw_bin rfl rfl rfl rfl (b_lt _ _) ?_
 refine rw_nil ?_; intro w hM
 refine wp_seq ?_
 refine wp_if (tmp_lt rfl) rfl (fun hz => ?_) (fun hz => ?_)
 ·have hil : i < M.all.length := by have := of_decide_eq_true hz; omega
  obtain ⟨a, ha⟩ : ∃ a, M.all[i]? = some a := ⟨_, List.getElem?_eq_getElem hil⟩
  obtain ⟨b, o, cap', hsl, hr⟩ := hrd.some (by omega)
  rw [hal] at hsl
  cases hsl
  have hc1 : cnt (liv M.all) (i + 1) = cnt (liv M.all) i + (!a.gone).toNat := by
   simp only [cnt]
   have : liv M.all i = !a.gone := by unfold liv; rw [ha]
   rw [this]
  have hci := hcle i
  refine wp_skip ?_
  refine wp_seq ?_
  refine wp_block ?_
  refine rs hM ?_
  refine rw_indexAddr rfl rfl rfl rfl (x_slice Tryz.underlying112 sz121 hil) ?_
  refine rw_loadAG (entE a) ld121 rfl rfl rfl (rd_step entE_len hr ha hle) ?_
  refine rw_allocN Tryz.zeroValue121 rfl rfl (fun b5 G5 n5 l5 e5 k5 => ?_)
  refine rw_store (v := .agg #[.int .u64 _, .int .i64 _, .bool _]) sz121 rfl rfl rfl rfl e5 rfl rfl rfl (by nofun) (fun S4 hS4 kS4 => ?_)
  refine rw_nil ?_; intro w hM
  have hS5 : S4 b5 = some (.cells (entE a).toArray 121 (0, 0)) := hS4.trans rfl
  have hl4 : S.le S4 := le_keep l5 n5 kS4
  cases hg : a.gone with
  | true =>
   refine rs hM ?_
   refine fa fr121_2 ?_
   refine rw_load (v := .bool true) ld4 rfl rfl rfl hS5 (by rw [← hg]; rfl) ?_
   refine rw_un rfl rfl rfl (u_not _) ?_
   refine rw_nil ?_; intro w hM
   refine wp_if (tmp_lt rfl) rfl (by nofun) (fun hc => ?_)
   refine wp_skip ?_
   simp only [Exit.then, Exit.inBlock]
   refine re hM ?_
   refine rw_bin (v := i64 ((i + 1 : Nat) : Int)) rfl rfl rfl rfl (bin_eq (b_addi (b := 1) (by omega) (by omega)) (congrArg i64 (by omega))) ?_
   refine mv ?_
   refine rw_nil ?_; intro w hM
   have e1 : cnt (liv M.all) (i + 1) = cnt (liv M.all) i := by rw [hc1, hg]; rfl
   exact ⟨M.all.length - (i + 1), _, rfl, by omega, i + 1, S4, rfl, by omega, Know.of ⟨by rw [e1]; rfl, rfl, rfl, rfl, trivial⟩, hM, Heap.le_trans hle hl4⟩
  | false =>
   refine rs hM ?_
   refine fa fr121_2 ?_
   refine rw_load (v := .bool false) ld4 rfl rfl rfl hS5 (by rw [← hg]; rfl) ?_
   refine rw_un rfl rfl rfl (u_not _) ?_
   refine rw_nil ?_; intro w hM
   refine wp_if (tmp_lt rfl) rfl (fun hc => ?_) (by nofun)
   refine re hM ?_
   refine mv ?_
   refine rw_bin (v := i64 ((cnt (liv M.all) i + 1 : Nat) : Int)) rfl rfl rfl rfl (bin_eq (b_addi (b := 1) (by omega) (by omega)) (congrArg i64 (by omega))) ?_
   refine asg ?_
   refine rw_nil ?_; intro w hM
   simp only [Exit.then, Exit.inBlock]
   refine re hM ?_
   refine rw_bin (v := i64 ((i + 1 : Nat) : Int)) rfl rfl rfl rfl (bin_eq (b_addi (b := 1) (by omega) (by omega)) (congrArg i64 (by omega))) ?_
   refine mv ?_
   refine rw_nil ?_; intro w hM
   have e1 : cnt (liv M.all) (i + 1) = cnt (liv M.all) i + 1 := by rw [hc1, hg]; rfl
   exact ⟨M.all.length - (i + 1), _, rfl, by omega, i + 1, S4, rfl, by omega, Know.of ⟨by rw [e1]; rfl, rfl, rfl, rfl, trivial⟩, hM, Heap.le_trans hle hl4⟩
 ·refine wp_exit ?_
  simp only [Exit.then, Exit.inBlock, if_true]
  have hi' : i = M.all.length := by have := of_decide_eq_false hz; omega
  subst hi'
  refine rs hM ?_
  refine mv ?_
  refine asg ?_
  refine rw_nil ?_; intro w hM
  refine wp_ret ?_
  exact post_tmp (v := i64 (lenE M.all : Nat)) rfl rfl rfl (keep rfl (hM.mono hle))
end
theorem fs44 : ∃ f0 f1 f2 : Field, (Tryz.prog.fieldsOf 44).toList = [f0, f1, f2] ∧ (f0.name ≠ "_" ∧ f0.type = 4 ∧ f0.offset = 0) ∧ (f1.name ≠ "_" ∧ f1.type = 22 ∧ f1.offset = 1) ∧ (f2.name ≠ "_" ∧ f2.type = 2 ∧ f2.offset = 2) :=
 ⟨_, _, _, rfl, ⟨by decide, rfl, rfl⟩, ⟨by decide, rfl, rfl⟩, ⟨by decide, rfl, rfl⟩⟩
theorem part_one {P : Program} {t : TypeId} (ht : OneRun P t) {cs : Array Value} {off : Nat} {v : Value} (h : cs[off]? = some v) (w : World) : (part t cs off).run P w = .ok v w := by
 unfold part
 simp only [bind, Sem.run_bind', ht w, Result.andThen_ok, Bool.false_eq_true, if_false, h]
 rfl
def ansEq (a b : Ans) : Bool := a.ok == b.ok && ((a.key : Int) == (b.key : Int)) && (a.elem == b.elem)
theorem ansEq_same (a : Ans) : ansEq a a = true := by simp [ansEq]
theorem run_eqIn44 (a b : Ans) (w : World) : (Op.equalIn 10000 44 (.agg (ansC a).toArray) (.agg (ansC b).toArray)).run Tryz.prog w = .ok (ansEq a b) w := by
 obtain ⟨f0, f1, f2, hf, ⟨n0, t0, o0⟩, ⟨n1, t1, o1⟩, ⟨n2, t2, o2⟩⟩ := fs44
 rw [run_equalIn_agg w 9999 44 _ _ (by kernel_rfl) (by kernel_rfl), hf]
 simp only [Op.eqFields, n0, n1, n2, t0, t1, t2, o0, o1, o2, ne_eq, not_false_eq_true, if_true, bind, Sem.run_bind', ansEq]
 rw [part_one ld4 (v := .bool a.ok) rfl w, Result.andThen_ok, part_one ld4 (v := .bool b.ok) rfl w, Result.andThen_ok, run_equalIn_bool' w 9998 4 a.ok b.ok Tryz.underlying4, Result.andThen_ok]
 cases h0 : (a.ok == b.ok) with
 | false => rfl
 | true =>
  simp only [Bool.not_true, Bool.false_eq_true, if_false, Sem.run_bind']
  rw [part_one ld22 (v := .int .u64 a.key) rfl w, Result.andThen_ok, part_one ld22 (v := .int .u64 b.key) rfl w, Result.andThen_ok, run_equalIn_int w 9998 22 .u64 .u64 a.key b.key Tryz.underlying22, Result.andThen_ok]
  cases h1 : ((a.key : Int) == (b.key : Int)) with
  | false => rfl
  | true =>
   simp only [Bool.not_true, Bool.false_eq_true, if_false, Sem.run_bind']
   rw [part_one ld2 (v := .int .i64 a.elem) rfl w, Result.andThen_ok, part_one ld2 (v := .int .i64 b.elem) rfl w, Result.andThen_ok, run_equalIn_int w 9998 2 .i64 .i64 a.elem b.elem Tryz.underlying2, Result.andThen_ok]
   cases h2 : (a.elem == b.elem) <;> rfl
theorem eq44 (a b : Ans) : BinRun Tryz.prog .eql 44 (.agg (ansC a).toArray) (.agg (ansC b).toArray) (.bool (ansEq a b)) := fun w X Y => by
 show Sem.run Tryz.prog (Sem.bind _ _) w = _
 rw [Sem.run_bind', run_eqGuard_agg w .eql 44 X Y _ _ (by kernel_rfl), Result.andThen_ok, run_eql_struct, run_eqIn44]
 rfl
theorem ne44 (a b : Ans) : BinRun Tryz.prog .neq 44 (.agg (ansC a).toArray) (.agg (ansC b).toArray) (.bool (!ansEq a b)) := fun w X Y => by
 show Sem.run Tryz.prog (Sem.bind _ _) w = _
 rw [Sem.run_bind', run_eqGuard_agg w .neq 44 X Y _ _ (by kernel_rfl), Result.andThen_ok, run_neq_struct, run_eqIn44]
 rfl
theorem eq44_same (a : Ans) : BinRun Tryz.prog .eql 44 (.agg (ansC a).toArray) (.agg (ansC a).toArray) (.bool true) := by
 have := eq44 a a
 rw [ansEq_same] at this; exact this
end Go.Proofs.YtddpfkcofmfmpaaGreatDoor
