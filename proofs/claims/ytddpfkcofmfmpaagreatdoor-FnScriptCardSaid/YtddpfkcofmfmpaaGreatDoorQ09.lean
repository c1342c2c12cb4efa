/-
  The directory when a table is split. Conditions stand in each contract. A table split in two. Conditions stand in the contract. A table rehashed; putting into a table. Conditions stand in each contract.
  Conditions stand in each lemma.
-/
import Derived.Test.YtddpfkcofmfmpaaGreatDoorQ08
namespace Go.Proofs.YtddpfkcofmfmpaaGreatDoor
open Go Go.RowKit
set_option maxRecDepth 20000
section
section
variable {P : Program} {w : World} {n : Nat} {Q : Exit → Act → World → Prop} {f : Slots}
/-- Two steps with what is known between them. -/
theorem wp_seq_mid {x y : Code} (M : Slots → World → Prop) (h1 : x.wp P (Exit.then (fun a w => ∃ f', a = mkAct n f' ∧ M f' w) Q) (mkAct n f) w) (h2 : ∀ f' w, M f' w → y.wp P Q (mkAct n f') w) : (Code.seq x y).wp P Q (mkAct n f) w := by
 refine wp_seq (wp_mono h1 fun e a w' he => ?_)
 cases e <;> try exact he
 obtain ⟨f', rfl, hm⟩ := he
 exact h2 f' w' hm
end
variable {w0 w : World} {H : Heap}
theorem rowD : RowRun Tryz.prog 130 101 8 1 #[.pointer none] := RowRun.of (i := Tryz.t101) (z := .pointer none) Tryz.underlying130 (by kernel_rfl) (by kernel_rfl)
theorem madeCells_nil (n : Nat) : madeCells #[.pointer none] (n * 1) = arrD n (fun _ => none) := by
 apply Array.ext
 ·simp [madeCells, arrD]
 ·intro j h1 h2
  simp [madeCells, arrD, Nat.mod_one]
theorem encD_congr {n : Nat} {d e : Nat → Option Addr} (h : ∀ j, j < n → d j = e j) : encD n d = encD n e := by
 have : arrD n d = arrD n e := by
  apply Array.ext
  ·simp [arrD]
  ·intro j h1 h2
   simp only [arrD, Array.getElem_ofFn]
   rw [h j (by simpa [arrD] using h1)]
 rw [encD, encD, this]
/-- The map's cells and the directory when the directory is doubled, or is not. -/
def dblM (m : Mp) (db : Nat) (c : Bool) : Mp := if c then { m with small := none, dirp := some ⟨db, 0, none⟩, dirLen := 2 * m.dirLen, gd := m.gd + 1, gs := m.gs - 1 } else m
def dblD (d : Nat → Nat) (c : Bool) : Nat → Option Addr := fun j => some ⟨d (if c then j / 2 else j), 0, none⟩
def dblT (t : Tb) (c : Bool) : Tb := { t with index := if c then 2 * t.index else t.index }
/-- What is known after the doubling. -/
structure Doubled (w0 : World) (H : Heap) (bm db n1 n2 : Nat) (m : Mp) (d : Nat → Nat) (T : Nat → Tb) (t1 t2 : Tb) (c : Bool) (db' : Nat) (w : World) (S : Heap) : Prop where
 mem : Mem w0 w S
 mp : S bm = some (encM (dblM m db' c))
 pp : (dblM m db' c).dirp = some ⟨db', 0, none⟩
 dir : S db' = some (encD (dblM m db' c).dirLen (dblD d c))
 tabs : ∀ i, i < 2 ^ m.gd → S (d i) = some (encT (dblT (T (d i)) c))
 one : S n1 = some (encT t1)
 two : S n2 = some (encT t2)
 new : db' = db ∨ H db' = none
 rest : ∀ x u, H x = some u → x ≠ bm → (∀ i, i < 2 ^ m.gd → x ≠ d i) → S x = some u
set_option maxHeartbeats 2000000 in
theorem c140 (hM : Mem w0 w H) {bm db n1 n2 i0 : Nat} {m : Mp} {d : Nat → Nat} {T : Nat → Tb} {t1 t2 : Tb} (hb : H bm = some (encM m)) (hL : m.dirLen = 2 ^ m.gd) (hgs : m.gs = 64 - m.gd) (hgd : m.gd ≤ 43) (hp : m.dirp = some ⟨db, 0, none⟩) (hd : H db = some (encD m.dirLen (fun i => some ⟨d i, 0, none⟩)))
  (hDir : DirOK m.gd d T) (hT : ∀ i, i < 2 ^ m.gd → H (d i) = some (encT (T (d i)))) (hi0 : i0 < 2 ^ m.gd) (h1 : H n1 = some (encT t1)) (h2 : H n2 = some (encT t2)) (hl1 : t1.ld = (T (d i0)).ld + 1) (hl2 : t2.ld = (T (d i0)).ld + 1) (hne : n1 ≠ n2) (hn1 : ∀ i, i < 2 ^ m.gd → n1 ≠ d i) (hn2 : ∀ i, i < 2 ^ m.gd → n2 ≠ d i) :
  Calls Tryz.prog 140 [.pointer (some ⟨bm, 0, none⟩), .pointer (some ⟨d i0, 0, none⟩), .pointer (some ⟨n1, 0, none⟩), .pointer (some ⟨n2, 0, none⟩)].toArray w (Gives w0 fun v S => v = .tuple #[] ∧ ∃ db', let c := Nat.beq (T (d i0)).ld m.gd; let m' := dblM m db' c; let idx := base m'.gd (T (d i0)).ld (if c then 2 * i0 else i0); let half := 2 ^ (m'.gd - ((T (d i0)).ld + 1));
   m'.dirp = some ⟨db', 0, none⟩ ∧ (db' = db ∨ H db' = none) ∧ S bm = some (encM m') ∧ S db' = some (encD m'.dirLen (dirSet (dirSet (dblD d c) idx half (some ⟨n1, 0, none⟩)) (idx + half) half (some ⟨n2, 0, none⟩))) ∧
   (∀ i, i < 2 ^ m.gd → S (d i) = some (encT (dblT (T (d i)) c))) ∧ S n1 = some (encT { t1 with index := (idx : Nat) }) ∧ S n2 = some (encT { t2 with index := (idx + half : Nat) }) ∧
   ∀ x u, H x = some u → x ≠ bm → x ≠ db' → x ≠ n1 → x ≠ n2 → (∀ i, i < 2 ^ m.gd → x ≠ d i) → S x = some u) := by
 have hLt : m.dirLen ≤ 2 ^ 43 := by rw [hL]; exact Nat.pow_le_pow_right (by omega) hgd
 have hld := hDir.ld i0 hi0
 have ebd : bm ≠ db := ne_of_ty hb hd rfl rfl rfl
 have ebt : ∀ i, i < 2 ^ m.gd → bm ≠ d i := fun i hi => ne_of_ty hb (hT i hi) rfl rfl rfl
 have edt : ∀ i, i < 2 ^ m.gd → db ≠ d i := fun i hi => ne_of_ty hd (hT i hi) rfl rfl rfl
 have e1b : n1 ≠ bm := ne_of_ty h1 hb rfl rfl rfl
 have e2b : n2 ≠ bm := ne_of_ty h2 hb rfl rfl rfl
 have e1d : n1 ≠ db := ne_of_ty h1 hd rfl rfl rfl
 have e2d : n2 ≠ db := ne_of_ty h2 hd rfl rfl rfl
 refine calls_start Tryz.func140 rfl Tryz.ntmps140 (Nat.le_of_ble_eq_true rfl) ?_
 refine wp_seq_mid (fun f w => ∃ db' S, Know f [(0, .pointer (some ⟨bm, 0, none⟩)), (1, .pointer (some ⟨d i0, 0, none⟩)), (2, .pointer (some ⟨n1, 0, none⟩)), (3, .pointer (some ⟨n2, 0, none⟩))] ∧ Doubled w0 H bm db n1 n2 m d T t1 t2 (Nat.beq (T (d i0)).ld m.gd) db' w S) ?_ ?_
 ·refine wp_mix_seq [] [] [0, 1, 2, 3, 4, 5, 6, 7, 8] H mixed (by kernel_rfl) (Heap.le_refl _) hM ?_
  refine mv ?_
  refine nck ?_
  refine fa fr158_3 ?_
  refine lo ld5 (hT i0 hi0) ?_
  refine mv ?_
  refine nck ?_
  refine fa fr132_5 ?_
  refine lo ld5 hb ?_
  refine rw_bin rfl rfl rfl rfl (b_eq _ _) ?_
  refine rw_nil ?_; intro w hM
  refine wp_if (tmp_lt rfl) rfl (fun hc => ?_) (fun hc => ?_)
  ·have hcb : Nat.beq (T (d i0)).ld m.gd = true := nat_beq.2 (by have : ((T (d i0)).ld : Int) = (m.gd : Int) := beq_iff_eq.1 hc; omega)
   rw [hcb]
   refine rs hM ?_
   refine mv ?_
   refine nck ?_
   refine fa fr132_4 ?_
   refine lo ld3 hb ?_
   refine rw_bin (v := i64 ((2 * m.dirLen : Nat) : Int)) rfl rfl rfl rfl (bin_eq (b_muli (b := 2) (by omega) (by omega)) (congrArg i64 (by omega))) ?_
   refine rw_makeN rowD rfl rfl rfl rfl (by omega) (by omega) (fun nd G26 n26 l26 e26 k26 => ?_)
   refine asg ?_
   refine rw_nil ?_; intro w hM
   rw [madeCells_nil] at e26
   have hb1 := l26 _ _ hb
   refine wp_seq ?_
   refine rs hM ?_
   refine mv ?_
   refine nck ?_
   refine fa fr132_4 ?_
   refine lo ld3 hb1 ?_
   refine mv ?_
   refine rw_nil ?_; intro w hM
   refine wp_block ?_
   refine wp_loop_s (fun k f w => ∃ i S, k = m.dirLen - i ∧ i ≤ m.dirLen ∧ Know f [(0, .pointer (some ⟨bm, 0, none⟩)), (1, .pointer (some ⟨d i0, 0, none⟩)), (2, .pointer (some ⟨n1, 0, none⟩)), (3, .pointer (some ⟨n2, 0, none⟩)), (8, .slice (some ⟨nd, 0, none⟩) (2 * m.dirLen) (2 * m.dirLen)), (30, i64 (m.dirLen : Nat)), (31, i64 (i : Nat))] ∧ Mem w0 w S ∧
    S nd = some (encD (2 * m.dirLen) (fun j => if j < 2 * i then some ⟨d (j / 2), 0, none⟩ else none)) ∧ (∀ q, q < 2 ^ m.gd → S (d q) = some (encT { T (d q) with index := if base m.gd (T (d q)).ld q < i then 2 * (T (d q)).index else (T (d q)).index })) ∧ ∀ x u, H x = some u → (∀ q, q < 2 ^ m.gd → x ≠ d q) → S x = some u) (m.dirLen - 0) ?_ ?_
   ·refine ⟨0, G26, rfl, by omega, Know.of ⟨rfl, rfl, rfl, rfl, rfl, rfl, rfl, trivial⟩, hM, ?_, fun q hq => ?_, fun x u hx _ => l26 _ _ hx⟩
    ·rw [e26]
     have : (fun j => if j < 2 * 0 then some (⟨d (j / 2), 0, none⟩ : Addr) else none) = fun _ => none := by funext j; rw [if_neg (by omega)]
     rw [this]; rfl
    ·rw [if_neg (by omega)]; exact l26 _ _ (hT q hq)
   clear hM
   rintro k f w ⟨i, S, rfl, hi', ⟨g0, rfl⟩, hM, hS, hTS, hrest⟩
   have hbS := hrest _ _ hb ebt
   have hdS := hrest _ _ hd edt
   refine rs hM ?_
   refine rw_bin rfl rfl rfl rfl (b_lt _ _) ?_
   refine rw_nil ?_; intro w hM
   refine wp_seq ?_
   refine wp_if (tmp_lt rfl) rfl (fun hz => ?_) (fun hz => ?_)
   ·have hi : i < m.dirLen := by have := of_decide_eq_true hz; omega
    have hi2 : i < 2 ^ m.gd := by omega
    refine wp_skip ?_
    refine wp_seq ?_
    refine wp_block ?_
    refine rs hM ?_
    refine mv ?_
    refine asg ?_
    refine rw_nil ?_; intro w hM
    refine rs hM ?_
    refine mv ?_
    refine mv ?_
    refine rw_conv (v := u64 i) rfl rfl rfl (conv_eq (c_u64 Tryz.underlying3 Tryz.underlying12 i (by omega)) rfl) ?_
    refine rw_callq cr77 rfl rfl (fun H' w hle hM => c77 hM (hle _ _ hbS) hp (hle _ _ hdS) hi) rfl ?_
    refine asg ?_
    refine rw_nil ?_; intro w hM
    refine rs hM ?_
    refine mv ?_
    refine mv ?_
    refine rw_bin (v := i64 ((2 * i : Nat) : Int)) rfl rfl rfl rfl (bin_eq (b_muli (a := 2) (by omega) (by omega)) (congrArg i64 (by omega))) ?_
    refine mv ?_
    refine rw_indexAddr rfl rfl rfl rfl (x_slice Tryz.underlying130 sz101 (show 2 * i < 2 * m.dirLen by omega)) ?_
    refine rw_storeE (v := .pointer (some ⟨d i, 0, none⟩)) sz101 rfl rfl rfl rfl hS (arrD_set (show 2 * i < 2 * m.dirLen by omega)) (by rw [arrD_size]; omega) rfl (by nofun) (fun S6 hS6 kS6 => ?_)
    refine rw_nil ?_; intro w hM
    refine rs hM ?_
    refine mv ?_
    refine mv ?_
    refine rw_bin (v := i64 ((2 * i : Nat) : Int)) rfl rfl rfl rfl (bin_eq (b_muli (a := 2) (by omega) (by omega)) (congrArg i64 (by omega))) ?_
    refine rw_bin (v := i64 ((2 * i + 1 : Nat) : Int)) rfl rfl rfl rfl (bin_eq (b_addi (b := 1) (by omega) (by omega)) (congrArg i64 (by omega))) ?_
    refine mv ?_
    refine rw_indexAddr rfl rfl rfl rfl (x_slice Tryz.underlying130 sz101 (show 2 * i + 1 < 2 * m.dirLen by omega)) ?_
    refine rw_storeE (v := .pointer (some ⟨d i, 0, none⟩)) sz101 rfl rfl rfl rfl hS6 (arrD_set (show 2 * i + 1 < 2 * m.dirLen by omega)) (by rw [arrD_size]; omega) rfl (by nofun) (fun S7 hS7 kS7 => ?_)
    refine rw_nil ?_; intro w hM
    have hnd : ∀ q, q < 2 ^ m.gd → d q ≠ nd := fun q hq e => by have := hT q hq; rw [e, n26] at this; cases this
    have hdi : S7 (d i) = some (encT { T (d i) with index := if base m.gd (T (d i)).ld i < i then 2 * (T (d i)).index else (T (d i)).index }) := by rw [kS7 _ (hnd i hi2), kS6 _ (hnd i hi2)]; exact hTS i hi2
    have hS7' : S7 nd = some (encD (2 * m.dirLen) (fun j => if j < 2 * (i + 1) then some ⟨d (j / 2), 0, none⟩ else none)) := by
     rw [hS7]
     have : (fun j => if j = 2 * i + 1 then some (⟨d i, 0, none⟩ : Addr) else if j = 2 * i then some ⟨d i, 0, none⟩ else if j < 2 * i then some ⟨d (j / 2), 0, none⟩ else none) = fun j => if j < 2 * (i + 1) then some ⟨d (j / 2), 0, none⟩ else none := by
      funext j
      by_cases j1 : j = 2 * i + 1
      ·rw [if_pos j1, if_pos (by omega), show j / 2 = i by omega]
      ·rw [if_neg j1]
       by_cases j2 : j = 2 * i
       ·rw [if_pos j2, if_pos (by omega), show j / 2 = i by omega]
       ·rw [if_neg j2]
        by_cases j3 : j < 2 * i
        ·rw [if_pos j3, if_pos (by omega)]
        ·rw [if_neg j3, if_neg (by omega)]
     rw [this]; rfl
    have hbl := base_le m.gd (T (d i)).ld i
    have hix := hDir.idx i hi2
    refine rs hM ?_
    refine mv ?_
    refine nck ?_
    refine fa fr158_4 ?_
    refine lo ld3 hdi ?_
    refine mv ?_
    refine rw_bin rfl rfl rfl rfl (b_eq _ _) ?_
    refine rw_nil ?_; intro w hM
    refine wp_if (tmp_lt rfl) rfl (fun hy => ?_) (fun hy => ?_)
    ·have hy' : (if base m.gd (T (d i)).ld i < i then 2 * (T (d i)).index else (T (d i)).index) = (i : Int) := beq_iff_eq.1 hy
     have hbi : base m.gd (T (d i)).ld i = i := by
      rcases Nat.lt_or_ge (base m.gd (T (d i)).ld i) i with h | h
      ·rw [if_pos h, hix] at hy'
       exact absurd (by omega) (base_double h)
      ·omega
     refine re hM ?_
     refine mv ?_
     refine mv ?_
     refine rw_bin (v := i64 ((2 * i : Nat) : Int)) rfl rfl rfl rfl (bin_eq (b_muli (a := 2) (by omega) (by omega)) (congrArg i64 (by omega))) ?_
     refine nck ?_
     refine fa fr158_4 ?_
     refine rw_store1 (v := .int .i64 _) sz3 rfl rfl rfl rfl hdi rfl rfl (by nofun) (fun S9 hS9 kS9 => ?_)
     refine rw_nil ?_; intro w hM
     simp only [Exit.then, Exit.inBlock]
     refine re hM ?_
     refine rw_bin rfl rfl rfl rfl (b_addi (by omega) (by omega)) ?_
     refine mv ?_
     refine rw_nil ?_; intro w hM
     refine ⟨m.dirLen - (i + 1), _, rfl, by omega, i + 1, S9, rfl, by omega, Know.of ⟨rfl, rfl, rfl, rfl, rfl, rfl, rfl, trivial⟩, hM, ?_, fun q hq => ?_, fun x u hx hxd => ?_⟩
     ·rw [kS9 _ (hnd i hi2).symm]; exact hS7'
     ·by_cases hqd : d q = d i
      ·have hbq : base m.gd (T (d q)).ld q = i := by
        have := hDir.inj hq hi2 hqd
        rw [hqd] at this ⊢; omega
       rw [if_pos (by omega), hqd, hS9, hix, hbi]
       have : (2 : Int) * (i : Int) = ((2 * i : Nat) : Int) := by omega
       rw [this]; rfl
      ·have hbq : base m.gd (T (d q)).ld q ≠ i := fun e => hqd (by
        have := hDir.same q i hq hi2 (by rw [← e, base_base])
        exact this.symm)
       rw [kS9 _ hqd, kS7 _ (hnd q hq), kS6 _ (hnd q hq), hTS q hq]
       by_cases h : base m.gd (T (d q)).ld q < i
       ·rw [if_pos h, if_pos (by omega)]
       ·rw [if_neg h, if_neg (by omega)]
     ·have hx1 : x ≠ nd := fun e => by rw [e, n26] at hx; cases hx
      rw [kS9 _ (hxd i hi2), kS7 _ hx1, kS6 _ hx1]; exact hrest x u hx hxd
    ·have hy' : (if base m.gd (T (d i)).ld i < i then 2 * (T (d i)).index else (T (d i)).index) ≠ (i : Int) := fun e => by rw [show ((if base m.gd (T (d i)).ld i < i then 2 * (T (d i)).index else (T (d i)).index) == (i : Int)) = true from beq_iff_eq.2 e] at hy; cases hy
     have hbi : base m.gd (T (d i)).ld i < i := by
      rcases Nat.lt_or_ge (base m.gd (T (d i)).ld i) i with h | h
      ·exact h
      ·rw [if_neg (by omega), hix] at hy'; omega
     refine wp_skip ?_
     simp only [Exit.then, Exit.inBlock]
     refine re hM ?_
     refine rw_bin rfl rfl rfl rfl (b_addi (by omega) (by omega)) ?_
     refine mv ?_
     refine rw_nil ?_; intro w hM
     refine ⟨m.dirLen - (i + 1), _, rfl, by omega, i + 1, S7, rfl, by omega, Know.of ⟨rfl, rfl, rfl, rfl, rfl, rfl, rfl, trivial⟩, hM, hS7', fun q hq => ?_, fun x u hx hxd => ?_⟩
     ·rw [kS7 _ (hnd q hq), kS6 _ (hnd q hq), hTS q hq]
      have hbq : base m.gd (T (d q)).ld q ≠ i := fun e => by
       have := hDir.same q i hq hi2 (by rw [← e, base_base])
       have := hDir.inj hq hi2 this.symm
       omega
      by_cases h : base m.gd (T (d q)).ld q < i
      ·rw [if_pos h, if_pos (by omega)]
      ·rw [if_neg h, if_neg (by omega)]
     ·have hx1 : x ≠ nd := fun e => by rw [e, n26] at hx; cases hx
      rw [kS7 _ hx1, kS6 _ hx1]; exact hrest x u hx hxd
   ·have hi : i = m.dirLen := by have := of_decide_eq_false hz; omega
    subst hi
    refine wp_exit ?_
    simp only [Exit.then, Exit.inBlock, if_true]
    have hbnd : bm ≠ nd := fun e => by rw [e, n26] at hb; cases hb
    refine rs hM ?_
    refine mv ?_
    refine nck ?_
    refine fa fr132_5 ?_
    refine lo ld5 hbS ?_
    refine rw_bin rfl rfl rfl rfl (b_add8 _ 1 (by omega)) ?_
    refine nck ?_
    refine fa fr132_5 ?_
    refine rw_store1 (v := .int .u8 _) sz5 rfl rfl rfl rfl hbS rfl rfl (by nofun) (fun S11 hS11 kS11 => ?_)
    refine rw_nil ?_; intro w hM
    refine rs hM ?_
    refine mv ?_
    refine nck ?_
    refine fa fr132_6 ?_
    refine lo ld5 hS11 ?_
    refine rw_bin rfl rfl rfl rfl (b_sub8 _ 1 (by omega) (by omega)) ?_
    refine nck ?_
    refine fa fr132_6 ?_
    refine rw_store1 (v := .int .u8 _) sz5 rfl rfl rfl rfl hS11 rfl rfl (by nofun) (fun S12 hS12 kS12 => ?_)
    refine rw_nil ?_; intro w hM
    refine rs hM ?_
    refine mv ?_
    refine mv ?_
    refine mv ?_
    refine nck ?_
    refine fa fr132_2 ?_
    refine rw_store1 (v := .pointer _) sz102 rfl rfl rfl rfl hS12 rfl rfl (by nofun) (fun S13 hS13 kS13 => ?_)
    refine nck ?_
    refine fa fr132_3 ?_
    refine rw_store1 (v := .slice _ _ _) sz130 rfl rfl rfl rfl hS13 rfl rfl (by nofun) (fun S13b hS13b kS13b => ?_)
    refine rw_nil ?_; intro w hM
    refine re hM ?_
    refine mv ?_
    refine mv ?_
    refine rw_len Tryz.underlying130 rfl rfl rfl ?_
    refine nck ?_
    refine fa fr132_4 ?_
    refine rw_store1 (v := .int .i64 _) sz3 rfl rfl rfl rfl hS13b rfl rfl (by nofun) (fun S14 hS14 kS14 => ?_)
    refine rw_nil ?_; intro w hM
    have hnx : ∀ x, x ≠ bm → S14 x = S x := fun x hx => by rw [kS14 _ hx, kS13b _ hx, kS13 _ hx, kS12 _ hx, kS11 _ hx]
    have hbn : ∀ q, q < 2 ^ m.gd → base m.gd (T (d q)).ld q < m.dirLen := fun q hq => by have := base_le m.gd (T (d q)).ld q; omega
    refine ⟨_, rfl, nd, S14, Know.of ⟨rfl, rfl, rfl, rfl, trivial⟩, ⟨hM, ?_, rfl, ?_, fun q hq => ?_, ?_, ?_, .inr n26, fun x u hx hxb hxd => ?_⟩⟩
    ·rw [hS14]; rfl
    ·rw [hnx _ hbnd.symm, hS]
     refine congrArg some ?_
     refine encD_congr fun j hj => ?_
     rw [if_pos hj]; rfl
    ·rw [hnx _ (ebt q hq).symm, hTS q hq, if_pos (hbn q hq)]; rfl
    ·rw [hnx _ e1b]; exact hrest _ _ h1 hn1
    ·rw [hnx _ e2b]; exact hrest _ _ h2 hn2
    ·rw [hnx _ hxb]; exact hrest x u hx hxd
  ·have hcb : Nat.beq (T (d i0)).ld m.gd = false := nat_beq_f.2 (fun e => by rw [e] at hc; simp at hc)
   rw [hcb]
   refine wp_skip ?_
   exact ⟨_, rfl, db, H, Know.of ⟨rfl, rfl, rfl, rfl, trivial⟩, ⟨hM, hb, hp, hd, hT, h1, h2, .inl rfl, fun x u hx _ _ => hx⟩⟩
 ·rintro f w ⟨db', S, ⟨g0, rfl⟩, hDb⟩
  generalize hcc : Nat.beq (T (d i0)).ld m.gd = c at hDb
  have hM := hDb.mem
  have hgd' : (dblM m db' c).gd = if c then m.gd + 1 else m.gd := by cases c <;> rfl
  have hlen' : (dblM m db' c).dirLen = 2 ^ (dblM m db' c).gd := by
   cases c
   ·exact hL
   ·show 2 * m.dirLen = 2 ^ (m.gd + 1); rw [Nat.pow_succ, hL]; omega
  have hgl : (dblM m db' c).gd ≤ 44 := by rw [hgd']; split <;> omega
  have hlt : (T (d i0)).ld + 1 ≤ (dblM m db' c).gd := by
   rw [hgd']
   cases c
   ·have := nat_beq_f.1 hcc; simp; omega
   ·simp; omega
  have hlen2 : (dblM m db' c).dirLen ≤ 2 ^ 44 := by rw [hlen']; exact Nat.pow_le_pow_right (by omega) hgl
  have hb' := hDb.mp
  have hpp := hDb.pp
  have hd' := hDb.dir
  have h1' := hDb.one
  have h2' := hDb.two
  have ht' := hDb.tabs i0 hi0
  have hi' : (if c then 2 * i0 else i0) < 2 ^ (dblM m db' c).gd := by
   rw [hgd']; cases c
   ·exact hi0
   ·show 2 * i0 < 2 ^ (m.gd + 1); rw [Nat.pow_succ]; omega
  have hidx : (dblT (T (d i0)) c).index = ((base (dblM m db' c).gd (T (d i0)).ld (if c then 2 * i0 else i0) : Nat) : Int) := by
   have h3 := hDir.idx i0 hi0
   rw [hgd']
   cases c
   ·simp only [dblT, Bool.false_eq_true, if_false]; exact h3
   ·have hle : (T (d i0)).ld = m.gd := nat_beq.1 hcc
    simp only [dblT, if_true]
    rw [h3, hle]
    have e1 : base m.gd m.gd i0 = i0 := by unfold base; simp
    have e2 : base (m.gd + 1) m.gd (2 * i0) = 2 * i0 := by
     unfold base; rw [show m.gd + 1 - m.gd = 1 by omega]; omega
    rw [e1, e2]; omega
  have hfit := base_fit (gd := (dblM m db' c).gd) (ld := (T (d i0)).ld) (by omega) hi'
  rw [← hlen'] at hfit
  have hhalf : 2 ^ ((dblM m db' c).gd - (T (d i0)).ld) = 2 * 2 ^ ((dblM m db' c).gd - ((T (d i0)).ld + 1)) := by
   rw [show (dblM m db' c).gd - (T (d i0)).ld = (dblM m db' c).gd - ((T (d i0)).ld + 1) + 1 by omega, Nat.pow_succ]; omega
  rw [hhalf] at hfit
  generalize hm' : dblM m db' c = m' at *
  generalize hidx' : base m'.gd (T (d i0)).ld (if c then 2 * i0 else i0) = idx at *
  have ebd' : bm ≠ db' := ne_of_ty hb' hd' rfl rfl rfl
  have e1b' : n1 ≠ db' := ne_of_ty h1' hd' rfl rfl rfl
  have e2b' : n2 ≠ db' := ne_of_ty h2' hd' rfl rfl rfl
  refine rs hM ?_
  refine mv ?_
  refine mv ?_
  refine nck ?_
  refine fa fr158_4 ?_
  refine lo ld3 ht' ?_
  refine nck ?_
  refine fa fr158_4 ?_
  refine rw_store1 (v := .int .i64 _) sz3 rfl rfl rfl rfl h1' rfl rfl (by nofun) (fun S15 hS15 kS15 => ?_)
  refine rw_nil ?_; intro w hM
  have hS15' : S15 n1 = some (encT { t1 with index := (idx : Nat) }) := by rw [hS15, hidx]; rfl
  refine rs hM ?_
  refine mv ?_
  refine mv ?_
  refine rw_callS cr138 rfl rfl (fun w hM => c138 hM ((kS15 _ e1b.symm).trans hb') hpp ((kS15 _ e1b'.symm).trans hd') hS15' (idx := idx) rfl (by show t1.ld ≤ _; omega) (by omega) (by show idx + 2 ^ (m'.gd - t1.ld) ≤ _; rw [hl1]; omega) (by omega)) rfl (by nofun) (fun S16 hS16 kS16 => ?_)
  refine rw_nil ?_; intro w hM
  have hS16' : S16 db' = some (encD m'.dirLen (dirSet (dblD d c) idx (2 ^ (m'.gd - ((T (d i0)).ld + 1))) (some ⟨n1, 0, none⟩))) := by rw [hS16]; show some (encD _ (dirSet _ _ (2 ^ (m'.gd - t1.ld)) _)) = _; rw [hl1]
  have hb16 := (kS16 _ ebd').trans ((kS15 _ e1b.symm).trans hb')
  have h116 := (kS16 _ e1b').trans hS15'
  have h216 := (kS16 _ e2b').trans ((kS15 _ hne.symm).trans h2')
  generalize hhf : 2 ^ (m'.gd - ((T (d i0)).ld + 1)) = half at *
  have e1 : (1 : Int) * 2 ^ (m'.gd - t1.ld) = (half : Int) := by rw [hl1, ← hhf]; simp
  refine wp_mix_seq [] [] [0, 1, 2, 3, 4, 5, 6, 7, 8, 9, 10] S16 mixed (by kernel_rfl) (Heap.le_refl _) hM ?_
  refine mv ?_
  refine nck ?_
  refine fa fr132_5 ?_
  refine lo ld5 hb16 ?_
  refine mv ?_
  refine nck ?_
  refine fa fr158_3 ?_
  refine lo ld5 h116 ?_
  refine rw_bin rfl rfl rfl rfl (b_sub8 m'.gd t1.ld (by omega) (by omega)) ?_
  refine rw_bin (v := i64 (half : Nat)) rfl rfl rfl rfl (bin_eq (b_shli (x := 1) _ (m'.gd - t1.ld) (by omega) (by rw [e1]; omega) (by rw [e1]; omega)) (by rw [e1])) ?_
  refine asg ?_
  refine rw_nil ?_; intro w hM
  refine rs hM ?_
  refine mv ?_
  refine mv ?_
  refine nck ?_
  refine fa fr158_4 ?_
  refine lo ld3 h116 ?_
  refine mv ?_
  refine rw_bin (v := i64 ((idx + half : Nat) : Int)) rfl rfl rfl rfl (bin_eq (b_addi (a := (idx : Nat)) (b := (half : Nat)) (by omega) (by omega)) (congrArg i64 (by omega))) ?_
  refine nck ?_
  refine fa fr158_4 ?_
  refine rw_store1 (v := .int .i64 _) sz3 rfl rfl rfl rfl h216 rfl rfl (by nofun) (fun S18 hS18 kS18 => ?_)
  refine rw_nil ?_; intro w hM
  have hS18' : S18 n2 = some (encT { t2 with index := (idx + half : Nat) }) := by rw [hS18]; rfl
  refine re hM ?_
  refine mv ?_
  refine mv ?_
  refine rw_callS cr138 rfl rfl (fun w hM => c138 hM ((kS18 _ e2b.symm).trans hb16) hpp ((kS18 _ e2b'.symm).trans hS16') hS18' (idx := idx + half) rfl (by show t2.ld ≤ _; omega) (by omega) (by show idx + half + 2 ^ (m'.gd - t2.ld) ≤ _; rw [hl2, hhf]; omega) (by omega)) rfl (by nofun) (fun S19 hS19 kS19 => ?_)
  refine rw_nil ?_; intro w hM
  refine post_none rfl ⟨_, S19, rfl, hM, rfl, db', ?_⟩
  simp only [hm', hidx', hhf]
  refine ⟨hpp, hDb.new, ?_, ?_, fun i hi => ?_, ?_, ?_, fun x u hx x1 x2 x3 x4 x5 => ?_⟩
  ·rw [kS19 _ ebd', kS18 _ e2b.symm, hb16]
  ·rw [hS19]; show some (encD _ (dirSet _ _ (2 ^ (m'.gd - t2.ld)) _)) = _; rw [hl2, hhf]
  ·have q1 : d i ≠ db' := ne_of_ty (hDb.tabs i hi) hd' rfl rfl rfl
   rw [kS19 _ q1, kS18 _ (hn2 i hi).symm, kS16 _ q1, kS15 _ (hn1 i hi).symm]; exact hDb.tabs i hi
  ·rw [kS19 _ e1b', kS18 _ hne, h116]
  ·rw [kS19 _ e2b', hS18']
  ·rw [kS19 _ x2, kS18 _ x4, kS16 _ x2, kS15 _ x3]; exact hDb.rest x u hx x1 x5
end
section
variable {w0 w : World} {H : Heap}
theorem Filling.reindex {K : KT} {n : Nat} {G : Gr} {sel : Nat → Bool} {t : Tb} {σ : Nat → Nat} (h : Filling K n G sel t σ) (i : Int) : Filling K n G sel { t with index := i } σ :=
 ⟨⟨h.ok.pow, h.ok.cap, h.ok.sl, h.ok.used, h.ok.room⟩, h.noDel, ⟨h.moved.into, h.moved.inj, h.moved.onto⟩, h.used⟩
/-- The entry of slot s goes to the left table: the bit of her hash at depth ld is 0. -/
def leftB (K : KT) (ld : Nat) (G : Gr) (s : Nat) : Bool := Nat.beq (K.hash (G.k s) &&& 2 ^ (64 - ld)) 0
/-- What a split leaves. -/
def SplitS (K : KT) (H : Heap) (bm db : Nat) (m : Mp) (d : Nat → Nat) (T : Nat → Tb) (i0 : Nat) (v : Value) (S : Heap) : Prop :=
 ∃ n1 n2 t1 t2 σ1 σ2 db', let t := T (d i0); let c := Nat.beq t.ld m.gd; let m' := dblM m db' c; let idx := base m'.gd t.ld (if c then 2 * i0 else i0); let half := 2 ^ (m'.gd - (t.ld + 1));
  v = .tuple #[] ∧ n1 ≠ n2 ∧ t1.gb ≠ t2.gb ∧ H n1 = none ∧ H n2 = none ∧ H t1.gb = none ∧ H t2.gb = none ∧
  Filling K t.n t.G (leftB K (t.ld + 1) t.G) t1 σ1 ∧ Filling K t.n t.G (fun s => !leftB K (t.ld + 1) t.G s) t2 σ2 ∧ t1.n = 128 ∧ t2.n = 128 ∧ t1.ld = t.ld + 1 ∧ t2.ld = t.ld + 1 ∧ t1.index = (idx : Nat) ∧ t2.index = (idx + half : Nat) ∧
  S n1 = some (encT t1) ∧ S t1.gb = some (encG t1.n t1.G) ∧ S n2 = some (encT t2) ∧ S t2.gb = some (encG t2.n t2.G) ∧
  m'.dirp = some ⟨db', 0, none⟩ ∧ (db' = db ∨ H db' = none) ∧ S bm = some (encM m') ∧ S db' = some (encD m'.dirLen (dirSet (dirSet (dblD d c) idx half (some ⟨n1, 0, none⟩)) (idx + half) half (some ⟨n2, 0, none⟩))) ∧
  (∀ i, i < 2 ^ m.gd → d i ≠ d i0 → S (d i) = some (encT (dblT (T (d i)) c))) ∧ S (d i0) = some (encT { dblT t c with index := -1 }) ∧
  ∀ x u, H x = some u → x ≠ bm → x ≠ db' → (∀ i, i < 2 ^ m.gd → x ≠ d i) → S x = some u
/-- The two new tables, while they are filled. -/
structure Splitting (K : KT) (w0 : World) (H : Heap) (n1 g1 n2 g2 ld : Nat) (t : Tb) (pos : Nat) (t1 t2 : Tb) (σ1 σ2 : Nat → Nat) (w : World) (S : Heap) : Prop where
 mem : Mem w0 w S
 le : H.le S
 f1 : Filling K t.n t.G (fun s => decide (s < pos) && leftB K ld t.G s) t1 σ1
 f2 : Filling K t.n t.G (fun s => decide (s < pos) && !leftB K ld t.G s) t2 σ2
 z1 : t1.n = 128
 z2 : t2.n = 128
 l1 : t1.ld = ld
 l2 : t2.ld = ld
 b1 : t1.gb = g1
 b2 : t2.gb = g2
 o1 : S n1 = some (encT t1)
 o2 : S n2 = some (encT t2)
 h1 : S g1 = some (encG t1.n t1.G)
 h2 : S g2 = some (encG t2.n t2.G)
set_option maxHeartbeats 4000000 in
theorem c136 (hM : Mem w0 w H) (hD : HasDb w0) {K : KT} {E : Heap} {bty : Nat} {nu : Bool} (hE : E.le H) (Ty : TypOK K w0 E bty nu) {bm db i0 : Nat} {m : Mp} {d : Nat → Nat} {T : Nat → Tb} (hb : H bm = some (encM m)) (hL : m.dirLen = 2 ^ m.gd) (hgs : m.gs = 64 - m.gd) (hgd : m.gd ≤ 43) (hp : m.dirp = some ⟨db, 0, none⟩) (hd : H db = some (encD m.dirLen (fun i => some ⟨d i, 0, none⟩)))
  (hDir : DirOK m.gd d T) (hT : ∀ i, i < 2 ^ m.gd → H (d i) = some (encT (T (d i)))) (hi0 : i0 < 2 ^ m.gd) (hg : H (T (d i0)).gb = some (encG (T (d i0)).n (T (d i0)).G)) (hTO : TOK K (T (d i0))) :
  Calls Tryz.prog 136 [.pointer (some ⟨d i0, 0, none⟩), .pointer (some ⟨bty, 0, none⟩), .pointer (some ⟨bm, 0, none⟩)].toArray w (Gives w0 (SplitS K H bm db m d T i0)) := by
 have hld := hDir.ld i0 hi0
 have hb0 := hT i0 hi0
 generalize ht : T (d i0) = t at *
 have hn := hTO.npos
 have hroom := hTO.room
 have hlen10 : IsLen (1024 - 1) (7 + 3) := isLen_pow (p := 10)
 refine calls_start Tryz.func136 rfl Tryz.ntmps136 (Nat.le_of_ble_eq_true rfl) ?_
 refine rs hM ?_
 refine mv ?_
 refine nck ?_
 refine fa fr158_3 ?_
 refine lo ld5 hb0 ?_
 refine asg ?_
 refine rw_nil ?_; intro w hM
 refine rs hM ?_
 refine mv ?_
 refine rw_bin rfl rfl rfl rfl (b_add8 _ 1 (by omega)) ?_
 refine asg ?_
 refine rw_nil ?_; intro w hM
 refine rs hM ?_
 refine mv ?_
 refine mv ?_
 refine rw_callE cr84 rfl rfl (fun w hM => c84 (c := 1024) (p := 7) hM (by decide) (by decide) hlen10 (by decide)) rfl (by nofun) ?_; rintro _ S2 ⟨n1, g1, rfl, nn1, ng1, hne1, hn1, hg1, hle1⟩
 refine asg ?_
 refine rw_nil ?_; intro w hM
 refine rs hM ?_
 refine mv ?_
 refine mv ?_
 refine rw_callE cr84 rfl rfl (fun w hM => c84 (c := 1024) (p := 7) hM (by decide) (by decide) hlen10 (by decide)) rfl (by nofun) ?_; rintro _ S3 ⟨n2, g2, rfl, nn2', ng2', hne2, hn2, hg2, hle2⟩
 refine asg ?_
 refine rw_nil ?_; intro w hM
 refine rs hM ?_
 refine mv ?_
 refine rw_callq cr139 rfl rfl (fun H' w hle hM => c139 hM (by omega) (by omega)) rfl ?_
 refine asg ?_
 refine rw_nil ?_; intro w hM
 refine wp_seq ?_
 refine rs hM ?_
 refine asg ?_
 refine rw_nil ?_; intro w hM
 refine wp_block ?_
 have nn2 := le_none hle1 nn2'
 have ng2 := le_none hle1 ng2'
 have hn12 : n1 ≠ n2 := fun e => by rw [← e, hn1] at nn2'; cases nn2'
 have hg12 : g1 ≠ g2 := fun e => by rw [← e, hg1] at ng2'; cases ng2'
 refine wp_loop_s (fun k f w => ∃ i t1 t2 σ1 σ2 S, k = t.n + 1 - i ∧ i ≤ t.n ∧ Know f [(0, .pointer (some ⟨d i0, 0, none⟩)), (1, .pointer (some ⟨bty, 0, none⟩)), (2, .pointer (some ⟨bm, 0, none⟩)), (7, .pointer (some ⟨n1, 0, none⟩)), (8, .pointer (some ⟨n2, 0, none⟩)), (9, u64 (2 ^ (64 - (t.ld + 1)))), (10, u64 i)] ∧ Splitting K w0 H n1 g1 n2 g2 (t.ld + 1) t (8 * i) t1 t2 σ1 σ2 w S) (t.n + 1 - 0) ?_ ?_
 ·exact ⟨0, newTb 128 (t.ld + 1) (-1) g1, newTb 128 (t.ld + 1) (-1) g2, fun s => s, fun s => s, S3, rfl, by omega, Know.of ⟨rfl, rfl, rfl, rfl, rfl, rfl, rfl, trivial⟩, ⟨hM, Heap.le_trans hle1 hle2, Filling.new (newTb_ok K (p := 7) (by decide)) (fun _ => rfl) rfl (fun s => by simp), Filling.new (newTb_ok K (p := 7) (by decide)) (fun _ => rfl) rfl (fun s => by simp), rfl, rfl, rfl, rfl, rfl, rfl, hle2 _ _ hn1, hn2, hle2 _ _ hg1, hg2⟩⟩
 clear hM hn1 hn2 hg1 hg2 hle1 hle2
 rintro k f w ⟨i, t1, t2, σ1, σ2, S, rfl, hi', ⟨g0, rfl⟩, hS⟩
 have hM := hS.mem
 have hb1 := hS.le _ _ hb0
 refine wp_seq ?_
 refine rs hM ?_
 refine mv ?_
 refine mv ?_
 refine nck ?_
 refine fa fr158_5 ?_
 refine fa fr156_1 ?_
 refine lo ld22 hb1 ?_
 refine rw_bin rfl rfl rfl rfl (b_le _ _) ?_
 refine rw_nil ?_; intro w hM
 refine wp_if (tmp_lt rfl) rfl (fun hc => ?_) (fun hc => ?_)
 ·have hlt : i < t.n := by have : (i : Int) ≤ ((t.n - 1 : Nat) : Int) := of_decide_eq_true hc; omega
  refine wp_skip ?_
  refine wp_seq ?_
  refine wp_block ?_
  refine rs hM ?_
  refine mv ?_
  refine nck ?_
  refine fa fr158_5 ?_
  refine mv ?_
  refine mv ?_
  refine rw_callq cr93 rfl rfl (fun H' w hle' hM => c93 hM (hle' _ _ hb1) rfl hlt) rfl ?_
  refine rw_allocN Tryz.zeroValue104 rfl rfl (fun b11 G11 n11 l11 e11 k11 => ?_)
  refine rw_store (v := .agg #[.pointer _]) sz104 rfl rfl rfl rfl e11 rfl rfl rfl (by nofun) (fun S8 hS8 kS8 => ?_)
  refine rw_nil ?_; intro w hM
  have hle5 := le_keep l11 n11 kS8
  refine rs hM ?_
  refine asg ?_
  refine rw_nil ?_; intro w hM
  refine wp_block ?_
  refine wp_loop_s (fun k f w => ∃ j t1 t2 σ1 σ2 S, k = 9 - j ∧ j ≤ 8 ∧ Know f [(0, .pointer (some ⟨d i0, 0, none⟩)), (1, .pointer (some ⟨bty, 0, none⟩)), (2, .pointer (some ⟨bm, 0, none⟩)), (7, .pointer (some ⟨n1, 0, none⟩)), (8, .pointer (some ⟨n2, 0, none⟩)), (9, u64 (2 ^ (64 - (t.ld + 1)))), (10, u64 i), (11, .pointer (some ⟨b11, 0, none⟩)), (12, u64 j)] ∧ Splitting K w0 H n1 g1 n2 g2 (t.ld + 1) t (8 * i + j) t1 t2 σ1 σ2 w S ∧ S b11 = some (.cells #[.pointer (some ⟨t.gb, 17 * i, none⟩)] 104 (0, 0))) (9 - 0) ?_ ?_
  ·exact ⟨0, t1, t2, σ1, σ2, S8, rfl, by omega, Know.of ⟨rfl, rfl, rfl, rfl, rfl, rfl, rfl, rfl, rfl, trivial⟩, ⟨hM, Heap.le_trans hS.le hle5, hS.f1, hS.f2, hS.z1, hS.z2, hS.l1, hS.l2, hS.b1, hS.b2, hle5 _ _ hS.o1, hle5 _ _ hS.o2, hle5 _ _ hS.h1, hle5 _ _ hS.h2⟩, hS8⟩
  clear hM hb1 hle5 hS
  clear t1 t2 σ1 σ2
  rintro k f w ⟨j, t1, t2, σ1, σ2, S, rfl, hj', ⟨g3, rfl⟩, hS, h11⟩
  have hM := hS.mem
  have hgS := hS.le _ _ hg
  have hmS := hS.le _ _ hb
  have hES := Heap.le_trans hE hS.le
  have hgr := Gr.bytes hTO.sl.ok i
  refine wp_seq ?_
  refine rs hM ?_
  refine mv ?_
  refine rw_bin rfl rfl rfl rfl (b_lt _ _) ?_
  refine rw_nil ?_; intro w hM
  refine wp_if (tmp_lt rfl) rfl (fun hc => ?_) (fun hc => ?_)
  ·have hj : j < 8 := by have := of_decide_eq_true hc; omega
   have hs : 8 * i + j < 8 * t.n := by omega
   refine wp_skip ?_
   refine wp_seq ?_
   refine wp_block ?_
   refine wp_seq ?_
   refine rs hM ?_
   refine rw_callq cr90 rfl rfl (fun H' w hle hM => c90 hM (hle _ _ h11) rfl) rfl ?_
   refine mv ?_
   refine rw_callq cr95 rfl rfl (fun H' w hle hM => c95 hM hgr (hle _ _ hgS) (encG_ctrl hlt) hj) rfl ?_
   refine rw_bin rfl rfl rfl rfl (b_and8 _ 128 (hTO.sl.ok.1 _) (by decide)) ?_
   refine rw_bin rfl rfl rfl rfl (b_eq _ _) ?_
   refine rw_nil ?_; intro w hM
   refine wp_if (tmp_lt rfl) rfl (fun hz => ?_) (fun hz => ?_)
   ·have hz' : 128 ≤ t.G.c (8 * i + j) := of_decide_eq_true ((byte_top _ (hTO.sl.ok.1 (8 * i + j))).symm.trans hz)
    refine wp_exit ?_
    simp only [Exit.then, Exit.inBlock, if_true]
    refine re hM ?_
    refine mv ?_
    refine rw_bin rfl rfl rfl rfl (b_add64 _ 1) ?_
    refine asg ?_
    refine rw_nil ?_; intro w hM
    have hcg : ∀ s, s < 8 * t.n → t.G.c s < 128 → decide (s < 8 * i + j) = decide (s < 8 * i + (j + 1)) := fun s hs hf => by
     have : s ≠ 8 * i + j := fun e => by subst e; omega
     by_cases h1 : s < 8 * i + j
     ·rw [decide_eq_true h1, decide_eq_true (show s < 8 * i + (j + 1) by omega)]
     ·rw [decide_eq_false h1, decide_eq_false (show ¬ s < 8 * i + (j + 1) by omega)]
    exact ⟨9 - (j + 1), _, rfl, by omega, j + 1, t1, t2, σ1, σ2, S, rfl, by omega, Know.of ⟨rfl, rfl, rfl, rfl, rfl, rfl, rfl, rfl, congrArg u64 (show (j + 1) % 2 ^ 64 = j + 1 by omega), trivial⟩, ⟨hM, hS.le, hS.f1.congr (fun s hs hf => by rw [hcg s hs hf]), hS.f2.congr (fun s hs hf => by rw [hcg s hs hf]), hS.z1, hS.z2, hS.l1, hS.l2, hS.b1, hS.b2, hS.o1, hS.o2, hS.h1, hS.h2⟩, h11⟩
   ·have hz' : t.G.c (8 * i + j) < 128 := by
     have := of_decide_eq_false ((byte_top _ (hTO.sl.ok.1 (8 * i + j))).symm.trans hz); omega
    have hkey : objCell (encG t.n t.G) (17 * i + 1 + j) = some (u64 (t.G.k (8 * i + j))) := encG_key hlt hj
    have helem : objCell (encG t.n t.G) (17 * i + 9 + j) = some (i64 (t.G.e (8 * i + j))) := encG_elem hlt hj
    have hkl := hTO.sl.ok.2.1 (8 * i + j)
    have hel := hTO.sl.ok.2.2 (8 * i + j)
    have hp2 : 2 ^ (64 - (t.ld + 1)) < 2 ^ 64 := Nat.pow_lt_pow_right (by omega) (by omega)
    have hpc : ∀ s, decide (s < 8 * i + (j + 1)) = (decide (s < 8 * i + j) || decide (s = 8 * i + j)) := fun s => by
     by_cases h1 : s < 8 * i + j
     ·simp [h1]; omega
     ·by_cases h2 : s = 8 * i + j
      ·subst h2; simp
      ·simp [h1, h2]; omega
    refine wp_skip ?_
    refine rs hM ?_
    refine mv ?_
    refine mv ?_
    refine rw_callq cr96 rfl rfl (fun H' w hle hM => c96 hM (hle _ _ h11) rfl hj) rfl ?_
    refine asg ?_
    refine rw_nil ?_; intro w hM
    refine rs hM ?_
    refine mv ?_
    refine mv ?_
    refine rw_callq cr98 rfl rfl (fun H' w hle hM => c98 hM (hle _ _ h11) rfl hj) rfl ?_
    refine asg ?_
    refine rw_nil ?_; intro w hM
    refine wp_mix_seq [] [] [0, 1, 2, 3, 4, 5, 6, 7, 8, 9, 10] S mixed (by kernel_rfl) (Heap.le_refl _) hM ?_
    refine mv ?_
    refine nck ?_
    refine fa fr88_0 ?_
    refine lo ld85 (hES _ _ Ty.typ) ?_
    refine mv ?_
    refine mv ?_
    refine nck ?_
    refine fa fr132_1 ?_
    refine lo ld12 hmS ?_
    refine rw_callvq (captured := Ty.ch) Ty.crh rfl rfl rfl (fun H' w hle2 hM => Ty.hasher hM (Heap.le_trans hES hle2) (hle2 _ _ hgS) hkey hkl) rfl ?_
    refine asg ?_
    refine rw_nil ?_; intro w hM
    refine rs hM ?_
    refine asg ?_
    refine rw_nil ?_; intro w hM
    have hx1 : ∀ x u, H x = some u → x ≠ n1 ∧ x ≠ n2 ∧ x ≠ g1 ∧ x ≠ g2 := fun x u hx => ⟨ne_of_none nn1 hx, ne_of_none nn2 hx, ne_of_none ng1 hx, ne_of_none ng2 hx⟩
    have m1 : b11 ≠ n1 := ne_of_ty h11 hS.o1 rfl rfl rfl
    have m2 : b11 ≠ n2 := ne_of_ty h11 hS.o2 rfl rfl rfl
    have m3 : b11 ≠ g1 := ne_of_ty h11 hS.h1 rfl rfl rfl
    have m4 : b11 ≠ g2 := ne_of_ty h11 hS.h2 rfl rfl rfl
    have e1 : n1 ≠ g2 := ne_of_ty hS.o1 hS.h2 rfl rfl rfl
    have e2 : n2 ≠ g1 := ne_of_ty hS.o2 hS.h1 rfl rfl rfl
    refine wp_seq ?_
    refine rs hM ?_
    refine mv ?_
    refine mv ?_
    refine rw_bin rfl rfl rfl rfl (b_and64 _ _ (K.lt _) hp2) ?_
    refine rw_bin rfl rfl rfl rfl (b_eq _ _) ?_
    refine rw_nil ?_; intro w hM
    refine wp_if (tmp_lt rfl) rfl (fun hy => ?_) (fun hy => ?_)
    ·have hlb : leftB K (t.ld + 1) t.G (8 * i + j) = true := nat_beq.2 (by have : ((K.hash (t.G.k (8 * i + j)) &&& 2 ^ (64 - (t.ld + 1)) : Nat) : Int) = 0 := beq_iff_eq.1 hy; omega)
     refine re hM ?_
     refine mv ?_
     refine asg ?_
     refine rw_nil ?_; intro w hM
     simp only [Exit.then]
     have hsel : (fun s => decide (s < 8 * i + j) && leftB K (t.ld + 1) t.G s) (8 * i + j) = false := by simp
     have hgl := hS.f1.gl_pos hTO hs hz' hsel (by rw [hS.z1]; omega)
     have htg : t.gb ≠ t1.gb := by rw [hS.b1]; exact (hx1 _ _ hg).2.2.1
     have hng' : S t1.gb = some (encG t1.n t1.G) := by rw [hS.b1]; exact hS.h1
     refine re hM ?_
     refine mv ?_
     refine mv ?_
     refine mv ?_
     refine mv ?_
     refine mv ?_
     refine rw_callE cr127 rfl rfl (fun w hM => c127g hM hD hS.o1 hng' hS.f1.ok hS.f1.noDel hgl hgS hkey htg hgS helem htg hkl hel) rfl (by nofun) ?_; rintro _ S' ⟨rfl, v, hv, h128, hnb', hng'', hrest⟩
     refine rw_nil ?_; intro w hM
     simp only [Exit.then, Exit.inBlock]
     refine re hM ?_
     refine mv ?_
     refine rw_bin rfl rfl rfl rfl (b_add64 _ 1) ?_
     refine asg ?_
     refine rw_nil ?_; intro w hM
     have hFs := hS.f1.step hTO.sl hs hz' hsel hgl hv h128
     rw [hS.b1] at hng'' hrest
     refine ⟨9 - (j + 1), _, rfl, by omega, j + 1, _, t2, _, σ2, S', rfl, by omega, Know.of ⟨rfl, rfl, rfl, rfl, rfl, rfl, rfl, rfl, congrArg u64 (show (j + 1) % 2 ^ 64 = j + 1 by omega), trivial⟩, ⟨hM, ?_, hFs.congr (fun s hs hf => ?_), hS.f2.congr (fun s hs hf => ?_), hS.z1, hS.z2, hS.l1, hS.l2, hS.b1, hS.b2, hnb', ?_, hng'', ?_⟩, ?_⟩
     ·intro x u hx
      rw [hrest x (hx1 x u hx).1 (hx1 x u hx).2.2.1]; exact hS.le _ _ hx
     ·rw [hpc]
      by_cases h1 : s = 8 * i + j
      ·subst h1; simp [hlb]
      ·simp [h1]
     ·rw [hpc]
      by_cases h1 : s = 8 * i + j
      ·subst h1; simp [hlb]
      ·simp [h1]
     ·rw [hrest _ hn12.symm e2]; exact hS.o2
     ·rw [hrest _ e1.symm hg12.symm]; exact hS.h2
     ·rw [hrest _ m1 m3]; exact h11
    ·have hlb : leftB K (t.ld + 1) t.G (8 * i + j) = false := nat_beq_f.2 (fun e => by
      rw [show (((K.hash (t.G.k (8 * i + j)) &&& 2 ^ (64 - (t.ld + 1)) : Nat) : Int) == 0) = true from beq_iff_eq.2 (by omega)] at hy; cases hy)
     refine re hM ?_
     refine mv ?_
     refine asg ?_
     refine rw_nil ?_; intro w hM
     simp only [Exit.then]
     have hsel : (fun s => decide (s < 8 * i + j) && !leftB K (t.ld + 1) t.G s) (8 * i + j) = false := by simp
     have hgl := hS.f2.gl_pos hTO hs hz' hsel (by rw [hS.z2]; omega)
     have htg : t.gb ≠ t2.gb := by rw [hS.b2]; exact (hx1 _ _ hg).2.2.2
     have hng' : S t2.gb = some (encG t2.n t2.G) := by rw [hS.b2]; exact hS.h2
     refine re hM ?_
     refine mv ?_
     refine mv ?_
     refine mv ?_
     refine mv ?_
     refine mv ?_
     refine rw_callE cr127 rfl rfl (fun w hM => c127g hM hD hS.o2 hng' hS.f2.ok hS.f2.noDel hgl hgS hkey htg hgS helem htg hkl hel) rfl (by nofun) ?_; rintro _ S' ⟨rfl, v, hv, h128, hnb', hng'', hrest⟩
     refine rw_nil ?_; intro w hM
     simp only [Exit.then, Exit.inBlock]
     refine re hM ?_
     refine mv ?_
     refine rw_bin rfl rfl rfl rfl (b_add64 _ 1) ?_
     refine asg ?_
     refine rw_nil ?_; intro w hM
     have hFs := hS.f2.step hTO.sl hs hz' hsel hgl hv h128
     rw [hS.b2] at hng'' hrest
     refine ⟨9 - (j + 1), _, rfl, by omega, j + 1, t1, _, σ1, _, S', rfl, by omega, Know.of ⟨rfl, rfl, rfl, rfl, rfl, rfl, rfl, rfl, congrArg u64 (show (j + 1) % 2 ^ 64 = j + 1 by omega), trivial⟩, ⟨hM, ?_, hS.f1.congr (fun s hs hf => ?_), hFs.congr (fun s hs hf => ?_), hS.z1, hS.z2, hS.l1, hS.l2, hS.b1, hS.b2, ?_, hnb', ?_, hng''⟩, ?_⟩
     ·intro x u hx
      rw [hrest x (hx1 x u hx).2.1 (hx1 x u hx).2.2.2]; exact hS.le _ _ hx
     ·rw [hpc]
      by_cases h1 : s = 8 * i + j
      ·subst h1; simp [hlb]
      ·simp [h1]
     ·rw [hpc]
      by_cases h1 : s = 8 * i + j
      ·subst h1; simp [hlb]
      ·simp [h1]
     ·rw [hrest _ hn12 e1]; exact hS.o1
     ·rw [hrest _ e2.symm hg12]; exact hS.h1
     ·rw [hrest _ m2 m4]; exact h11
  ·have hj : j = 8 := by have := of_decide_eq_false hc; omega
   subst hj
   refine wp_exit ?_
   simp only [Exit.then, Exit.inBlock, if_true]
   refine re hM ?_
   refine mv ?_
   refine rw_bin rfl rfl rfl rfl (b_add64 _ 1) ?_
   refine asg ?_
   refine rw_nil ?_; intro w hM
   exact ⟨t.n + 1 - (i + 1), _, rfl, by omega, i + 1, t1, t2, σ1, σ2, S, rfl, by omega, Know.of ⟨rfl, rfl, rfl, rfl, rfl, rfl, congrArg u64 (show (i + 1) % 2 ^ 64 = i + 1 by omega), trivial⟩, ⟨hM, hS.le, hS.f1, hS.f2, hS.z1, hS.z2, hS.l1, hS.l2, hS.b1, hS.b2, hS.o1, hS.o2, hS.h1, hS.h2⟩⟩
 ·have hi2 : i = t.n := by have : ¬ (i : Int) ≤ ((t.n - 1 : Nat) : Int) := of_decide_eq_false hc; omega
  subst hi2
  refine wp_exit ?_
  simp only [Exit.then, Exit.inBlock, if_true]
  have hle := hS.le
  have hTd : ∀ i, i < 2 ^ m.gd → n1 ≠ d i ∧ n2 ≠ d i := fun i hi => ⟨(ne_of_none nn1 (hT i hi)).symm, (ne_of_none nn2 (hT i hi)).symm⟩
  refine rs hM ?_
  refine mv ?_
  refine mv ?_
  refine mv ?_
  refine mv ?_
  refine rw_callE cr140 rfl rfl (fun w hM => c140 hM (hle _ _ hb) hL hgs hgd hp (hle _ _ hd) hDir (fun i hi => hle _ _ (hT i hi)) hi0 hS.o1 hS.o2 (by rw [ht]; exact hS.l1) (by rw [ht]; exact hS.l2) hn12 (fun i hi => (hTd i hi).1) (fun i hi => (hTd i hi).2)) rfl (by nofun) ?_; rintro _ S4 ⟨rfl, db', hpp, hnew, hbm, hdb, htabs, ho1, ho2, hrest⟩
  refine rw_nil ?_; intro w hM
  simp only [ht] at hpp hnew hbm hdb htabs ho1 ho2
  have ht4 := htabs i0 hi0
  rw [ht] at ht4
  refine re hM ?_
  refine mv ?_
  refine nck ?_
  refine fa fr158_4 ?_
  refine rw_store1 (v := .int .i64 _) sz3 rfl rfl rfl rfl ht4 rfl rfl (by nofun) (fun S22 hS22 kS22 => ?_)
  refine rw_nil ?_; intro w hM
  have hx1 : ∀ x u, H x = some u → x ≠ n1 ∧ x ≠ n2 ∧ x ≠ g1 ∧ x ≠ g2 := fun x u hx => ⟨ne_of_none nn1 hx, ne_of_none nn2 hx, ne_of_none ng1 hx, ne_of_none ng2 hx⟩
  have q1 : n1 ≠ d i0 := (hTd i0 hi0).1
  have q2 : n2 ≠ d i0 := (hTd i0 hi0).2
  have qb : bm ≠ d i0 := ne_of_ty hb hb0 rfl rfl rfl
  have qd : db' ≠ d i0 := ne_of_ty hdb ht4 rfl rfl rfl
  have keepG : ∀ g n G, S g = some (encG n G) → S22 g = some (encG n G) := fun g n G hgx => by
   have a1 : g ≠ bm := ne_of_ty hgx (hle _ _ hb) rfl rfl rfl
   have a2 : g ≠ db' := by
    rcases hnew with h | h
    ·rw [h]; exact ne_of_ty hgx (hle _ _ hd) rfl rfl rfl
    ·exact ne_of_none h hgx
   have a3 : g ≠ n1 := ne_of_ty hgx hS.o1 rfl rfl rfl
   have a4 : g ≠ n2 := ne_of_ty hgx hS.o2 rfl rfl rfl
   have a5 : ∀ i, i < 2 ^ m.gd → g ≠ d i := fun i hi => ne_of_ty hgx (hle _ _ (hT i hi)) rfl rfl rfl
   rw [kS22 _ (a5 i0 hi0)]; exact hrest _ _ hgx a1 a2 a3 a4 a5
  refine post_none rfl ⟨_, S22, rfl, hM, ?_⟩
  refine ⟨n1, n2, { t1 with index := ((base (dblM m db' (Nat.beq t.ld m.gd)).gd t.ld (if Nat.beq t.ld m.gd then 2 * i0 else i0) : Nat) : Int) }, { t2 with index := ((base (dblM m db' (Nat.beq t.ld m.gd)).gd t.ld (if Nat.beq t.ld m.gd then 2 * i0 else i0) + 2 ^ ((dblM m db' (Nat.beq t.ld m.gd)).gd - (t.ld + 1)) : Nat) : Int) }, σ1, σ2, db', ?_⟩
  rw [ht]
  refine ⟨rfl, hn12, by show t1.gb ≠ t2.gb; rw [hS.b1, hS.b2]; exact hg12, nn1, nn2, by show H t1.gb = none; rw [hS.b1]; exact ng1, by show H t2.gb = none; rw [hS.b2]; exact ng2, (hS.f1.congr (fun s hs hf => by simp [hs])).reindex _, (hS.f2.congr (fun s hs hf => by simp [hs])).reindex _, hS.z1, hS.z2, hS.l1, hS.l2, rfl, rfl,
   (kS22 _ q1).trans ho1, keepG t1.gb _ _ (by rw [hS.b1]; exact hS.h1), (kS22 _ q2).trans ho2, keepG t2.gb _ _ (by rw [hS.b2]; exact hS.h2), hpp, ?_, (kS22 _ qb).trans hbm, (kS22 _ qd).trans hdb, fun i hi hne => (kS22 _ hne).trans (htabs i hi), ?_, fun x u hx x1 x2 x3 => ?_⟩
  ·rcases hnew with h | h
   ·exact .inl h
   ·exact .inr (le_none hle h)
  ·rw [hS22]; rfl
  ·rw [kS22 _ (x3 i0 hi0)]; exact hrest x u (hle _ _ hx) x1 x2 (hx1 x u hx).1 (hx1 x u hx).2.1 x3
end
section
variable {w0 w : World} {H : Heap}
/-- What a rehash leaves. -/
def Rehashed (K : KT) (H : Heap) (bm db : Nat) (m : Mp) (d : Nat → Nat) (T : Nat → Tb) (i0 : Nat) (v : Value) (S : Heap) : Prop :=
 ((T (d i0)).n ≤ 64 ∧ Grown K H (d i0) db m (T (d i0)) (fun i => some ⟨d i, 0, none⟩) (base m.gd (T (d i0)).ld i0) v S) ∨ ((T (d i0)).n = 128 ∧ SplitS K H bm db m d T i0 v S)
/-- What is asked of a map with tables in memory, near table i0. -/
structure Near (K : KT) (H : Heap) (bm db : Nat) (m : Mp) (d : Nat → Nat) (T : Nat → Tb) (i0 : Nat) : Prop where
 mp : H bm = some (encM m)
 len : m.dirLen = 2 ^ m.gd
 gs : m.gs = 64 - m.gd
 gd : m.gd ≤ 43
 dirp : m.dirp = some ⟨db, 0, none⟩
 dir : H db = some (encD m.dirLen (fun i => some ⟨d i, 0, none⟩))
 dok : DirOK m.gd d T
 tabs : ∀ i, i < 2 ^ m.gd → H (d i) = some (encT (T (d i)))
 lt : i0 < 2 ^ m.gd
 grs : H (T (d i0)).gb = some (encG (T (d i0)).n (T (d i0)).G)
 tok : TOK K (T (d i0))
theorem pow_cases {K : KT} {t : Tb} (h : TOK K t) : t.n ≤ 64 ∨ t.n = 128 := by
 obtain ⟨p, hp, e⟩ := h.pow
 rcases Nat.lt_or_ge p 7 with h1 | h1
 ·left; rw [e]; have : 2 ^ p ≤ 2 ^ 6 := Nat.pow_le_pow_right (by omega) (by omega); omega
 ·right; rw [e, show p = 7 by omega]
theorem c129 (hM : Mem w0 w H) (hD : HasDb w0) {K : KT} {E : Heap} {bty : Nat} {nu : Bool} (hE : E.le H) (Ty : TypOK K w0 E bty nu) {bm db i0 : Nat} {m : Mp} {d : Nat → Nat} {T : Nat → Tb} (hN : Near K H bm db m d T i0) :
  Calls Tryz.prog 129 [.pointer (some ⟨d i0, 0, none⟩), .pointer (some ⟨bty, 0, none⟩), .pointer (some ⟨bm, 0, none⟩)].toArray w (Gives w0 fun v S => v = .tuple #[] ∧ Rehashed K H bm db m d T i0 v S) := by
 have hb0 := hN.tabs i0 hN.lt
 have hn := hN.tok.npos
 have hcap := hN.tok.cap
 have hld := hN.dok.ld i0 hN.lt
 have hgd := hN.gd
 have hfit := base_fit hld hN.lt
 have hlen : m.dirLen < 2 ^ 60 := by rw [hN.len]; exact Nat.pow_lt_pow_right (by omega) (by omega)
 refine calls_start Tryz.func129 rfl Tryz.ntmps129 (Nat.le_of_ble_eq_true rfl) ?_
 refine rs hM ?_
 refine mv ?_
 refine nck ?_
 refine fa fr158_1 ?_
 refine lo ld152 hb0 ?_
 refine rw_bin rfl rfl rfl rfl (b_mul16 2 _ (by omega)) ?_
 refine rw_assign (v := u16 (16 * (T (d i0)).n)) rfl rfl (congrArg u16 (show 2 * (T (d i0)).cap = 16 * (T (d i0)).n by omega)) ?_
 refine rw_nil ?_; intro w hM
 refine wp_seq ?_
 refine rs hM ?_
 refine mv ?_
 refine rw_bin rfl rfl rfl rfl (b_le _ _) ?_
 refine rw_nil ?_; intro w hM
 refine wp_if (tmp_lt rfl) rfl (fun hc => ?_) (fun hc => ?_)
 ·have h64 : (T (d i0)).n ≤ 64 := by have : ((16 * (T (d i0)).n : Nat) : Int) ≤ 1024 := of_decide_eq_true hc; omega
  refine rs hM ?_
  refine mv ?_
  refine mv ?_
  refine mv ?_
  refine mv ?_
  refine rw_callE cr135 rfl rfl (fun w hM => c135 hM hD hE Ty hb0 hN.grs hN.mp hN.tok h64 hN.dirp hN.dir (hN.dok.idx i0 hN.lt) hld (by omega) (by rw [hN.len]; exact hfit) hlen) rfl (by nofun) ?_; rintro v S2 hv
  refine rw_nil ?_; intro w hM
  refine wp_ret ?_
  simp only [Exit.then]
  refine post_none' rfl ?_
  have hv1 : v = .tuple #[] := by obtain ⟨_, _, _, h, _⟩ := hv; exact h
  exact ⟨_, S2, rfl, hM, rfl, .inl ⟨h64, hv1 ▸ hv⟩⟩
 ·have h128 : (T (d i0)).n = 128 := by
   have : ¬ ((16 * (T (d i0)).n : Nat) : Int) ≤ 1024 := of_decide_eq_false hc
   rcases pow_cases hN.tok with h | h <;> omega
  refine wp_skip ?_
  refine re hM ?_
  refine mv ?_
  refine mv ?_
  refine mv ?_
  refine rw_callE cr136 rfl rfl (fun w hM => c136 hM hD hE Ty hN.mp hN.len hN.gs hN.gd hN.dirp hN.dir hN.dok hN.tabs hN.lt hN.grs hN.tok) rfl (by nofun) ?_; rintro v S2 hv
  refine rw_nil ?_; intro w hM
  have hv1 : v = .tuple #[] := by obtain ⟨_, _, _, _, _, _, _, h, _⟩ := hv; exact h
  exact post_none rfl ⟨_, S2, rfl, hM, rfl, .inr ⟨h128, hv1 ▸ hv⟩⟩
/-- One entry more, of key k in slot s. -/
structure PutOne (K : KT) (t : Tb) (k s : Nat) (t' : Tb) : Prop where
 n : t'.n = t.n
 ld : t'.ld = t.ld
 index : t'.index = t.index
 gb : t'.gb = t.gb
 ok : TOK K t'
 lt : s < 8 * t.n
 free : ¬ t.G.c s < 128
 full : ∀ u, t'.G.c u < 128 ↔ t.G.c u < 128 ∨ u = s
 key : ∀ u, t'.G.k u = if u = s then k else t.G.k u
 elem : ∀ u, t'.G.e u = t.G.e u
 used : t'.used = t.used + 1
 gl : t.gl ≤ t'.gl + 1
/-- What PutSlot leaves. -/
def PutS (K : KT) (nu : Bool) (H : Heap) (bm db : Nat) (m : Mp) (d : Nat → Nat) (T : Nat → Tb) (i0 k : Nat) (v : Value) (S : Heap) : Prop :=
 let t := T (d i0)
 match find K t.n t.G k with
 | some s => v = .tuple #[.pointer (some ⟨t.gb, 17 * (s / 8) + 9 + s % 8, none⟩), .bool true] ∧ S t.gb = some (encG t.n (if nu then t.G.setK s k else t.G)) ∧ ∀ x u, H x = some u → x ≠ t.gb → S x = some u
 | none => (∃ s t', v = .tuple #[.pointer (some ⟨t.gb, 17 * (s / 8) + 9 + s % 8, none⟩), .bool true] ∧ PutOne K t k s t' ∧ S (d i0) = some (encT t') ∧ S t.gb = some (encG t'.n t'.G) ∧ S bm = some (encM { m with used := m.used + 1 }) ∧ ∀ x u, H x = some u → x ≠ t.gb → x ≠ d i0 → x ≠ bm → S x = some u) ∨
   (v = .tuple #[.pointer none, .bool false] ∧ t.gl = 0 ∧ Rehashed K H bm db m d T i0 (.tuple #[]) S)
theorem free_low {K : KT} {n g : Nat} {G : Gr} (hS : SlotsOK K n G) (hg : g < n) (h0 : mk8 (fun q => decide (128 ≤ G.at g q)) ≠ 0) : G.c (8 * g + low (mk8 fun q => decide (128 ≤ G.at g q))) = 128 ∨ G.c (8 * g + low (mk8 fun q => decide (128 ≤ G.at g q))) = 254 := by
 have h1 := low_in _ (mk8_lt _) h0
 have h2 := low_lt (mk8 fun q => decide (128 ≤ G.at g q))
 rw [mk8_bit _ _ h2] at h1
 have h3 : 128 ≤ G.c (8 * g + low (mk8 fun q => decide (128 ≤ G.at g q))) := of_decide_eq_true h1
 rcases hS.st (8 * g + low (mk8 fun q => decide (128 ≤ G.at g q))) (by omega) with h4 | h4
 ·omega
 ·exact h4
/-- What the loop over the probes knows of the first tombstone: none yet, or it lies in slot s. -/
def FirstDel (t : Tb) (h i : Nat) : Option Nat → Prop
 | none => ∀ j, j < i → ∀ q, q < 8 → t.G.c (8 * pr t.n h j + q) < 128
 | some s => t.G.c s = 254 ∧ PutAt t.n t.G h s
def fdRef (gb : Nat) : Option Nat → Value
 | none => .pointer none
 | some s => .pointer (some ⟨gb, 17 * (s / 8), none⟩)
/-- Slot s of the table tc waits for key k. -/
structure Ready (K : KT) (t tc : Tb) (k s : Nat) : Prop where
 n : tc.n = t.n
 cap : tc.cap = t.cap
 ld : tc.ld = t.ld
 index : tc.index = t.index
 gb : tc.gb = t.gb
 used : tc.used = t.used
 ok : tc.G.ok
 lt : s < 8 * t.n
 free : ¬ t.G.c s < 128
 full : ∀ u, tc.G.c u < 128 ↔ t.G.c u < 128
 key : tc.G.k = t.G.k
 elem : tc.G.e = t.G.e
 gl : t.gl ≤ tc.gl
 le : tc.gl ≤ 7 * t.n
 put : 0 < tc.gl → TOK K { tc with used := tc.used + 1, gl := tc.gl - 1, G := tc.G.put s k (tc.G.e s) (K.hash k % 128) }
 zero : tc.gl = 0 → tc = t
theorem Ready.one {K : KT} {t tc : Tb} {k s : Nat} (h : Ready K t tc k s) (hg : 0 < tc.gl) : PutOne K t k s { tc with used := tc.used + 1, gl := tc.gl - 1, G := tc.G.put s k (tc.G.e s) (K.hash k % 128) } := by
 refine ⟨h.n, h.ld, h.index, h.gb, h.put hg, h.lt, h.free, fun u => ?_, fun u => ?_, fun u => ?_, ?_, ?_⟩
 ·show (tc.G.put s k _ _).c u < 128 ↔ _
  rw [Gr.put_c]
  by_cases e : u = s
  ·rw [if_pos e]; exact ⟨fun _ => .inr e, fun _ => Nat.mod_lt _ (by decide)⟩
  ·rw [if_neg e, h.full u]; exact ⟨.inl, fun hx => hx.resolve_right e⟩
 ·show (tc.G.put s k _ _).k u = _
  rw [Gr.put_k, h.key]
 ·show (tc.G.put s k _ _).e u = _
  rw [Gr.put_e, h.elem]; split
  ·rename_i e; rw [e]
  ·rfl
 ·show tc.used + 1 = _; rw [h.used]
 ·show t.gl ≤ tc.gl - 1 + 1; have := h.gl; omega
theorem Tb.eta {t : Tb} {u g : Nat} {G : Gr} (h1 : u = t.used) (h2 : g = t.gl) (h3 : G = t.G) : { t with used := u, gl := g, G := G } = t := by subst h1 h2 h3; rfl
/-- A tombstone's slot. -/
theorem Ready.del {K : KT} {t : Tb} (hT : TOK K t) {k s : Nat} (hk : k < 2 ^ 64) (h254 : t.G.c s = 254) (hp : PutAt t.n t.G (K.hash k) s) (hno : find K t.n t.G k = none) : Ready K t { t with gl := t.gl + 1 } k s := by
 have h1 := hT.room
 have h2 : 0 < cnt (isDel t.G) (8 * t.n) := cnt_pos hp.1 (by simp [isDel, h254])
 refine ⟨rfl, rfl, rfl, rfl, rfl, rfl, hT.sl.ok, hp.1, by omega, fun _ => Iff.rfl, rfl, rfl, Nat.le_succ _, by show t.gl + 1 ≤ _; omega, fun _ => ?_, fun h => ?_⟩
 ·have := hT.put_deleted (e := t.G.e s) hk (hT.sl.ok.2.2 s) hp h254 (find_none_iff hno)
  exact this
 ·exact absurd h (Nat.succ_ne_zero _)
/-- An empty slot, tombstones pruned or not. -/
theorem Ready.empty {K : KT} {t : Tb} (hT : TOK K t) {k s i : Nat} (hk : k < 2 ^ 64) (h128 : t.G.c s = 128) (hs : s < 8 * t.n) (hi : i < t.n) (hpi : pr t.n (K.hash k) i = s / 8) (hfd : FirstDel t (K.hash k) i none) (hno : find K t.n t.G k = none) {P : Nat → Bool} (hP : Prunable K t.n t.G P) :
  Ready K t { t with gl := t.gl + cnt P (8 * t.n), G := t.G.unpoint P } k s := by
 have hT' := hT.prune hP
 have h1 := hT'.room
 have hPs : P s = false := by
  cases hx : P s with
  | false => rfl
  | true => have := (hP.del s hx).2; omega
 have hc : (t.G.unpoint P).c s = 128 := by rw [Gr.unpoint_c, hPs]; simp [h128]
 refine ⟨rfl, rfl, rfl, rfl, rfl, rfl, hT'.sl.ok, hs, by omega, hP.full, rfl, rfl, Nat.le_add_right _ _, by simp only at h1 ⊢; omega, fun hgl => ?_, fun h => ?_⟩
 ·refine hT'.put_empty (e := (t.G.unpoint P).e s) hk (hT.sl.ok.2.2 s) ⟨hs, .inl hc, i, hi, hpi, fun j hj q hq => ?_⟩ hc (fun u hu hf => find_none_iff hno u hu ((hP.full u).1 hf)) hgl
  show (t.G.unpoint P).c (8 * pr t.n (K.hash k) j + q) ≠ 128
  rw [Gr.unpoint_c]
  have := hfd j hj q hq
  split
  ·rename_i hx; have := (hP.del _ hx).2; omega
  ·omega
 ·have h2 : t.gl + cnt P (8 * t.n) = 0 := h
  have hPf : ∀ u, P u = false := fun u => by
   cases hx : P u with
   | false => rfl
   | true => have := cnt_pos (hP.del u hx).1 hx; omega
  have : P = fun _ => false := funext hPf
  subst this
  refine Tb.eta rfl (by omega) (Gr.unpoint_none _)
end
end Go.Proofs.YtddpfkcofmfmpaaGreatDoor
