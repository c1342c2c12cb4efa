/-
  The reference's next: what it takes is taken. Conditions stand in the contract. The reference in memory, turned. Conditions stand in each lemma.
  Conditions stand in each lemma.
-/
import Derived.Test.YtddpfkcofmfmpaaGreatDoorQ25
namespace Go.Proofs.YtddpfkcofmfmpaaGreatDoor
open Go Go.RowKit
set_option maxRecDepth 20000
section
variable {w0 w : World} {H : Heap} {H0 : Heap} {bM : Nat} {fl : Bool} {al : Value} {ix : Nat → ItM} {M : Mdl} {K : KT}
theorem wf_i64 {n : Nat} (h : n < 9223372036854775808) : (Lit.int .i64 (n : Int)).wf = true := by
 show (decide ((-9223372036854775808 : Int) ≤ (n : Int)) && decide ((n : Int) ≤ (9223372036854775807 : Int))) = true
 rw [decide_eq_true (by omega), decide_eq_true (by omega)]; rfl
theorem seenF_at (seen : Nat → Bool) (i : Nat) : (seenF seen (i : Nat)).getD (.bool false) = .bool (seen i) := by
 unfold seenF
 rw [Int.toNat_natCast]
 cases seen i with
 | true => rw [if_pos ⟨Int.natCast_nonneg i, rfl⟩]; rfl
 | false => rw [if_neg (fun h => by cases h.2)]; rfl
theorem seenF_flip (seen : Nat → Bool) (i : Nat) (a : Int) : (if a = (i : Int) then some (.bool true) else seenF seen a) = seenF (flip1 seen i) a := by
 by_cases h : a = (i : Int)
 ·subst h
  rw [if_pos rfl]
  unfold seenF
  rw [if_pos ⟨Int.natCast_nonneg i, by rw [Int.toNat_natCast]; exact flip1_self _ _⟩]
 ·rw [if_neg h]
  unfold seenF
  by_cases h0 : 0 ≤ a
  ·have : a.toNat ≠ i := fun e => h (by omega)
   rw [flip1_ne _ this]
  ·rw [if_neg (fun e => h0 e.1), if_neg (fun e => h0 e.1)]
theorem seenF_none (a : Int) : seenF (fun _ => false) a = none := if_neg fun h => by cases h.2
/-- An iteration is over. -/
theorem MdMem.offIt {S : Heap} {q : Nat} (h : MdMem H0 H bM fl al ix M) (hS : S bM = some (encMd fl al (setIx ix q { ix q with on := false }))) (hk : ∀ x, x ≠ bM → S x = H x) : MdMem H0 S bM fl al (setIx ix q { ix q with on := false }) { M with its := setIt M.its q { M.its q with on := false } } := by
 have hm : ∀ {x : Nat} {u : Obj}, H x = some u → objTy u ≠ 118 → S x = some u := fun {x u} hx hn => (hk x fun e => by rw [e, h.blk] at hx; cases hx; exact hn rfl).trans hx
 refine ⟨hS, h.old, h.all.move fun x u hx ho => hm hx (by obtain ⟨cur, hc⟩ := h.all.blk ho; rw [hc] at hx; cases hx; show (121 : Nat) ≠ 118; decide), h.aold, fun p hp => ?_, fun p1 p2 bs h1 h2 h3 h4 h5 h6 => ?_⟩
 ·show ItMem H0 S M.all.length (setIx ix q { ix q with on := false } p) (setIt M.its q { M.its q with on := false } p)
  unfold setIx setIt
  by_cases e : p = q
  ·rw [if_pos e, if_pos e]; exact ⟨rfl, fun ho => by cases ho⟩
  ·rw [if_neg e, if_neg e]
   have hI := h.its p hp
   refine ⟨hI.eq, fun ho => ?_⟩
   obtain ⟨bs, o, a1, a2, a3, a4, a5, a6, a7⟩ := hI.live ho
   exact ⟨bs, o, a1, a2, hm a3 (by rw [a4.plain]; decide), a4, a5.move fun x u hx ho => hm hx (by obtain ⟨cur, hc⟩ := a5.blk ho; rw [hc] at hx; cases hx; show (3 : Nat) ≠ 118; decide), a6, a7⟩
 ·have h3' : (setIt M.its q { M.its q with on := false } p1).on = true := h3
  have h4' : (setIt M.its q { M.its q with on := false } p2).on = true := h4
  unfold setIt at h3' h4'
  unfold setIx at h5 h6
  split at h3'
  ·cases h3'
  ·rename_i e1
   split at h4'
   ·cases h4'
   ·rename_i e2
    rw [if_neg e1] at h5; rw [if_neg e2] at h6
    exact h.dist p1 p2 bs h1 h2 h3' h4' h5 h6
/-- An entry is seen. -/
theorem MdMem.saw {S : Heap} {q i bs : Nat} {o o' : Obj} (h : MdMem H0 H bM fl al ix M) (hq : q < 8) (hon : (M.its q).on = true) (hbs : (ix q).sn = some bs) (hob : H bs = some o) (hof : MapOf .i64 o (seenF (M.its q).seen)) (hS : S bs = some o') (ho' : MapOf .i64 o' (seenF (flip1 (M.its q).seen i))) (hk : ∀ x, x ≠ bs → S x = H x) : MdMem H0 S bM fl al ix { M with its := setIt M.its q { M.its q with seen := flip1 (M.its q).seen i } } := by
 have hm : ∀ {x : Nat} {u : Obj}, H x = some u → objTy u ≠ 0 → S x = some u := fun {x u} hx hn => (hk x fun e => by rw [e, hob] at hx; cases hx; exact hn hof.plain).trans hx
 have hon' : ∀ p, (setIt M.its q { M.its q with seen := flip1 (M.its q).seen i } p).on = (M.its p).on := fun p => by
  unfold setIt
  by_cases e : p = q
  ·rw [if_pos e, e]
  ·rw [if_neg e]
 refine ⟨hm h.blk (by show (118 : Nat) ≠ 0; decide), h.old, h.all.move fun x u hx ho => hm hx (by obtain ⟨cur, hc⟩ := h.all.blk ho; rw [hc] at hx; cases hx; show (121 : Nat) ≠ 0; decide), h.aold, fun p hp => ?_, fun p1 p2 b h1 h2 h3 h4 => h.dist p1 p2 b h1 h2 ((hon' p1).symm.trans h3) ((hon' p2).symm.trans h4)⟩
 have hI := h.its p hp
 show ItMem H0 S M.all.length (ix p) (setIt M.its q { M.its q with seen := flip1 (M.its q).seen i } p)
 refine ⟨hI.eq.trans (hon' p).symm, fun ho => ?_⟩
 rw [hon' p] at ho
 obtain ⟨bp, op, a1, a2, a3, a4, a5, a6, a7⟩ := hI.live ho
 have hw : Sl S 3 1 (ix p).was (M.its p).was.length (encNs (M.its p).was) := a5.move fun x u hx ho => hm hx (by obtain ⟨cur, hc⟩ := a5.blk ho; rw [hc] at hx; cases hx; show (3 : Nat) ≠ 0; decide)
 unfold setIt
 by_cases e : p = q
 ·rw [if_pos e]
  subst e
  rw [hbs] at a1; cases a1
  exact ⟨_, o', hbs, a2, hS, ho', hw, a6, a7⟩
 ·rw [if_neg e]
  have hne : bp ≠ bs := fun e' => e (h.dist p q bs hp hq ho hon (e' ▸ a1) hbs)
  exact ⟨bp, op, a1, a2, (hk bp hne).trans a3, a4, hw, a6, a7⟩
theorem c71 (hM : Mem w0 w H) (hP : MdMem H0 H bM fl al ix M) (hle0 : H0.le H) (hK : ∀ a b, K.eqk a b = sameB fl a b) (hN : ∀ a, K.nan a = nanB fl a) (hn : M.all.length ≤ 6000) {q : Nat} (hq : q < 8) {a : Ans} {t : Itr} (hA : AccNext K M.all (M.its q) a t) :
  Calls Tryz.prog 71 [.pointer (some ⟨bM, 0, none⟩), .pointer (some ⟨bM, 2 + q * 3, none⟩), .agg (ansC a).toArray].toArray w (Gives w0 fun v S => v = .bool true ∧ H0.le S ∧ ∃ ix', MdMem H0 S bM fl al ix' { M with its := setIt M.its q t }) := by
 have hb := hP.blk
 have hI := hP.its q hq
 refine calls_start Tryz.func71 rfl Tryz.ntmps71 (Nat.le_of_ble_eq_true rfl) ?_
 refine rs hM ?_
 refine rw_boxN (v := .agg (ansC a).toArray) rfl rfl rfl (fun b5 G5 n5 l5 e5 k5 => ?_)
 refine asg ?_
 refine rw_nil ?_; intro w hM
 have hP5 := hP.mono l5
 have hb5 := l5 _ _ hb
 have hle5 := Heap.le_trans hle0 l5
 have fin0 : ∀ {w : World} {S : Heap} {ix' : Nat → ItM}, Mem w0 w S → H0.le S → MdMem H0 S bM fl al ix' { M with its := setIt M.its q t } → Gives w0 (fun v S => v = .bool true ∧ H0.le S ∧ ∃ ix', MdMem H0 S bM fl al ix' { M with its := setIt M.its q t }) (.returned (.bool true)) w := fun hM h1 h2 => ⟨_, _, rfl, hM, rfl, h1, _, h2⟩
 cases hA with
 | off hoff =>
  refine wp_seq ?_
  refine rs hM ?_
  refine mv ?_
  refine nck ?_
  refine fa fr115_0 ?_
  refine rw_load (v := .bool false) ld4 rfl rfl rfl hb5 (by rw [Nat.add_zero, mdC_on hq, hI.eq, hoff]) ?_
  refine rw_un rfl rfl rfl (u_not _) ?_
  refine rw_nil ?_; intro w hM
  refine wp_if (tmp_lt rfl) rfl (fun hc => ?_) (by nofun)
  refine rs hM ?_
  refine rw_loadA (ansC Ans.no) ld44 rfl rfl rfl e5 rfl ?_
  refine rw_build bd44_ rfl rfl rfl ?_
  refine rw_bin rfl rfl rfl rfl (eq44_same Ans.no) ?_
  refine asg ?_
  refine rw_nil ?_; intro w hM
  refine wp_ret ?_
  simp only [Exit.then]
  exact post_tmp (v := .bool true) rfl rfl rfl (fin0 hM hle5 (by rw [setIt_same]; exact hP5))
 | fin hon hall =>
  obtain ⟨bs, o, a1, a2, a3, a4, a5, a6, a7⟩ := hI.live hon
  obtain ⟨ao, cap, hal⟩ := hP.all.shape
  obtain ⟨wo, wcap, hwas⟩ := a5.shape
  refine wp_seq ?_
  refine rs hM ?_
  refine mv ?_
  refine nck ?_
  refine fa fr115_0 ?_
  refine rw_load (v := .bool true) ld4 rfl rfl rfl hb5 (by rw [Nat.add_zero, mdC_on hq, hI.eq, hon]) ?_
  refine rw_un rfl rfl rfl (u_not _) ?_
  refine rw_nil ?_; intro w hM
  refine wp_if (tmp_lt rfl) rfl (by nofun) (fun hc => ?_)
  refine wp_skip ?_
  refine wp_seq ?_
  refine rs hM ?_
  refine fa fr44_0 ?_
  refine lo (v := .bool false) ld4 e5 ?_
  refine rw_un rfl rfl rfl (u_not _) ?_
  refine rw_nil ?_; intro w hM
  refine wp_if (tmp_lt rfl) rfl (fun hc => ?_) (by nofun)
  refine rs hM ?_
  refine mv ?_
  refine nck ?_
  refine fa fr115_0 ?_
  refine rw_storeE (v := .bool false) (c' := mdC fl al (setIx ix q { ix q with on := false })) sz4 rfl rfl rfl rfl hb5 (by rw [Nat.add_zero]; exact mdC_off hq) (by show 2 + q * 3 + 0 < 26; omega) rfl (by nofun) (fun S4 hS4 kS4 => ?_)
  refine rw_nil ?_; intro w hM
  have hP4 := hP5.offIt (q := q) hS4 kS4
  have hb4 := hP4.blk
  have hI4 : S4 bs = some o := (kS4 _ fun e => by rw [← e] at hb5; exact ne_of_ty hb5 (l5 _ _ a3) rfl a4.plain rfl rfl).trans (l5 _ _ a3)
  have hw4 : Sl S4 3 1 (ix q).was (M.its q).was.length (encNs (M.its q).was) := a5.move fun x u hx ho => (kS4 _ fun e => by obtain ⟨cur, hc⟩ := a5.blk ho; rw [e] at hc; rw [hc] at hb; cases hb).trans (l5 _ _ hx)
  have e54 : S4 b5 = some (.cells (ansC Ans.no).toArray 44 (0, 0)) := (kS4 _ fun e => by rw [e] at n5; rw [n5] at hb; cases hb).trans e5
  have hle4 : H0.le S4 := fun x u hx => (kS4 _ fun e => by rw [e, hP.old] at hx; cases hx).trans (hle5 _ _ hx)
  have hrw := hw4.rd (w0 := w0)
  have hra := hP4.all.rd (w0 := w0)
  refine wp_seq ?_
  refine rs hM ?_
  refine mv ?_
  refine nck ?_
  refine fa fr115_1 ?_
  refine rw_load (v := .slice wo (M.its q).was.length wcap) ld47 rfl rfl rfl hb4 (by rw [mdC_was hq]; show some (setIx ix q _ q).was = _; unfold setIx; rw [if_pos rfl, hwas]) ?_
  refine rw_len Tryz.underlying47 rfl rfl rfl ?_
  refine mv ?_
  refine rw_nil ?_; intro w hM
  refine wp_block ?_
  refine wp_loop_s (fun c f w => ∃ i, c = (M.its q).was.length - i ∧ i ≤ (M.its q).was.length ∧ Know f [(0, .pointer (some ⟨bM, 0, none⟩)), (1, .pointer (some ⟨bM, 2 + q * 3, none⟩)), (5, .pointer (some ⟨b5, 0, none⟩)), (29, .slice wo (M.its q).was.length wcap), (30, i64 ((M.its q).was.length : Nat)), (31, i64 (i : Nat))] ∧ Mem w0 w S4) ((M.its q).was.length - 0) ?_ ?_
  ·exact ⟨0, rfl, Nat.zero_le _, Know.of ⟨rfl, rfl, rfl, rfl, rfl, rfl, trivial⟩, hM⟩
  clear hM
  rintro c f w ⟨i, rfl, hi, ⟨f1, rfl⟩, hM⟩
  refine rs hM ?_
  refine rw_bin rfl rfl rfl rfl (b_lt _ _) ?_
  refine rw_nil ?_; intro w hM
  refine wp_seq ?_
  refine wp_if (tmp_lt rfl) rfl (fun hz => ?_) (fun hz => ?_)
  ·have hil : i < (M.its q).was.length := by have := of_decide_eq_true hz; omega
   obtain ⟨j, hj⟩ : ∃ j, (M.its q).was[i]? = some j := ⟨_, List.getElem?_eq_getElem hil⟩
   have hjn := a7.2 j (List.mem_of_getElem? hj)
   have hwl := a7.1
   obtain ⟨x, hx⟩ : ∃ x, M.all[j]? = some x := ⟨_, List.getElem?_eq_getElem hjn⟩
   obtain ⟨b, o1, cap1, hsl, hr⟩ := hrw.some (by omega)
   rw [hwas] at hsl
   cases hsl
   obtain ⟨b2, o2, cap2, hsl2, hr2⟩ := hra.some (show 0 < M.all.length by omega)
   rw [hal] at hsl2
   cases hsl2
   refine wp_skip ?_
   refine wp_seq ?_
   refine wp_block ?_
   have hent := rd_step entE_len hr2 hx (Heap.le_refl _)
   refine rs hM ?_
   refine rw_indexAddr rfl rfl rfl rfl (x_slice Tryz.underlying47 sz3 hil) ?_
   refine rw_loadG (v := i64 (j : Nat)) ld3 rfl rfl rfl (fun H' w hle hM => by have := rd_step (size := 1) (f := fun i : Nat => [i64 (i : Nat)]) (fun _ => rfl) hr hj (Heap.le_refl _) H' w hle hM 0 _ rfl; rw [Nat.add_zero] at this; exact this) ?_
   refine asg ?_
   refine rw_nil ?_; intro w hM
   cases hg : x.gone with
   | true =>
    refine rs hM ?_
    refine mv ?_
    refine nck ?_
    refine fa fr118_1 ?_
    refine rw_load (v := .slice (some ⟨b2, o2, none⟩) M.all.length cap) ld112 rfl rfl rfl hb4 (by rw [← hal]; rfl) ?_
    refine mv ?_
    refine rw_indexAddr rfl rfl rfl rfl (x_slice Tryz.underlying112 sz121 hjn) ?_
    refine fa fr121_2 ?_
    refine rw_loadG (v := .bool true) ld4 rfl rfl rfl (fun H' w hle hM => by have := hent H' w hle hM 2 _ rfl; rw [hg] at this; exact this) ?_
    refine rw_un rfl rfl rfl (u_not _) ?_
    refine mv ?_
    refine rw_skip rfl rfl ?_
    refine rw_skip rfl rfl ?_
    refine rw_skip rfl rfl ?_
    refine rw_skip rfl rfl ?_
    refine rw_skip rfl rfl ?_
    refine rw_skip rfl rfl ?_
    refine rw_skip rfl rfl ?_
    refine rw_pick rfl rfl rfl rfl rfl ?_
    refine rw_nil ?_; intro w hM
    refine wp_if (tmp_lt rfl) rfl (by nofun) (fun hc => ?_)
    refine wp_skip ?_
    simp only [Exit.then, Exit.inBlock]
    refine re hM ?_
    refine rw_bin (v := i64 ((i + 1 : Nat) : Int)) rfl rfl rfl rfl (bin_eq (b_addi (b := 1) (by omega) (by omega)) (congrArg i64 (by omega))) ?_
    refine mv ?_
    refine rw_nil ?_; intro w hM
    exact ⟨(M.its q).was.length - (i + 1), _, rfl, by omega, i + 1, rfl, by omega, Know.of ⟨rfl, rfl, rfl, rfl, rfl, rfl, trivial⟩, hM⟩
   | false =>
    have hseen : (M.its q).seen j = true := hall j (List.mem_of_getElem? hj) (liv_iff.2 ⟨x, hx, hg⟩)
    refine rs hM ?_
    refine mv ?_
    refine nck ?_
    refine fa fr118_1 ?_
    refine rw_load (v := .slice (some ⟨b2, o2, none⟩) M.all.length cap) ld112 rfl rfl rfl hb4 (by rw [← hal]; rfl) ?_
    refine mv ?_
    refine rw_indexAddr rfl rfl rfl rfl (x_slice Tryz.underlying112 sz121 hjn) ?_
    refine fa fr121_2 ?_
    refine rw_loadG (v := .bool false) ld4 rfl rfl rfl (fun H' w hle hM => by have := hent H' w hle hM 2 _ rfl; rw [hg] at this; exact this) ?_
    refine rw_un rfl rfl rfl (u_not _) ?_
    refine mv ?_
    refine mv ?_
    refine nck ?_
    refine fa fr115_2 ?_
    refine rw_load (v := .map (some bs)) ld113 rfl rfl rfl hb4 (by rw [mdC_sn hq]; show some (Value.map (setIx ix q _ q).sn) = _; unfold setIx; rw [if_pos rfl]; exact congrArg (fun z => some (Value.map z)) a1) ?_
    refine mv ?_
    refine rw_lookup (v := .bool true) Tryz.underlying113 Tryz.underlying3 Tryz.zeroValue4 rfl rfl rfl rfl hI4 a4 (wf_i64 (by omega)) (by rw [seenF_at, hseen]) ?_
    refine rw_un rfl rfl rfl (u_not _) ?_
    refine rw_pick rfl rfl rfl rfl rfl ?_
    refine rw_nil ?_; intro w hM
    refine wp_if (tmp_lt rfl) rfl (by nofun) (fun hc => ?_)
    refine wp_skip ?_
    simp only [Exit.then, Exit.inBlock]
    refine re hM ?_
    refine rw_bin (v := i64 ((i + 1 : Nat) : Int)) rfl rfl rfl rfl (bin_eq (b_addi (b := 1) (by omega) (by omega)) (congrArg i64 (by omega))) ?_
    refine mv ?_
    refine rw_nil ?_; intro w hM
    exact ⟨(M.its q).was.length - (i + 1), _, rfl, by omega, i + 1, rfl, by omega, Know.of ⟨rfl, rfl, rfl, rfl, rfl, rfl, trivial⟩, hM⟩
  ·refine wp_exit ?_
   simp only [Exit.then, Exit.inBlock, if_true]
   refine rs hM ?_
   refine rw_loadA (ansC Ans.no) ld44 rfl rfl rfl e54 rfl ?_
   refine rw_build bd44_ rfl rfl rfl ?_
   refine rw_bin rfl rfl rfl rfl (eq44_same Ans.no) ?_
   refine asg ?_
   refine rw_nil ?_; intro w hM
   refine wp_ret ?_
   simp only [Exit.then]
   exact post_tmp (v := .bool true) rfl rfl rfl (fin0 hM hle4 hP4)
 | @one _ i0 hon hok hfit hmin =>
  obtain ⟨bs, o, a1, a2, a3, a4, a5, a6, a7⟩ := hI.live hon
  obtain ⟨ao, cap, hal⟩ := hP.all.shape
  have hi0 : i0 < M.all.length := by
   unfold fitsE at hfit
   cases hx : M.all[i0]? with
   | none => rw [hx] at hfit; cases hfit
   | some x => exact (List.getElem?_eq_some_iff.1 hx).1
  refine wp_seq ?_
  refine rs hM ?_
  refine mv ?_
  refine nck ?_
  refine fa fr115_0 ?_
  refine rw_load (v := .bool true) ld4 rfl rfl rfl hb5 (by rw [Nat.add_zero, mdC_on hq, hI.eq, hon]) ?_
  refine rw_un rfl rfl rfl (u_not _) ?_
  refine rw_nil ?_; intro w hM
  refine wp_if (tmp_lt rfl) rfl (by nofun) (fun hc => ?_)
  refine wp_skip ?_
  refine wp_seq ?_
  refine rs hM ?_
  refine fa fr44_0 ?_
  refine rw_load (v := .bool true) ld4 rfl rfl rfl e5 (by rw [← hok]; rfl) ?_
  refine rw_un rfl rfl rfl (u_not _) ?_
  refine rw_nil ?_; intro w hM
  refine wp_if (tmp_lt rfl) rfl (by nofun) (fun hc => ?_)
  refine wp_skip ?_
  refine wp_seq ?_
  refine rs hM ?_
  refine mv ?_
  refine nck ?_
  refine fa fr118_1 ?_
  refine rw_load (v := .slice ao M.all.length cap) ld112 rfl rfl rfl hb5 (by rw [← hal]; rfl) ?_
  refine rw_len Tryz.underlying112 rfl rfl rfl ?_
  refine mv ?_
  refine rw_nil ?_; intro w hM
  have hra := hP5.all.rd (w0 := w0)
  refine wp_block ?_
  refine wp_loop_s (fun c f w => ∃ i S, c = i0 - i ∧ i ≤ i0 ∧ Know f [(0, .pointer (some ⟨bM, 0, none⟩)), (1, .pointer (some ⟨bM, 2 + q * 3, none⟩)), (5, .pointer (some ⟨b5, 0, none⟩)), (60, .slice ao M.all.length cap), (61, i64 (M.all.length : Nat)), (62, i64 (i : Nat))] ∧ Mem w0 w S ∧ G5.le S) (i0 - 0) ?_ ?_
  ·exact ⟨0, G5, rfl, Nat.zero_le _, Know.of ⟨rfl, rfl, rfl, rfl, rfl, rfl, trivial⟩, hM, Heap.le_refl _⟩
  clear hM
  rintro c f w ⟨i, S, rfl, hi, ⟨f1, rfl⟩, hM, hle⟩
  have hil : i < M.all.length := by omega
  obtain ⟨x, hx⟩ : ∃ x, M.all[i]? = some x := ⟨_, List.getElem?_eq_getElem hil⟩
  obtain ⟨b2, o2, cap2, hsl2, hr2⟩ := hra.some (show 0 < M.all.length by omega)
  rw [hal] at hsl2
  cases hsl2
  have hfi : fitsE K M.all (M.its q).seen a i = (!x.gone && !(M.its q).seen i && K.alike x.key a.key && decide (x.elem = a.elem)) := by unfold fitsE; rw [hx]
  refine rs hM ?_
  refine rw_bin rfl rfl rfl rfl (b_lt _ _) ?_
  refine rw_nil ?_; intro w hM
  refine wp_seq ?_
  refine wp_if (tmp_lt rfl) rfl (fun hz => ?_) (fun hz => by have := of_decide_eq_false hz; omega)
  refine wp_skip ?_
  refine wp_seq ?_
  refine wp_block ?_
  refine rs hM ?_
  refine mv ?_
  refine rw_indexAddr rfl rfl rfl rfl (x_slice Tryz.underlying112 sz121 hil) ?_
  refine rw_loadAG (entE x) ld121 rfl rfl rfl (rd_step entE_len hr2 hx hle) ?_
  refine rw_allocN Tryz.zeroValue121 rfl rfl (fun b10 G10 n10 l10 e10 k10 => ?_)
  refine asg ?_
  refine rw_store (v := .agg #[.int .u64 _, .int .i64 _, .bool _]) sz121 rfl rfl rfl rfl e10 rfl rfl rfl (by nofun) (fun S14 hS14 kS14 => ?_)
  refine rw_nil ?_; intro w hM
  have hl14 : S.le S14 := le_keep l10 n10 kS14
  have hS10 : S14 b10 = some (.cells (entE x).toArray 121 (0, 0)) := hS14.trans rfl
  have hle14 := Heap.le_trans hle hl14
  have hb14 := hle14 _ _ hb5
  have h514 := hle14 _ _ e5
  refine wp_seq_mid (fun f w => Know f [(0, .pointer (some ⟨bM, 0, none⟩)), (1, .pointer (some ⟨bM, 2 + q * 3, none⟩)), (5, .pointer (some ⟨b5, 0, none⟩)), (9, i64 (i : Nat)), (10, .pointer (some ⟨b10, 0, none⟩)), (11, .bool (K.alike x.key a.key)), (60, .slice (some ⟨b2, o2, none⟩) M.all.length cap), (61, i64 (M.all.length : Nat)), (62, i64 (i : Nat))] ∧ Mem w0 w S14) ?_ ?_
  ·cases h1 : K.eqk x.key a.key with
   | true =>
    have hv : K.alike x.key a.key = true := by unfold KT.alike; rw [h1]; rfl
    rw [hv]
    refine wp_mix_end [] [] [0, 1, 2, 3, 4, 5, 6, 7, 8, 9, 10, 11, 12, 13, 14, 15, 16, 17, 18, 19, 20, 21, 22, 23, 24, 25, 26, 27] S14 mixed (by kernel_rfl) (Heap.le_refl _) hM ?_
    refine mv ?_
    refine nck ?_
    refine fa fr118_0 ?_
    refine lo (v := .bool fl) ld4 hb14 ?_
    refine fa fr121_0 ?_
    refine lo (v := u64 x.key) ld22 hS10 ?_
    refine fa fr44_1 ?_
    refine lo (v := u64 a.key) ld22 h514 ?_
    refine rw_callq (v := .bool true) cr28 rfl rfl (fun H' w hle hM => by have := c28 hM fl x.key a.key; rw [← hK, h1] at this; exact this) rfl ?_
    refine mv ?_
    refine rw_skip rfl rfl ?_
    refine rw_skip rfl rfl ?_
    refine rw_skip rfl rfl ?_
    refine rw_skip rfl rfl ?_
    refine rw_skip rfl rfl ?_
    refine rw_skip rfl rfl ?_
    refine rw_skip rfl rfl ?_
    refine rw_skip rfl rfl ?_
    refine rw_skip rfl rfl ?_
    refine rw_skip rfl rfl ?_
    refine rw_skip rfl rfl ?_
    refine rw_skip rfl rfl ?_
    refine rw_skip rfl rfl ?_
    refine rw_skip rfl rfl ?_
    refine rw_skip rfl rfl ?_
    refine rw_skip rfl rfl ?_
    refine rw_pick rfl rfl rfl rfl rfl ?_
    refine asg ?_
    refine rw_nil ?_; intro w hM
    exact ⟨_, rfl, Know.of ⟨rfl, rfl, rfl, rfl, rfl, rfl, rfl, rfl, rfl, trivial⟩, hM⟩
   | false =>
    cases h2 : K.nan x.key with
    | false =>
     have hv : K.alike x.key a.key = false := by unfold KT.alike; rw [h1, h2]; rfl
     rw [hv]
     refine wp_mix_end [] [] [0, 1, 2, 3, 4, 5, 6, 7, 8, 9, 10, 11, 12, 13, 14, 15, 16, 17, 18, 19, 20, 21, 22, 23, 24, 25, 26, 27] S14 mixed (by kernel_rfl) (Heap.le_refl _) hM ?_
     refine mv ?_
     refine nck ?_
     refine fa fr118_0 ?_
     refine lo (v := .bool fl) ld4 hb14 ?_
     refine fa fr121_0 ?_
     refine lo (v := u64 x.key) ld22 hS10 ?_
     refine fa fr44_1 ?_
     refine lo (v := u64 a.key) ld22 h514 ?_
     refine rw_callq (v := .bool false) cr28 rfl rfl (fun H' w hle hM => by have := c28 hM fl x.key a.key; rw [← hK, h1] at this; exact this) rfl ?_
     refine mv ?_
     refine mv ?_
     refine nck ?_
     refine fa fr118_0 ?_
     refine lo (v := .bool fl) ld4 hb14 ?_
     refine fa fr121_0 ?_
     refine lo (v := u64 x.key) ld22 hS10 ?_
     refine rw_callq (v := .bool false) cr27 rfl rfl (fun H' w hle hM => by have := c27 hM fl x.key; rw [← hN, h2] at this; exact this) rfl ?_
     refine mv ?_
     refine rw_skip rfl rfl ?_
     refine rw_skip rfl rfl ?_
     refine rw_skip rfl rfl ?_
     refine rw_skip rfl rfl ?_
     refine rw_skip rfl rfl ?_
     refine rw_skip rfl rfl ?_
     refine rw_skip rfl rfl ?_
     refine rw_pick rfl rfl rfl rfl rfl ?_
     refine rw_pick rfl rfl rfl rfl rfl ?_
     refine asg ?_
     refine rw_nil ?_; intro w hM
     exact ⟨_, rfl, Know.of ⟨rfl, rfl, rfl, rfl, rfl, rfl, rfl, rfl, rfl, trivial⟩, hM⟩
    | true =>
     have hv : K.alike x.key a.key = K.nan a.key := by unfold KT.alike; rw [h1, h2]; cases K.nan a.key <;> rfl
     rw [hv]
     refine wp_mix_end [] [] [0, 1, 2, 3, 4, 5, 6, 7, 8, 9, 10, 11, 12, 13, 14, 15, 16, 17, 18, 19, 20, 21, 22, 23, 24, 25, 26, 27] S14 mixed (by kernel_rfl) (Heap.le_refl _) hM ?_
     refine mv ?_
     refine nck ?_
     refine fa fr118_0 ?_
     refine lo (v := .bool fl) ld4 hb14 ?_
     refine fa fr121_0 ?_
     refine lo (v := u64 x.key) ld22 hS10 ?_
     refine fa fr44_1 ?_
     refine lo (v := u64 a.key) ld22 h514 ?_
     refine rw_callq (v := .bool false) cr28 rfl rfl (fun H' w hle hM => by have := c28 hM fl x.key a.key; rw [← hK, h1] at this; exact this) rfl ?_
     refine mv ?_
     refine mv ?_
     refine nck ?_
     refine fa fr118_0 ?_
     refine lo (v := .bool fl) ld4 hb14 ?_
     refine fa fr121_0 ?_
     refine lo (v := u64 x.key) ld22 hS10 ?_
     refine rw_callq (v := .bool true) cr27 rfl rfl (fun H' w hle hM => by have := c27 hM fl x.key; rw [← hN, h2] at this; exact this) rfl ?_
     refine mv ?_
     refine mv ?_
     refine nck ?_
     refine fa fr118_0 ?_
     refine lo (v := .bool fl) ld4 hb14 ?_
     refine fa fr44_1 ?_
     refine lo (v := u64 a.key) ld22 h514 ?_
     refine rw_callq (v := .bool (K.nan a.key)) cr27 rfl rfl (fun H' w hle hM => by have := c27 hM fl a.key; rw [← hN] at this; exact this) rfl ?_
     refine rw_pick rfl rfl rfl rfl rfl ?_
     refine rw_pick rfl rfl rfl rfl rfl ?_
     refine asg ?_
     refine rw_nil ?_; intro w hM
     exact ⟨_, rfl, Know.of ⟨rfl, rfl, rfl, rfl, rfl, rfl, rfl, rfl, rfl, trivial⟩, hM⟩
  clear hM
  rintro f w ⟨⟨f2, rfl⟩, hM⟩
  have miss : fitsE K M.all (M.its q).seen a i = false → i < i0 := fun h => by
   rcases Nat.lt_or_ge i i0 with h' | h'
   ·exact h'
   ·have : i = i0 := by omega
    rw [this, hfit] at h; cases h
  have hm14 := hle14 _ _ (l5 _ _ a3)
  cases hg : x.gone with
  | true =>
   refine rs hM ?_
   refine fa fr121_2 ?_
   refine rw_load (v := .bool true) ld4 rfl rfl rfl hS10 (by rw [← hg]; rfl) ?_
   refine rw_un rfl rfl rfl (u_not _) ?_
   refine mv ?_
   refine rw_skip rfl rfl ?_
   refine rw_skip rfl rfl ?_
   refine rw_skip rfl rfl ?_
   refine rw_skip rfl rfl ?_
   refine rw_skip rfl rfl ?_
   refine rw_skip rfl rfl ?_
   refine rw_skip rfl rfl ?_
   refine rw_pick rfl rfl rfl rfl rfl ?_
   refine mv ?_
   refine rw_skip rfl rfl ?_
   refine rw_pick rfl rfl rfl rfl rfl ?_
   refine mv ?_
   refine rw_skip rfl rfl ?_
   refine rw_skip rfl rfl ?_
   refine rw_skip rfl rfl ?_
   refine rw_skip rfl rfl ?_
   refine rw_skip rfl rfl ?_
   refine rw_pick rfl rfl rfl rfl rfl ?_
   refine rw_nil ?_; intro w hM
   refine wp_if (tmp_lt rfl) rfl (by nofun) (fun hc => ?_)
   refine wp_skip ?_
   simp only [Exit.then, Exit.inBlock]
   refine re hM ?_
   refine rw_bin (v := i64 ((i + 1 : Nat) : Int)) rfl rfl rfl rfl (bin_eq (b_addi (b := 1) (by omega) (by omega)) (congrArg i64 (by omega))) ?_
   refine mv ?_
   refine rw_nil ?_; intro w hM
   have hlt := miss (by rw [hfi, hg]; rfl)
   exact ⟨i0 - (i + 1), _, rfl, by omega, i + 1, S14, rfl, by omega, Know.of ⟨rfl, rfl, rfl, rfl, rfl, rfl, trivial⟩, hM, hle14⟩
  | false =>
   cases hs : (M.its q).seen i with
   | true =>
    refine rs hM ?_
    refine fa fr121_2 ?_
    refine rw_load (v := .bool false) ld4 rfl rfl rfl hS10 (by rw [← hg]; rfl) ?_
    refine rw_un rfl rfl rfl (u_not _) ?_
    refine mv ?_
    refine mv ?_
    refine nck ?_
    refine fa fr115_2 ?_
    refine rw_load (v := .map (some bs)) ld113 rfl rfl rfl hb14 (by rw [mdC_sn hq, a1]) ?_
    refine mv ?_
    refine rw_lookup (v := .bool true) Tryz.underlying113 Tryz.underlying3 Tryz.zeroValue4 rfl rfl rfl rfl hm14 a4 (wf_i64 (by omega)) (by rw [seenF_at, hs]) ?_
    refine rw_un rfl rfl rfl (u_not _) ?_
    refine rw_pick rfl rfl rfl rfl rfl ?_
    refine mv ?_
    refine rw_skip rfl rfl ?_
    refine rw_pick rfl rfl rfl rfl rfl ?_
    refine mv ?_
    refine rw_skip rfl rfl ?_
    refine rw_skip rfl rfl ?_
    refine rw_skip rfl rfl ?_
    refine rw_skip rfl rfl ?_
    refine rw_skip rfl rfl ?_
    refine rw_pick rfl rfl rfl rfl rfl ?_
    refine rw_nil ?_; intro w hM
    refine wp_if (tmp_lt rfl) rfl (by nofun) (fun hc => ?_)
    refine wp_skip ?_
    simp only [Exit.then, Exit.inBlock]
    refine re hM ?_
    refine rw_bin (v := i64 ((i + 1 : Nat) : Int)) rfl rfl rfl rfl (bin_eq (b_addi (b := 1) (by omega) (by omega)) (congrArg i64 (by omega))) ?_
    refine mv ?_
    refine rw_nil ?_; intro w hM
    have hlt := miss (by rw [hfi, hg, hs]; rfl)
    exact ⟨i0 - (i + 1), _, rfl, by omega, i + 1, S14, rfl, by omega, Know.of ⟨rfl, rfl, rfl, rfl, rfl, rfl, trivial⟩, hM, hle14⟩
   | false =>
    cases hal' : K.alike x.key a.key with
    | false =>
     refine rs hM ?_
     refine fa fr121_2 ?_
     refine rw_load (v := .bool false) ld4 rfl rfl rfl hS10 (by rw [← hg]; rfl) ?_
     refine rw_un rfl rfl rfl (u_not _) ?_
     refine mv ?_
     refine mv ?_
     refine nck ?_
     refine fa fr115_2 ?_
     refine rw_load (v := .map (some bs)) ld113 rfl rfl rfl hb14 (by rw [mdC_sn hq, a1]) ?_
     refine mv ?_
     refine rw_lookup (v := .bool false) Tryz.underlying113 Tryz.underlying3 Tryz.zeroValue4 rfl rfl rfl rfl hm14 a4 (wf_i64 (by omega)) (by rw [seenF_at, hs]) ?_
     refine rw_un rfl rfl rfl (u_not _) ?_
     refine rw_pick rfl rfl rfl rfl rfl ?_
     refine mv ?_
     refine mv ?_
     refine rw_pick rfl rfl rfl rfl rfl ?_
     refine mv ?_
     refine rw_skip rfl rfl ?_
     refine rw_skip rfl rfl ?_
     refine rw_skip rfl rfl ?_
     refine rw_skip rfl rfl ?_
     refine rw_skip rfl rfl ?_
     refine rw_pick rfl rfl rfl rfl rfl ?_
     refine rw_nil ?_; intro w hM
     refine wp_if (tmp_lt rfl) rfl (by nofun) (fun hc => ?_)
     refine wp_skip ?_
     simp only [Exit.then, Exit.inBlock]
     refine re hM ?_
     refine rw_bin (v := i64 ((i + 1 : Nat) : Int)) rfl rfl rfl rfl (bin_eq (b_addi (b := 1) (by omega) (by omega)) (congrArg i64 (by omega))) ?_
     refine mv ?_
     refine rw_nil ?_; intro w hM
     have hlt := miss (by rw [hfi, hg, hs, hal']; rfl)
     exact ⟨i0 - (i + 1), _, rfl, by omega, i + 1, S14, rfl, by omega, Know.of ⟨rfl, rfl, rfl, rfl, rfl, rfl, trivial⟩, hM, hle14⟩
    | true =>
     have hfit' : fitsE K M.all (M.its q).seen a i = decide (x.elem = a.elem) := by rw [hfi, hg, hs, hal']; simp
     by_cases he : x.elem = a.elem
     ·have hii : i = i0 := by
       rcases Nat.lt_or_ge i i0 with h' | h'
       ·have := hmin i h'
        rw [hfit', decide_eq_true he] at this; cases this
       ·omega
      subst hii
      refine rs hM ?_
      refine fa fr121_2 ?_
      refine rw_load (v := .bool false) ld4 rfl rfl rfl hS10 (by rw [← hg]; rfl) ?_
      refine rw_un rfl rfl rfl (u_not _) ?_
      refine mv ?_
      refine mv ?_
      refine nck ?_
      refine fa fr115_2 ?_
      refine rw_load (v := .map (some bs)) ld113 rfl rfl rfl hb14 (by rw [mdC_sn hq, a1]) ?_
      refine mv ?_
      refine rw_lookup (v := .bool false) Tryz.underlying113 Tryz.underlying3 Tryz.zeroValue4 rfl rfl rfl rfl hm14 a4 (wf_i64 (by omega)) (by rw [seenF_at, hs]) ?_
      refine rw_un rfl rfl rfl (u_not _) ?_
      refine rw_pick rfl rfl rfl rfl rfl ?_
      refine mv ?_
      refine mv ?_
      refine rw_pick rfl rfl rfl rfl rfl ?_
      refine mv ?_
      refine fa fr121_1 ?_
      refine lo (v := i64 x.elem) ld2 hS10 ?_
      refine fa fr44_2 ?_
      refine lo (v := i64 a.elem) ld2 h514 ?_
      refine rw_bin rfl rfl rfl rfl (b_true (b_eq _ _) (beq_iff_eq.2 he)) ?_
      refine rw_pick rfl rfl rfl rfl rfl ?_
      refine rw_nil ?_; intro w hM
      refine wp_if (tmp_lt rfl) rfl (fun hc => ?_) (by nofun)
      refine rs hM ?_
      refine mv ?_
      refine nck ?_
      refine fa fr115_2 ?_
      refine rw_load (v := .map (some bs)) ld113 rfl rfl rfl hb14 (by rw [mdC_sn hq, a1]) ?_
      refine mv ?_
      refine rw_mapUpdateN Tryz.underlying113 Tryz.underlying3 rfl rfl rfl rfl rfl hm14 a4 (wf_i64 (by omega)) (fun o' S17 ho' hS17 kS17 => ?_)
      refine rw_nil ?_; intro w hM
      refine rs hM ?_
      refine asg ?_
      refine rw_nil ?_; intro w hM
      refine wp_ret ?_
      simp only [Exit.then, Exit.inBlock]
      have hof : MapOf .i64 o' (seenF (flip1 (M.its q).seen i)) := ho'.ext fun z => seenF_flip _ _ _
      have hP17 := (hP5.mono hle14).saw hq hon a1 hm14 a4 hS17 hof kS17
      exact post_tmp (v := .bool true) rfl rfl rfl (fin0 hM (fun z u hz => (kS17 _ fun e => by rw [e, a2] at hz; cases hz).trans (hle14 _ _ (hle5 _ _ hz))) hP17)
     ·refine rs hM ?_
      refine fa fr121_2 ?_
      refine rw_load (v := .bool false) ld4 rfl rfl rfl hS10 (by rw [← hg]; rfl) ?_
      refine rw_un rfl rfl rfl (u_not _) ?_
      refine mv ?_
      refine mv ?_
      refine nck ?_
      refine fa fr115_2 ?_
      refine rw_load (v := .map (some bs)) ld113 rfl rfl rfl hb14 (by rw [mdC_sn hq, a1]) ?_
      refine mv ?_
      refine rw_lookup (v := .bool false) Tryz.underlying113 Tryz.underlying3 Tryz.zeroValue4 rfl rfl rfl rfl hm14 a4 (wf_i64 (by omega)) (by rw [seenF_at, hs]) ?_
      refine rw_un rfl rfl rfl (u_not _) ?_
      refine rw_pick rfl rfl rfl rfl rfl ?_
      refine mv ?_
      refine mv ?_
      refine rw_pick rfl rfl rfl rfl rfl ?_
      refine mv ?_
      refine fa fr121_1 ?_
      refine lo (v := i64 x.elem) ld2 hS10 ?_
      refine fa fr44_2 ?_
      refine lo (v := i64 a.elem) ld2 h514 ?_
      refine rw_bin rfl rfl rfl rfl (b_false (b_eq _ _) (beq_false_of_ne he)) ?_
      refine rw_pick rfl rfl rfl rfl rfl ?_
      refine rw_nil ?_; intro w hM
      refine wp_if (tmp_lt rfl) rfl (by nofun) (fun hc => ?_)
      refine wp_skip ?_
      simp only [Exit.then, Exit.inBlock]
      refine re hM ?_
      refine rw_bin (v := i64 ((i + 1 : Nat) : Int)) rfl rfl rfl rfl (bin_eq (b_addi (b := 1) (by omega) (by omega)) (congrArg i64 (by omega))) ?_
      refine mv ?_
      refine rw_nil ?_; intro w hM
      have hlt := miss (by rw [hfit', decide_eq_false he])
      exact ⟨i0 - (i + 1), _, rfl, by omega, i + 1, S14, rfl, by omega, Know.of ⟨rfl, rfl, rfl, rfl, rfl, rfl, trivial⟩, hM, hle14⟩
end
section
theorem set_app {β : Type} {l1 l2 : List β} {p : Nat} {u : β} (h : l1.length ≤ p) : (l1 ++ l2).set p u = l1 ++ l2.set (p - l1.length) u := by
 rw [List.set_append, if_neg (by omega)]
theorem flat_set {α β : Type} {f : α → List β} {n : Nat} (hf : ∀ a, (f a).length = n) : ∀ {l : List α} {i j : Nat} {a a' : α} {u : β}, l[i]? = some a → j < n → f a' = (f a).set j u → (l.set i a').flatMap f = (l.flatMap f).set (i * n + j) u
 | [], i, j, a, a', u, h, _, _ => by simp at h
 | b :: l, 0, j, a, a', u, h, hj, e => by
  simp only [List.getElem?_cons_zero, Option.some.injEq] at h
  subst h
  rw [List.set_cons_zero, List.flatMap_cons, List.flatMap_cons, Nat.zero_mul, Nat.zero_add, List.set_append, if_pos (by rw [hf]; exact hj), e]
 | b :: l, i + 1, j, a, a', u, h, hj, e => by
  simp only [List.getElem?_cons_succ] at h
  rw [List.set_cons_succ, List.flatMap_cons, List.flatMap_cons, flat_set hf h hj e, set_app (by rw [hf, Nat.add_mul]; omega), hf]
  have : (i + 1) * n + j - n = i * n + j := by rw [Nat.add_mul]; omega
  rw [this]
theorem modify_set {α : Type} {l : List α} {i : Nat} {f : α → α} {a : α} (h : l[i]? = some a) : l.modify i f = l.set i (f a) := by
 apply List.ext_getElem?
 intro j
 rw [List.getElem?_modify, List.getElem?_set]
 by_cases e : i = j
 ·subst e
  rw [if_pos rfl, if_pos (List.getElem?_eq_some_iff.1 h).1, h]; simp
 ·simp [e]
theorem Sl.some_of {H : Heap} {e size n : Nat} {v : Value} {cs : List Value} (h : Sl H e size v n cs) (hn : 0 < n) : ∃ g cap cur, v = .slice (some ⟨g, 0, none⟩) n cap ∧ H g = some (.cells cur e (0, 0)) ∧ n ≤ cap ∧ cur.size = cap * size := by
 rcases h.2 with ⟨_, e⟩ | ⟨g, cap, cur, h1, h2, h3, _, h5, _⟩
 ·omega
 ·exact ⟨g, cap, cur, h1, h2, h3, h5⟩
theorem Sl.set {H S : Heap} {e size n g cap p : Nat} {cs : List Value} {cur : Array Value} {u : Value} (h : Sl H e size (.slice (some ⟨g, 0, none⟩) n cap) n cs) (hg : H g = some (.cells cur e (0, 0))) (hS : S g = some (.cells (cur.setIfInBounds p u) e (0, 0))) : Sl S e size (.slice (some ⟨g, 0, none⟩) n cap) n (cs.set p u) := by
 refine ⟨by rw [List.length_set]; exact h.1, ?_⟩
 rcases h.2 with ⟨e1, _⟩ | ⟨g', cap', cur', h1, h2, h3, h4, h5, h6⟩
 ·cases e1
 ·cases h1
  rw [hg] at h2; cases h2
  exact .inr ⟨g, cap, _, rfl, hS, h3, h4, by simpa using h5, by rw [Array.toList_setIfInBounds, List.take_set, h6]⟩
variable {H : Heap} {H0 : Heap} {bM : Nat} {fl : Bool} {al : Value} {ix : Nat → ItM} {M : Mdl} {K : KT}
/-- The iterations are kept when entries are. -/
theorem ItMem.turn {H0 H S : Heap} {n n' : Nat} {x : ItM} {t : Itr} (h : ItMem H0 H n x t) (hn : n ≤ n') (hk : ∀ y u, H y = some u → (objTy u = 0 ∨ objTy u = 3) → S y = some u) : ItMem H0 S n' x t :=
 ⟨h.eq, fun ho => by
  obtain ⟨bs, o, a1, a2, a3, a4, a5, a6, a7, a8⟩ := h.live ho
  exact ⟨bs, o, a1, a2, hk _ _ a3 (.inl a4.plain), a4, a5.move fun y u hy hb => hk y u hy (.inr (by obtain ⟨cur, hc⟩ := a5.blk hb; rw [hc] at hy; cases hy; rfl)), a6, by omega, fun i hi => Nat.lt_of_lt_of_le (a8 i hi) hn⟩⟩
theorem MdMem.setE {S : Heap} {all' : List Ent} {g cap p : Nat} {cur : Array Value} {u : Value} (h : MdMem H0 H bM fl (.slice (some ⟨g, 0, none⟩) M.all.length cap) ix M) (hg : H g = some (.cells cur 121 (0, 0))) (henc : encEs all' = (encEs M.all).set p u) (hlen : all'.length = M.all.length) (hS : S g = some (.cells (cur.setIfInBounds p u) 121 (0, 0))) (hk : ∀ x, x ≠ g → S x = H x) : MdMem H0 S bM fl (.slice (some ⟨g, 0, none⟩) M.all.length cap) ix { M with all := all' } := by
 have hm : ∀ {x : Nat} {u : Obj}, H x = some u → objTy u ≠ 121 → S x = some u := fun {x u} hx hn => (hk x fun e => by rw [e, hg] at hx; cases hx; exact hn rfl).trans hx
 refine ⟨hm h.blk (by show (118 : Nat) ≠ 121; decide), h.old, ?_, h.aold, fun q hq => (h.its q hq).turn (by show M.all.length ≤ all'.length; omega) fun y u hy hb => hm hy (by rcases hb with e | e <;> rw [e] <;> decide), h.dist⟩
 show Sl S 121 3 _ all'.length (encEs all')
 rw [hlen, henc]
 exact h.all.set hg hS
theorem encEs_append (l : List Ent) (a : Ent) : encEs (l ++ [a]) = encEs l ++ entE a := by simp [encEs]
theorem MdMem.append {G S : Heap} {al' : Value} {a : Ent} (h : MdMem H0 H bM fl al ix M) (hle : H0.le H) (hG : Sl G 121 3 al' (M.all.length + 1) (encEs M.all ++ entE a)) (hkG : ∀ x o, H x = some o → al.ownBlock ≠ some x → G x = some o) (hnew : al'.ownBlock = al.ownBlock ∨ ∃ b, al'.ownBlock = some b ∧ H b = none) (hS : S bM = some (encMd fl al' ix)) (hk : ∀ x, x ≠ bM → S x = G x) : MdMem H0 S bM fl al' ix { M with all := M.all ++ [a] } ∧ H0.le S := by
 have hm : ∀ {x : Nat} {u : Obj}, H x = some u → objTy u ≠ 121 → objTy u ≠ 118 → S x = some u := fun {x u} hx hn hn' => (hk x fun e => by rw [e, h.blk] at hx; cases hx; exact hn' rfl).trans (hkG x u hx fun e => by obtain ⟨cur, hc⟩ := h.all.blk e; rw [hc] at hx; cases hx; exact hn rfl)
 have hall : Sl S 121 3 al' (M.all ++ [a]).length (encEs (M.all ++ [a])) := by
  rw [List.length_append, List.length_singleton, encEs_append]
  refine hG.move fun x u hx ho => (hk x fun e => ?_).trans hx
  rcases hnew with e' | ⟨b, e', hb⟩
  ·rw [e'] at ho; obtain ⟨cur, hc⟩ := h.all.blk ho; rw [e, h.blk] at hc; cases hc
  ·rw [e'] at ho; cases ho; rw [e, h.blk] at hb; cases hb
 refine ⟨⟨hS, h.old, hall, fun y hy => ?_, fun q hq => (h.its q hq).turn (by simp) fun y u hy hb => hm hy (by rcases hb with e | e <;> rw [e] <;> decide) (by rcases hb with e | e <;> rw [e] <;> decide), h.dist⟩, fun x u hx => ?_⟩
 ·rcases hnew with e' | ⟨b, e', hb⟩
  ·exact h.aold y (e' ▸ hy)
  ·rw [e'] at hy; cases hy; exact le_none hle hb
 ·exact (hk x fun e => by rw [e, h.old] at hx; cases hx).trans (hkG x u (hle _ _ hx) fun e => by rw [h.aold x e] at hx; cases hx)
theorem MdMem.start {G S : Heap} {q bs : Nat} {wv : Value} {was : List Nat} (h : MdMem H0 H bM fl al ix M) (hle : H0.le H) (hHG : H.le G) (_ : q < 8) (hw : Sl G 3 1 wv was.length (encNs was)) (hwo : ∀ y, wv.ownBlock = some y → H y = none) (hlen : was.length ≤ M.all.length) (hlt : ∀ i, i ∈ was → i < M.all.length) (hbs : H bs = none) (hGs : G bs = some (.map #[] 0)) (hS : S bM = some (encMd fl al (setIx ix q ⟨true, wv, some bs⟩))) (hk : ∀ x, x ≠ bM → S x = G x) : MdMem H0 S bM fl al (setIx ix q ⟨true, wv, some bs⟩) { M with its := setIt M.its q ⟨true, was, fun _ => false⟩ } ∧ H0.le S := by
 have hm : ∀ {x : Nat} {u : Obj}, H x = some u → objTy u ≠ 118 → S x = some u := fun {x u} hx hn => (hk x fun e => by rw [e, h.blk] at hx; cases hx; exact hn rfl).trans (hHG x u hx)
 have hbM : H bM ≠ none := by rw [h.blk]; exact fun e => by cases e
 refine ⟨⟨hS, h.old, h.all.move fun x u hx ho => hm hx (by obtain ⟨cur, hc⟩ := h.all.blk ho; rw [hc] at hx; cases hx; show (121 : Nat) ≠ 118; decide), h.aold, fun p hp => ?_, fun p1 p2 b h1 h2 h3 h4 h5 h6 => ?_⟩, fun x u hx => (hk x fun e => by rw [e, h.old] at hx; cases hx).trans (hHG _ _ (hle _ _ hx))⟩
 ·show ItMem H0 S M.all.length (setIx ix q ⟨true, wv, some bs⟩ p) (setIt M.its q ⟨true, was, fun _ => false⟩ p)
  unfold setIx setIt
  by_cases e : p = q
  ·rw [if_pos e, if_pos e]
   refine ⟨rfl, fun _ => ⟨bs, .map #[] 0, rfl, le_none hle hbs, (hk _ fun e => hbM (e ▸ hbs)).trans hGs, (MapOf.new .i64).ext fun z => (seenF_none z).symm, hw.move fun x u hx ho => (hk x fun e => hbM (e ▸ hwo x ho)).trans hx, fun y hy => le_none hle (hwo y hy), hlen, hlt⟩⟩
  ·rw [if_neg e, if_neg e]
   exact (h.its p hp).turn (Nat.le_refl _) fun y u hy hb => hm hy (by rcases hb with e | e <;> rw [e] <;> decide)
 ·have old : ∀ p, p < 8 → p ≠ q → (M.its p).on = true → (ix p).sn = some bs → False := fun p hp _ ho hs => by
   obtain ⟨b', o, a1, _, a3, _⟩ := (h.its p hp).live ho
   rw [hs] at a1; cases a1
   rw [hbs] at a3; cases a3
  have h3' : (setIt M.its q ⟨true, was, fun _ => false⟩ p1).on = true := h3
  have h4' : (setIt M.its q ⟨true, was, fun _ => false⟩ p2).on = true := h4
  unfold setIt at h3' h4'
  unfold setIx at h5 h6
  by_cases e1 : p1 = q <;> by_cases e2 : p2 = q
  ·rw [e1, e2]
  ·rw [if_pos e1] at h5; cases h5
   rw [if_neg e2] at h6 h4'
   exact (old p2 h2 e2 h4' h6).elim
  ·rw [if_pos e2] at h6; cases h6
   rw [if_neg e1] at h5 h3'
   exact (old p1 h1 e1 h3' h5).elim
  ·rw [if_neg e1] at h5 h3'; rw [if_neg e2] at h6 h4'
   exact h.dist p1 p2 b h1 h2 h3' h4' h5 h6
/-! ### Entries in their row -/
theorem enc_setElem {all : List Ent} {i : Nat} {a : Ent} (h : all[i]? = some a) (e : Int) : encEs (setElem all i e) = (encEs all).set (i * 3 + 1) (i64 e) := by
 unfold setElem encEs
 rw [modify_set h]
 exact flat_set entE_len h (by decide) rfl
theorem enc_goneAt {all : List Ent} {i : Nat} {a : Ent} (h : all[i]? = some a) : encEs (goneAt all i) = (encEs all).set (i * 3 + 2) (.bool true) := by
 unfold goneAt encEs
 rw [modify_set h]
 exact flat_set entE_len h (by decide) rfl
def goneTo (all : List Ent) : Nat → List Ent
 | 0 => all
 | i + 1 => goneAt (goneTo all i) i
theorem goneTo_get (all : List Ent) (j : Nat) : ∀ i, (goneTo all i)[j]? = (all[j]?).map fun a => if j < i then { a with gone := true } else a
 | 0 => by simp [goneTo]
 | i + 1 => by
  unfold goneTo
  rw [get_goneAt, goneTo_get all j i]
  cases all[j]? with
  | none => rfl
  | some a =>
   simp only [Option.map_some, Option.some.injEq]
   by_cases h1 : i = j
   ·subst h1; rw [if_pos rfl, if_neg (Nat.lt_irrefl _), if_pos (Nat.lt_succ_self _)]
   ·rw [if_neg h1]
    by_cases h2 : j < i
    ·rw [if_pos h2, if_pos (by omega)]
    ·rw [if_neg h2, if_neg (by omega)]
theorem goneTo_len (all : List Ent) : ∀ i, (goneTo all i).length = all.length
 | 0 => rfl
 | i + 1 => by unfold goneTo; unfold goneAt; rw [List.length_modify]; exact goneTo_len all i
theorem goneTo_all (all : List Ent) : goneTo all all.length = goneAll all := by
 apply List.ext_getElem?
 intro j
 rw [goneTo_get, get_goneAll]
 cases h : all[j]? with
 | none => rfl
 | some a => simp only [Option.map_some]; rw [if_pos (List.getElem?_eq_some_iff.1 h).1]
def wasTo (all : List Ent) (i : Nat) : List Nat := (List.range i).filter (liv all)
theorem wasTo_succ (all : List Ent) (i : Nat) : wasTo all (i + 1) = if liv all i = true then wasTo all i ++ [i] else wasTo all i := by
 unfold wasTo
 rw [List.range_succ, List.filter_append]
 cases h : liv all i <;> simp [h]
theorem wasTo_len (all : List Ent) (i : Nat) : (wasTo all i).length ≤ i := by
 have := List.length_filter_le (liv all) (List.range i)
 rw [List.length_range] at this; exact this
theorem wasTo_lt {all : List Ent} {i j : Nat} (h : j ∈ wasTo all i) : j < i := List.mem_range.1 (List.mem_filter.1 h).1
theorem encNs_append (l : List Nat) (i : Nat) : encNs (l ++ [i]) = encNs l ++ [i64 (i : Nat)] := by simp [encNs]
end
end Go.Proofs.YtddpfkcofmfmpaaGreatDoor
