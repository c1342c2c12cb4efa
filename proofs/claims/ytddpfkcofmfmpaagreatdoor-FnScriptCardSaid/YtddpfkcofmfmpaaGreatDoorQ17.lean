/-
  An iterator goes on, from table to table. Conditions stand in each contract. An iterator over tables goes on: the whole function. Conditions stand in the contract.
  Conditions stand in each lemma.
-/
import Derived.Test.YtddpfkcofmfmpaaGreatDoorQ16
import Derived.ScopeJumps
namespace Go.Proofs.YtddpfkcofmfmpaaGreatDoor
open Go Go.RowKit
set_option maxRecDepth 20000
theorem GrpOK.succ {t : Tb} {eo ei : Nat} (hn : 0 < t.n) : GrpOK t eo (ei + 1) (some ⟨t.gb, 17 * ((ei + eo) % (8 * t.n) / 8), none⟩) := fun _ h2 => .inr (by
 have hs : (ei + eo) % (8 * t.n) % 8 ≠ 7 := fun e => by
  have := slot_next (n := t.n) (ei := ei) (eo := eo) hn
  rw [e] at this; exact h2 this
 have := slot_add (n := t.n) (ei := ei) (eo := eo) (d := 1) hn (by omega)
 rw [this, show ((ei + eo) % (8 * t.n) + 1) / 8 = (ei + eo) % (8 * t.n) / 8 by omega])
theorem byte_low : ∀ c, c < 256 → ((((c &&& 128 : Nat) : Int) == (0 : Int)) = decide (c < 128)) := by decide +kernel
/-- She stands at a slot that is no more. -/
def JL (X : Scene) (w0 : World) (b : Nat) (it : ItV) (p0 : Pos) (di : Nat) (f : Slots) (w : World) : Prop := ∃ off tb ei S, Know f [(0, .pointer (some ⟨b, 0, none⟩)), (13, u64 (8 * (X.T tb).n - 1))] ∧ At79 X w0 b it p0 ⟨di, off, some tb, ei⟩ (some ⟨(X.T tb).gb, 17 * ((ei + it.eo) % (8 * (X.T tb).n) / 8), none⟩) w S ∧ TabIs X tb ∧ ei < 8 * (X.T tb).n ∧ off < 2 ^ 64 ∧
 X.dead (decide (it.clr = X.m.clr)) (decide ((X.T tb).index = -1)) (X.T tb).G ((ei + it.eo) % (8 * (X.T tb).n))
/-- Her table is done. -/
def Done79 (X : Scene) (w0 : World) (b : Nat) (it : ItV) (p0 : Pos) (di : Nat) (f : Slots) (w : World) : Prop := ∃ off tb ei grp S, Know f [(0, .pointer (some ⟨b, 0, none⟩))] ∧ At79 X w0 b it p0 ⟨di, off, some tb, ei⟩ grp w S ∧ TabIs X tb ∧ 8 * (X.T tb).n ≤ ei ∧ ei ≤ 2000 ∧ off < 2 ^ 64
noncomputable def tail79 : Code := nav [1, 1, 1, 1, 0, 0, 0, 1, 0, 0, 0, 1, 1, 1, 1, 1, 1, 1, 1] (Tryz.f79.body.getD .skip)
theorem tl79 {X : Scene} {w0 : World} (hDb : HasDb w0) {E : Heap} {bty : Nat} {nu : Bool} (hE : E.le X.H) (Ty : TypOK X.K w0 E bty nu) {b bm : Nat} (hEb : E b = none) (hV : MapIs X.K X.H bm X.m X.V) (hwr : X.m.wr = 0) (hU : X.m.used = 0 → ∀ g s k e, ¬ X.V.live g s k e)
  {it : ItV} (hb : X.H b = some (encIt it)) (him : it.m = some ⟨bm, 0, none⟩) (hity : it.typ = some ⟨bty, 0, none⟩) {p0 : Pos} {di : Nat} {Q : Exit → Act → World → Prop}
  (hend : ∀ f w, Done79 X w0 b it p0 di f w → Q .normal (mkAct 639 f) w) (hret : ∀ f w, Fin79 X w0 b it p0 w → Q .ret (mkAct 639 f) w)
  {f : Slots} {w : World} (hJ : JL X w0 b it p0 di f w) : tail79.wp Tryz.prog Q (mkAct 639 f) w := by
 obtain ⟨off, tb, ei, S, ⟨f0, rfl⟩, ⟨hM, hbS, hr, hst⟩, hT, hei, hoff, hdead⟩ := hJ
 obtain ⟨p, hp7, hnp⟩ := hT.pow
 have hn0 : 0 < (X.T tb).n := by rw [hnp]; exact Nat.two_pow_pos _
 have hn1 : (X.T tb).n ≤ 128 := by rw [hnp]; exact (show 2 ^ p ≤ 2 ^ 7 from Nat.pow_le_pow_right (by omega) hp7)
 refine rs hM ?_
 refine mv ?_
 refine nck ?_
 refine fa fr106_11 ?_
 refine lo (v := u64 ei) ld22 hbS ?_
 refine rw_bin rfl rfl rfl rfl (b_add64 _ 1) ?_
 refine nck ?_
 refine fa fr106_11 ?_
 refine rw_store1 (v := .int .u64 _) sz22 rfl rfl rfl rfl hbS rfl rfl (by nofun) (fun S62 hS62 kS62 => ?_)
 refine rw_nil ?_; intro w hM
 refine rs hM ?_
 refine asg ?_
 refine rw_nil ?_; intro w hM
 refine wp_block ?_
 refine in79 hDb hE Ty hEb hV hwr hU hb him hity hT (p0 := p0) (di := di) (off := off) (S := S62) (ei := ei + 1) (grp := some ⟨(X.T tb).gb, 17 * ((ei + it.eo) % (8 * (X.T tb).n) / 8), none⟩) (fun f w S ei grp hf hA h1 h2 => ?_) (fun f w h => ?_) (Know.of ⟨rfl, rfl, rfl, trivial⟩) ⟨hM, ?_, fun y hyb => (kS62 _ hyb).trans (hr y hyb), hst.step (.skip hei hdead)⟩ (GrpOK.succ hn0) hei
 ·exact hend _ _ ⟨off, tb, ei, grp, S, hf, hA, hT, h1, h2, hoff⟩
 ·exact hret _ _ h
 ·rw [hS62, show (ei + 1) % 2 ^ 64 = ei + 1 by omega]; rfl
/-- She stands ahead of a table or in one. -/
def Out79 (X : Scene) (w0 : World) (b : Nat) (it : ItV) (p0 p : Pos) (f : Slots) (w : World) : Prop := ∃ grp S, Know f [(0, .pointer (some ⟨b, 0, none⟩))] ∧ At79 X w0 b it p0 p grp w S ∧ p.off < 2 ^ 64 ∧
 ((p.tab = none ∧ p.ei = 0 ∧ grp = none) ∨ ∃ tb, p.tab = some tb ∧ TabIs X tb ∧ GrpOK (X.T tb) it.eo p.ei grp ∧ p.ei ≤ 2000)
noncomputable def scope79 : Code := nav [1, 1, 1, 1, 0, 0, 0, 1, 0, 0] (Tryz.f79.body.getD .skip)
set_option maxHeartbeats 8000000 in
theorem sc79 {X : Scene} {w0 : World} (hDb : HasDb w0) {E : Heap} {bty : Nat} {nu : Bool} (hE : E.le X.H) (Ty : TypOK X.K w0 E bty nu) {b bm : Nat} (hEb : E b = none) (hV : MapIs X.K X.H bm X.m X.V) {db : Nat} {D : Dir} (hX : X.V = .big db D) (hok : X.OK) (hwr : X.m.wr = 0) (hU : X.m.used = 0 → ∀ g s k e, ¬ X.V.live g s k e)
  {it : ItV} (hb : X.H b = some (encIt it)) (him : it.m = some ⟨bm, 0, none⟩) (hity : it.typ = some ⟨bty, 0, none⟩) {p0 p : Pos} {Q : Exit → Act → World → Prop} (hdi : p.di < 2 ^ D.gd)
  (hend : ∀ f w, Done79 X w0 b it p0 p.di f w → Q .normal (mkAct 639 f) w) (hend3 : ∀ f w, Done79 X w0 b it p0 p.di f w → Q (.exit 3) (mkAct 639 f) w) (hret : ∀ f w, Fin79 X w0 b it p0 w → Q .ret (mkAct 639 f) w)
  {f : Slots} {w : World} (hO : Out79 X w0 b it p0 p f w) : scope79.wp Tryz.prog Q (mkAct 639 f) w := by
 have hVb := hV
 rw [hX] at hVb
 obtain ⟨_, hmb, hA, hD, hg40⟩ := hVb
 have hbm : bm ≠ b := ne_of_ty hV.cell hb rfl rfl rfl
 have hp40 : 2 ^ D.gd ≤ 2 ^ 40 := Nat.pow_le_pow_right (by omega) hg40
 refine wp_scope_jumps 0 (fun a w => ∃ f, a = mkAct 639 f ∧ JL X w0 b it p0 p.di f w) (fun _ _ => 0) rfl ?_ ?_
 rotate_left
 ·rintro a w ⟨f, rfl, hJ⟩
  refine wp_seq (wp_skip ?_)
  exact tl79 (Q := Exit.jump 0 _ Q) hDb hE Ty hEb hV hwr hU hb him hity (fun f w h => hend f w h) (fun f w h => hret f w h) hJ
 obtain ⟨grp, S, ⟨f0, rfl⟩, ⟨hM, hbS, hr, hst⟩, hoff, hcase⟩ := hO
 obtain ⟨di, off, tab, ei⟩ := p
 simp only at hdi hcase hoff
 refine wp_seq_mid (fun f w => ∃ off tb ei grp S, Know f [(0, .pointer (some ⟨b, 0, none⟩))] ∧ At79 X w0 b it p0 ⟨di, off, some tb, ei⟩ grp w S ∧ TabIs X tb ∧ GrpOK (X.T tb) it.eo ei grp ∧ ei ≤ 2000 ∧ off < 2 ^ 64) ?_ ?_
 ·rcases hcase with ⟨rfl, rfl, rfl⟩ | ⟨tb, rfl, hT, hG, hei⟩
  ·have hmS : S bm = some (encM X.m) := (hr _ hbm).trans hV.cell
   have hdbS : S db = some (encD (2 ^ D.gd) (fun i => some ⟨D.d i, 0, none⟩)) := (hr _ (ne_of_ty hA.dir hb rfl rfl rfl)).trans hA.dir
   obtain ⟨idx, hidx⟩ : ∃ idx, idx = (di + off) % 2 ^ D.gd := ⟨_, rfl⟩
   have hil : idx < 2 ^ D.gd := by rw [hidx]; exact Nat.mod_lt _ (Nat.two_pow_pos _)
   have hmS2 : objCell (encIt (it.to X.m.gd ⟨di, off, none, 0⟩ none)) 3 = some (.pointer (some ⟨bm, 0, none⟩)) := by rw [← him]; rfl
   have hland : ((di % 2 ^ 64 + off) % 2 ^ 64) &&& (2 ^ D.gd - 1) = idx := by
    rw [Nat.and_two_pow_sub_one_eq_mod, Nat.mod_mod_of_dvd _ (Nat.pow_dvd_pow 2 (by omega)), hidx, show di % 2 ^ 64 = di by omega]
   have hp1 : 0 < 2 ^ D.gd := Nat.two_pow_pos _
   have hix := hD.dok.idx idx hil
   obtain ⟨ix, hixd⟩ : ∃ ix, ix = base D.gd (D.tab idx).ld idx := ⟨_, rfl⟩
   have hixe : (D.tab idx).index = (ix : Nat) := by rw [hixd]; exact hix
   have hle : ix ≤ idx := by rw [hixd]; exact base_le _ _ _
   have htS : S (D.d idx) = some (encT (D.tab idx)) := (hr _ (ne_of_ty (hA.tabs idx hil) hb rfl rfl rfl)).trans (hA.tabs idx hil)
   have hXT : X.T (D.d idx) = D.tab idx := hok db D idx hX hil
   have hT : TabIs X (D.d idx) := by
    refine ⟨?_, ?_, ?_, ?_, ?_, ?_⟩ <;> rw [hXT]
    ·exact hA.tabs idx hil
    ·exact hA.grs idx hil
    ·exact (hD.tok idx hil).sl
    ·exact (hD.tok idx hil).pow
    ·exact (hD.tok idx hil).cap
    ·rw [hmb.gd]; exact hD.dok.ld idx hil
   obtain ⟨off', hoff'⟩ : ∃ off', off' = (off + 2 ^ 64 - (idx - ix)) % 2 ^ 64 := ⟨_, rfl⟩
   have hstep : X.Step (decide (it.clr = X.m.clr)) it.eo ⟨di, off, none, 0⟩ ⟨di, off', some (D.d idx), 0⟩ := by rw [hoff']; exact .resolve hX hdi hidx hixe hle
   refine rs hM ?_
   refine mv ?_
   refine nck ?_
   refine fa fr106_9 ?_
   refine lo ld101 hbS ?_
   refine rw_bin rfl rfl rfl rfl (b_nil_eq none Tryz.underlying101) ?_
   refine rw_nil ?_; intro w hM
   refine wp_if (tmp_lt rfl) rfl (fun hc => ?_) (by nofun)
   refine wp_mix_seq [] [] [0, 1, 2, 3, 4, 5, 6, 7, 8, 9, 10, 11, 12, 13, 14, 15, 16, 17, 18, 19, 20, 21] S mixed (by kernel_rfl) (Heap.le_refl _) hM ?_
   refine mv ?_
   refine nck ?_
   refine fa fr106_8 ?_
   refine lo (v := i64 (di : Nat)) ld3 hbS ?_
   refine rw_conv rfl rfl rfl (c_nat rfl Tryz.underlying3 Tryz.underlying22 _) ?_
   refine mv ?_
   refine nck ?_
   refine fa fr106_5 ?_
   refine lo (v := u64 off) ld22 hbS ?_
   refine rw_bin rfl rfl rfl rfl (b_add64 _ _) ?_
   refine mv ?_
   refine nck ?_
   refine fa fr106_3 ?_
   refine rw_load (v := .pointer (some ⟨bm, 0, none⟩)) ld96 rfl rfl rfl hbS hmS2 ?_
   refine nck ?_
   refine fa fr132_4 ?_
   refine rw_load (v := i64 (2 ^ D.gd : Nat)) ld3 rfl rfl rfl hmS (by rw [← hmb.len]; rfl) ?_
   refine rw_bin (v := i64 (2 ^ D.gd - 1 : Nat)) rfl rfl rfl rfl (bin_eq (b_subi (by omega) (by omega)) (by congr 1; omega)) ?_
   refine rw_conv rfl rfl rfl (c_u64 Tryz.underlying3 Tryz.underlying22 _ (by omega)) ?_
   refine rw_bin (v := u64 idx) rfl rfl rfl rfl (bin_eq (b_and64 _ _ (Nat.mod_lt _ (by decide)) (by omega)) (congrArg u64 hland)) ?_
   refine rw_conv rfl rfl rfl (c_i64 Tryz.underlying22 Tryz.underlying3 (by omega) (by omega)) ?_
   refine asg ?_
   refine rw_nil ?_; intro w hM
   refine rs hM ?_
   refine mv ?_
   refine nck ?_
   refine fa fr106_3 ?_
   refine rw_load (v := .pointer (some ⟨bm, 0, none⟩)) ld96 rfl rfl rfl hbS hmS2 ?_
   refine mv ?_
   refine rw_conv rfl rfl rfl (c_u64 Tryz.underlying3 Tryz.underlying12 idx (by omega)) ?_
   refine rw_callq (v := .pointer (some ⟨D.d idx, 0, none⟩)) cr77 rfl rfl (fun H' w hle hM => c77 (d := fun i => some ⟨D.d i, 0, none⟩) hM (hle _ _ hmS) hmb.dirp (by rw [hmb.len]; exact hle _ _ hdbS) (by rw [hmb.len]; exact hil)) rfl ?_
   refine asg ?_
   refine rw_nil ?_; intro w hM
   refine wp_seq_mid (fun f w => ∃ S, Know f [(0, .pointer (some ⟨b, 0, none⟩)), (11, .pointer (some ⟨D.d idx, 0, none⟩))] ∧ Mem w0 w S ∧ S b = some (encIt (it.to X.m.gd ⟨di, off', none, 0⟩ none)) ∧ ∀ y, y ≠ b → S y = X.H y) ?_ ?_
   ·by_cases he : ix = idx
    ·refine rs hM ?_
     refine mv ?_
     refine nck ?_
     refine fa fr158_4 ?_
     refine rw_load (v := i64 (ix : Nat)) ld3 rfl rfl rfl htS (by rw [← hixe]; rfl) ?_
     refine mv ?_
     refine rw_bin rfl rfl rfl rfl (b_false (b_ne _ _) (by rw [he]; exact bne_self_eq_false _)) ?_
     refine rw_nil ?_; intro w hM
     refine wp_if (tmp_lt rfl) rfl (by nofun) (fun hc => ?_)
     refine wp_skip ?_
     exact ⟨_, rfl, S, Know.of ⟨rfl, rfl, trivial⟩, hM, by rw [show off' = off by omega]; exact hbS, hr⟩
    ·refine rs hM ?_
     refine mv ?_
     refine nck ?_
     refine fa fr158_4 ?_
     refine rw_load (v := i64 (ix : Nat)) ld3 rfl rfl rfl htS (by rw [← hixe]; rfl) ?_
     refine mv ?_
     refine rw_bin rfl rfl rfl rfl (b_true (b_ne _ _) (bne_iff_ne.2 (by omega))) ?_
     refine rw_nil ?_; intro w hM
     refine wp_if (tmp_lt rfl) rfl (fun hc => ?_) (by nofun)
     refine rs hM ?_
     refine mv ?_
     refine mv ?_
     refine nck ?_
     refine fa fr158_4 ?_
     refine rw_load (v := i64 (ix : Nat)) ld3 rfl rfl rfl htS (by rw [← hixe]; rfl) ?_
     refine rw_bin (v := i64 (idx - ix : Nat)) rfl rfl rfl rfl (bin_eq (b_subi (by omega) (by omega)) (by congr 1; omega)) ?_
     refine asg ?_
     refine rw_nil ?_; intro w hM
     refine rs hM ?_
     refine mv ?_
     refine nck ?_
     refine fa fr106_5 ?_
     refine lo (v := u64 off) ld22 hbS ?_
     refine mv ?_
     refine rw_conv rfl rfl rfl (c_u64 Tryz.underlying3 Tryz.underlying22 (idx - ix) (by omega)) ?_
     refine rw_bin (v := u64 off') rfl rfl rfl rfl (bin_eq (b_sub64 off (idx - ix) (by omega)) (congrArg u64 hoff'.symm)) ?_
     refine nck ?_
     refine fa fr106_5 ?_
     refine rw_store1 (v := .int .u64 _) sz22 rfl rfl rfl rfl hbS rfl rfl (by nofun) (fun S39 hS39 kS39 => ?_)
     refine rw_nil ?_; intro w hM
     refine re hM ?_
     refine mv ?_
     refine nck ?_
     refine fa fr158_4 ?_
     refine rw_load (v := i64 (ix : Nat)) ld3 rfl rfl rfl ((kS39 _ (ne_of_ty htS hbS rfl rfl rfl)).trans htS) (by rw [← hixe]; rfl) ?_
     refine asg ?_
     refine rw_nil ?_; intro w hM
     exact ⟨_, rfl, S39, Know.of ⟨rfl, rfl, trivial⟩, hM, hS39.trans rfl, fun y hyb => (kS39 _ hyb).trans (hr y hyb)⟩
   clear hM hbS hr htS hmS hdbS
   rintro f w ⟨S, ⟨f1, rfl⟩, hM, hbS, hr⟩
   refine re hM ?_
   refine mv ?_
   refine mv ?_
   refine nck ?_
   refine fa fr106_9 ?_
   refine rw_store1 (v := .pointer _) sz101 rfl rfl rfl rfl hbS rfl rfl (by nofun) (fun S41 hS41 kS41 => ?_)
   refine rw_nil ?_; intro w hM
   exact ⟨_, rfl, _, D.d idx, 0, none, S41, Know.of ⟨rfl, trivial⟩, ⟨hM, hS41.trans rfl, fun y hyb => (kS41 _ hyb).trans (hr y hyb), hst.step hstep⟩, hT, fun _ _ => .inl rfl, by omega, by rw [hoff']; exact Nat.mod_lt _ (by decide)⟩
  ·refine rs hM ?_
   refine mv ?_
   refine nck ?_
   refine fa fr106_9 ?_
   refine lo (v := .pointer (some ⟨tb, 0, none⟩)) ld101 hbS ?_
   refine rw_bin rfl rfl rfl rfl (b_nil_eq (some _) Tryz.underlying101) ?_
   refine rw_nil ?_; intro w hM
   refine wp_if (tmp_lt rfl) rfl (by nofun) (fun hc => ?_)
   refine wp_skip ?_
   exact ⟨_, rfl, off, tb, ei, grp, S, Know.of ⟨rfl, trivial⟩, ⟨hM, hbS, hr, hst⟩, hT, hG, hei, hoff⟩
 clear hM hbS hr hst hcase hoff
 rintro f w ⟨off, tb, ei, grp, S, ⟨f1, rfl⟩, ⟨hM, hbS, hr, hst⟩, hT, hG, hei, hoff⟩
 obtain ⟨pw, hp7, hnp⟩ := hT.pow
 have hn0 : 0 < (X.T tb).n := by rw [hnp]; exact Nat.two_pow_pos _
 have hn1 : (X.T tb).n ≤ 128 := by rw [hnp]; exact (show 2 ^ pw ≤ 2 ^ 7 from Nat.pow_le_pow_right (by omega) hp7)
 have htb : tb ≠ b := ne_of_ty hT.mt hb rfl rfl rfl
 have hgb : (X.T tb).gb ≠ b := ne_of_ty hT.mg hb rfl rfl rfl
 have hES : E.le S := fun y u hy => (hr y (ne_of_none hEb hy)).trans (hE _ _ hy)
 have htS : S tb = some (encT (X.T tb)) := (hr _ htb).trans hT.mt
 have hgS : S (X.T tb).gb = some (encG (X.T tb).n (X.T tb).G) := (hr _ hgb).trans hT.mg
 refine rs hM ?_
 refine mv ?_
 refine nck ?_
 refine fa fr106_9 ?_
 refine lo (v := .pointer (some ⟨tb, 0, none⟩)) ld101 hbS ?_
 refine nck ?_
 refine fa fr158_1 ?_
 refine rw_load (v := u16 (8 * (X.T tb).n : Nat)) ld152 rfl rfl rfl htS (by rw [← hT.cap]; rfl) ?_
 refine rw_conv rfl rfl rfl (c_u64 Tryz.underlying152 Tryz.underlying22 (8 * (X.T tb).n) (by omega)) ?_
 refine rw_bin rfl rfl rfl rfl (b_sub64_le (8 * (X.T tb).n) 1 (by omega) (by omega)) ?_
 refine asg ?_
 refine rw_nil ?_; intro w hM
 refine wp_seq ?_
 refine rs hM ?_
 refine mv ?_
 refine nck ?_
 refine fa fr106_11 ?_
 refine lo (v := u64 ei) ld22 hbS ?_
 refine mv ?_
 refine rw_bin rfl rfl rfl rfl (b_gt _ _) ?_
 refine rw_nil ?_; intro w hM
 refine wp_if (tmp_lt rfl) rfl (fun hz => ?_) (fun hz => ?_)
 ·have hx' : 8 * (X.T tb).n ≤ ei := by have : ((ei : Nat) : Int) > ((8 * (X.T tb).n - 1 : Nat) : Int) := of_decide_eq_true hz; omega
  refine wp_exit ?_
  simp only [Exit.then, Exit.jump]
  exact hend3 _ _ ⟨off, tb, ei, grp, S, Know.of ⟨rfl, trivial⟩, ⟨hM, hbS, hr, hst⟩, hT, hx', hei, hoff⟩
 have hx' : ei < 8 * (X.T tb).n := by have : ¬ ((ei : Nat) : Int) > ((8 * (X.T tb).n - 1 : Nat) : Int) := of_decide_eq_false hz; omega
 refine wp_skip ?_
 have hslot := Nat.mod_lt (ei + it.eo) (show 0 < 8 * (X.T tb).n by omega)
 obtain ⟨sl, hsl⟩ : ∃ sl, sl = (ei + it.eo) % (8 * (X.T tb).n) := ⟨_, rfl⟩
 rw [← hsl] at hslot
 have hsl7 : sl &&& 7 = sl % 8 := Nat.and_two_pow_sub_one_eq_mod sl 3
 have hg1 : sl / 8 < (X.T tb).n := by omega
 refine wp_mix_seq [] [] [0, 1, 2, 3, 4, 5, 6, 7, 8, 9, 10, 11] S mixed (by kernel_rfl) (Heap.le_refl _) hM ?_
 refine mv ?_
 refine nck ?_
 refine fa fr106_11 ?_
 refine lo (v := u64 ei) ld22 hbS ?_
 refine mv ?_
 refine nck ?_
 refine fa fr106_4 ?_
 refine lo ld22 hbS ?_
 refine rw_bin rfl rfl rfl rfl (b_add64 _ _) ?_
 refine mv ?_
 refine rw_bin (v := u64 sl) rfl rfl rfl rfl (bin_eq (b_and64 _ _ (Nat.mod_lt _ (by decide)) (by omega)) (congrArg u64 ((slot_and hnp hp7).trans hsl.symm))) ?_
 refine asg ?_
 refine rw_nil ?_; intro w hM
 refine rs hM ?_
 refine mv ?_
 refine rw_bin (v := u64 (sl % 8)) rfl rfl rfl rfl (bin_eq (b_and64 sl 7 (by omega) (by decide)) (congrArg u64 hsl7)) ?_
 refine asg ?_
 refine rw_nil ?_; intro w hM
 refine wp_seq_mid (fun f w => ∃ S, Know f [(0, .pointer (some ⟨b, 0, none⟩)), (13, u64 (8 * (X.T tb).n - 1)), (14, u64 sl), (15, u64 (sl % 8))] ∧ At79 X w0 b it p0 ⟨di, off, some tb, ei⟩ (some ⟨(X.T tb).gb, 17 * (sl / 8), none⟩) w S) ?_ ?_
 ·have htyS : objCell (encIt (it.to X.m.gd ⟨di, off, some tb, ei⟩ grp)) 2 = some (.pointer (some ⟨bty, 0, none⟩)) := by rw [← hity]; rfl
  by_cases hq0 : sl % 8 = 0
  ·refine rs hM ?_
   refine mv ?_
   refine rw_bin rfl rfl rfl rfl (b_true (b_eq _ _) (beq_iff_eq.2 (by rw [hq0]; rfl))) ?_
   refine mv ?_
   refine rw_skip rfl rfl ?_
   refine rw_skip rfl rfl ?_
   refine rw_skip rfl rfl ?_
   refine rw_skip rfl rfl ?_
   refine rw_skip rfl rfl ?_
   refine rw_skip rfl rfl ?_
   refine rw_pick rfl rfl rfl rfl rfl ?_
   refine rw_nil ?_; intro w hM
   refine wp_if (tmp_lt rfl) rfl (fun hc => ?_) (by nofun)
   refine rs hM ?_
   refine mv ?_
   refine rw_bin (v := u64 (sl / 8)) rfl rfl rfl rfl (b_shr64 sl 3 (by decide)) ?_
   refine asg ?_
   refine rw_nil ?_; intro w hM
   refine wp_mix_end [15] [15] [0, 1, 2, 3, 4, 5, 6, 7, 8, 9, 10, 11, 12, 13, 14, 15] S mixed (by kernel_rfl) (Heap.le_refl _) hM ?_
   refine mv ?_
   refine mv ?_
   refine nck ?_
   refine fa fr106_9 ?_
   refine lo (v := .pointer (some ⟨tb, 0, none⟩)) ld101 hbS ?_
   refine nck ?_
   refine fa fr158_5 ?_
   refine mv ?_
   refine nck ?_
   refine fa fr106_2 ?_
   refine rw_load (v := .pointer (some ⟨bty, 0, none⟩)) ld82 rfl rfl rfl hbS htyS ?_
   refine mv ?_
   refine rw_callq cr93 rfl rfl (fun H' w hle hM => c93 hM (hle _ _ htS) rfl hg1) rfl ?_
   refine nck ?_
   refine fa fr106_10 ?_
   refine rw_store (v := .agg #[.pointer _]) sz104 rfl rfl rfl rfl hbS rfl rfl rfl (fun _ => ⟨rfl, rfl⟩) (fun S48 hS48 kS48 => ?_)
   refine rw_nil ?_; intro w hM
   exact ⟨_, rfl, S48, Know.of ⟨rfl, rfl, rfl, rfl, trivial⟩, hM, hS48.trans rfl, fun y hyb => (kS48 _ hyb).trans (hr y hyb), hst⟩
  ·have hqz : (((sl % 8 : Nat) : Int) == (0 : Int)) = false := nz (by omega)
   have hgo := hG hx' (by rw [← hsl]; exact hq0)
   rw [← hsl] at hgo
   rcases hgo with rfl | rfl
   ·refine rs hM ?_
    refine mv ?_
    refine rw_bin rfl rfl rfl rfl (b_false (b_eq _ _) hqz) ?_
    refine mv ?_
    refine mv ?_
    refine nck ?_
    refine fa fr106_10 ?_
    refine fa fr104_0 ?_
    refine lo (v := .pointer none) ld102 hbS ?_
    refine rw_bin rfl rfl rfl rfl (b_nil_eq none Tryz.underlying102) ?_
    refine rw_pick rfl rfl rfl rfl rfl ?_
    refine rw_nil ?_; intro w hM
    refine wp_if (tmp_lt rfl) rfl (fun hc => ?_) (by nofun)
    refine rs hM ?_
    refine mv ?_
    refine rw_bin (v := u64 (sl / 8)) rfl rfl rfl rfl (b_shr64 sl 3 (by decide)) ?_
    refine asg ?_
    refine rw_nil ?_; intro w hM
    refine wp_mix_end [15] [15] [0, 1, 2, 3, 4, 5, 6, 7, 8, 9, 10, 11, 12, 13, 14, 15] S mixed (by kernel_rfl) (Heap.le_refl _) hM ?_
    refine mv ?_
    refine mv ?_
    refine nck ?_
    refine fa fr106_9 ?_
    refine lo (v := .pointer (some ⟨tb, 0, none⟩)) ld101 hbS ?_
    refine nck ?_
    refine fa fr158_5 ?_
    refine mv ?_
    refine nck ?_
    refine fa fr106_2 ?_
    refine rw_load (v := .pointer (some ⟨bty, 0, none⟩)) ld82 rfl rfl rfl hbS htyS ?_
    refine mv ?_
    refine rw_callq cr93 rfl rfl (fun H' w hle hM => c93 hM (hle _ _ htS) rfl hg1) rfl ?_
    refine nck ?_
    refine fa fr106_10 ?_
    refine rw_store (v := .agg #[.pointer _]) sz104 rfl rfl rfl rfl hbS rfl rfl rfl (fun _ => ⟨rfl, rfl⟩) (fun S48 hS48 kS48 => ?_)
    refine rw_nil ?_; intro w hM
    exact ⟨_, rfl, S48, Know.of ⟨rfl, rfl, rfl, rfl, trivial⟩, hM, hS48.trans rfl, fun y hyb => (kS48 _ hyb).trans (hr y hyb), hst⟩
   ·refine rs hM ?_
    refine mv ?_
    refine rw_bin rfl rfl rfl rfl (b_false (b_eq _ _) hqz) ?_
    refine mv ?_
    refine mv ?_
    refine nck ?_
    refine fa fr106_10 ?_
    refine fa fr104_0 ?_
    refine lo (v := .pointer (some ⟨(X.T tb).gb, 17 * (sl / 8), none⟩)) ld102 hbS ?_
    refine rw_bin rfl rfl rfl rfl (b_nil_eq (some _) Tryz.underlying102) ?_
    refine rw_pick rfl rfl rfl rfl rfl ?_
    refine rw_nil ?_; intro w hM
    refine wp_if (tmp_lt rfl) rfl (by nofun) (fun hc => ?_)
    refine wp_skip ?_
    exact ⟨_, rfl, S, Know.of ⟨rfl, rfl, rfl, rfl, trivial⟩, hM, hbS, hr, hst⟩
 clear hM hbS hr hG hES htS hgS
 rintro f w ⟨S, ⟨f2, rfl⟩, ⟨hM, hbS, hr, _⟩⟩
 have hES : E.le S := fun y u hy => (hr y (ne_of_none hEb hy)).trans (hE _ _ hy)
 have htS : S tb = some (encT (X.T tb)) := (hr _ htb).trans hT.mt
 have hgS : S (X.T tb).gb = some (encG (X.T tb).n (X.T tb).G) := (hr _ hgb).trans hT.mg
 have hVS : MapIs X.K S bm X.m X.V := hV.off hb hr
 obtain ⟨g, hgd⟩ : ∃ g, g = sl / 8 := ⟨_, rfl⟩
 obtain ⟨q, hq⟩ : ∃ q, q = sl % 8 := ⟨_, rfl⟩
 have hq8 : q < 8 := by omega
 have hsq : sl = 8 * g + q := by omega
 have hbS0 := hbS
 rw [← hgd] at hbS hg1
 rw [← hq]
 have hgrpS : objCell (encIt (it.to X.m.gd ⟨di, off, some tb, ei⟩ (some ⟨(X.T tb).gb, 17 * g, none⟩))) 10 = some (.pointer (some ⟨(X.T tb).gb, 17 * g, none⟩)) := rfl
 have htyS : objCell (encIt (it.to X.m.gd ⟨di, off, some tb, ei⟩ (some ⟨(X.T tb).gb, 17 * g, none⟩))) 2 = some (.pointer (some ⟨bty, 0, none⟩)) := by rw [← hity]; rfl
 have hatq : (X.T tb).G.at g q = (X.T tb).G.c sl := by rw [hsq]; rfl
 have hbyte := hT.sl.ok.1 sl
 have hgrb := Gr.bytes hT.sl.ok g
 have hctrl : objCell (encG (X.T tb).n (X.T tb).G) (17 * g) = some (u64 (word ((X.T tb).G.at g))) := encG_ctrl hg1
 refine wp_seq ?_
 refine rs hM ?_
 refine mv ?_
 refine nck ?_
 refine fa fr106_10 ?_
 refine rw_callq cr90 rfl rfl (fun H' w hle hM => c90 hM (hle _ _ hbS) hgrpS) rfl ?_
 refine mv ?_
 refine rw_callq cr95 rfl rfl (fun H' w hle hM => c95 hM hgrb (hle _ _ hgS) hctrl hq8) rfl ?_
 refine rw_bin rfl rfl rfl rfl (b_and8 _ 128 (hgrb q hq8) (by decide)) ?_
 refine rw_bin rfl rfl rfl rfl (b_eq _ _) ?_
 refine rw_nil ?_; intro w hM
 refine wp_if (tmp_lt rfl) rfl (fun hy => ?_) (fun hy => ?_)
 rotate_left
 ·have hy' : ¬ (X.T tb).G.at g q < 128 := of_decide_eq_false ((byte_low _ (hgrb q hq8)).symm.trans hy)
  refine wp_skip ?_
  simp only [Exit.then]
  refine wp_seq (wp_label ?_)
  refine tl79 (Q := Exit.jump 0 _ Q) hDb hE Ty hEb hV hwr hU hb him hity (fun f w h => hend f w h) (fun f w h => hret f w h) ?_
  exact ⟨off, tb, ei, S, Know.of ⟨rfl, rfl, trivial⟩, ⟨hM, by rw [← hsl]; exact hbS0, hr, hst⟩, hT, hx', hoff, .inl (by rw [← hsl, ← hatq]; omega)⟩
 have hy' : (X.T tb).G.c sl < 128 := by rw [← hatq]; exact of_decide_eq_true ((byte_low _ (hgrb q hq8)).symm.trans hy)
 have hfq : (X.T tb).G.c (8 * g + q) < 128 := by rw [← hsq]; exact hy'
 refine wp_mix_seq [] [] [0, 1, 2, 3, 4, 5, 6, 7, 8, 9] S mixed (by kernel_rfl) (Heap.le_refl _) hM ?_
 refine mv ?_
 refine nck ?_
 refine fa fr106_10 ?_
 refine mv ?_
 refine nck ?_
 refine fa fr106_2 ?_
 refine rw_load (v := .pointer (some ⟨bty, 0, none⟩)) ld82 rfl rfl rfl hbS htyS ?_
 refine mv ?_
 refine rw_callq cr96 rfl rfl (fun H' w hle hM => c96 hM (hle _ _ hbS) hgrpS hq8) rfl ?_
 refine asg ?_
 refine rw_nil ?_; intro w hM
 refine rs hM ?_
 refine mv ?_
 refine nck ?_
 refine fa fr106_9 ?_
 refine lo (v := .pointer (some ⟨tb, 0, none⟩)) ld101 hbS ?_
 refine nck ?_
 refine fa fr158_4 ?_
 refine lo (v := i64 (X.T tb).index) ld3 htS ?_
 refine rw_bin rfl rfl rfl rfl (b_eq _ _) ?_
 refine asg ?_
 refine rw_nil ?_; intro w hM
 refine rs hM ?_
 refine asg ?_
 refine rw_nil ?_; intro w hM
 refine wp_seq_mid (fun f w => ∃ ka ea, Know f [(0, .pointer (some ⟨b, 0, none⟩)), (17, .pointer (some ka)), (19, .pointer (some ea))] ∧ X.told (decide (it.clr = X.m.clr)) (decide ((X.T tb).index = -1)) (X.T tb).gb sl (X.T tb).G ka ea ∧ Mem w0 w S) ?_ ?_
 ·refine rs hM ?_
  refine mv ?_
  refine rw_nil ?_; intro w hM
  refine wp_if (tmp_lt rfl) rfl (fun hc => ?_) (fun hc => ?_)
  ·have hix : (X.T tb).index = -1 := beq_iff_eq.1 hc
   have hdx : decide ((X.T tb).index = -1) = true := decide_eq_true hix
   have hkl := hT.sl.ok.2.1 (8 * g + q)
   have h100 : ∀ {H' : Heap} {w : World}, S.le H' → Mem w0 w H' → Calls Tryz.prog 100 [.pointer (some ⟨b, 0, none⟩), .pointer (some ⟨(X.T tb).gb, 17 * g + 1 + q, none⟩), u64 q].toArray w (Keeps w0 H' (grownRes X.K X.V (decide (it.clr = X.m.clr)) ((X.T tb).G.k (8 * g + q)) (X.T tb).gb (17 * g + 1 + q) (17 * g + 9 + q))) := fun hle hM =>
    c100 (i := it.to X.m.gd ⟨di, off, some tb, ei⟩ (some ⟨(X.T tb).gb, 17 * g, none⟩)) hM hDb (Heap.le_trans hES hle) Ty (hVS.mono hle) hwr hU (hle _ _ hbS) him hity (hle _ _ hgS) rfl hg1 hq8 rfl hkl
   rcases grown_cases (X := X) (same := decide (it.clr = X.m.clr)) (g := (X.T tb).gb) hq8 hfq with ⟨ka, ea, hres, htold⟩ | ⟨hres, hdead⟩
   ·rw [hres] at h100
    refine rs hM ?_
    refine mv ?_
    refine mv ?_
    refine mv ?_
    refine rw_callq (v := .tuple #[.pointer (some ka), .pointer (some ea), .bool true]) cr100 rfl rfl (fun H' w hle hM => h100 hle hM) rfl ?_
    refine mv ?_
    refine rw_extract rfl rfl rfl rfl ?_
    refine rw_extract rfl rfl rfl rfl ?_
    refine rw_extract rfl rfl rfl rfl ?_
    refine asg ?_
    refine asg ?_
    refine asg ?_
    refine rw_nil ?_; intro w hM
    refine rs hM ?_
    refine mv ?_
    refine rw_un rfl rfl rfl (u_not _) ?_
    refine rw_nil ?_; intro w hM
    refine wp_if (tmp_lt rfl) rfl (by nofun) (fun hc => ?_)
    refine rs hM ?_
    refine mv ?_
    refine asg ?_
    refine rw_nil ?_; intro w hM
    refine re hM ?_
    refine mv ?_
    refine asg ?_
    refine rw_nil ?_; intro w hM
    exact ⟨_, rfl, ka, ea, Know.of ⟨rfl, rfl, rfl, trivial⟩, by rw [hdx, hsq]; exact htold, hM⟩
   ·rw [hres] at h100
    refine rs hM ?_
    refine mv ?_
    refine mv ?_
    refine mv ?_
    refine rw_callq (v := .tuple #[.pointer none, .pointer none, .bool false]) cr100 rfl rfl (fun H' w hle hM => h100 hle hM) rfl ?_
    refine mv ?_
    refine rw_extract rfl rfl rfl rfl ?_
    refine rw_extract rfl rfl rfl rfl ?_
    refine rw_extract rfl rfl rfl rfl ?_
    refine asg ?_
    refine asg ?_
    refine asg ?_
    refine rw_nil ?_; intro w hM
    refine rs hM ?_
    refine mv ?_
    refine rw_un rfl rfl rfl (u_not _) ?_
    refine rw_nil ?_; intro w hM
    refine wp_if (tmp_lt rfl) rfl (fun hc => ?_) (by nofun)
    refine wp_goto ?_
    simp only [Exit.then, Exit.jump]
    exact ⟨trivial, _, rfl, off, tb, ei, S, Know.of ⟨rfl, rfl, trivial⟩, ⟨hM, by rw [← hsl]; exact hbS0, hr, hst⟩, hT, hx', hoff, by rw [← hsl, hdx, hsq]; exact hdead⟩
  ·have hix : (X.T tb).index ≠ -1 := fun e => by rw [e] at hc; cases hc
   have hdx : decide ((X.T tb).index = -1) = false := decide_eq_false hix
   refine wp_mix_end [] [] [0, 1, 2, 3, 4, 5, 6, 7, 8, 9] S mixed (by kernel_rfl) (Heap.le_refl _) hM ?_
   refine mv ?_
   refine nck ?_
   refine fa fr106_10 ?_
   refine mv ?_
   refine nck ?_
   refine fa fr106_2 ?_
   refine rw_load (v := .pointer (some ⟨bty, 0, none⟩)) ld82 rfl rfl rfl hbS htyS ?_
   refine mv ?_
   refine rw_callq cr98 rfl rfl (fun H' w hle hM => c98 hM (hle _ _ hbS) hgrpS hq8) rfl ?_
   refine asg ?_
   refine rw_nil ?_; intro w hM
   exact ⟨_, rfl, ⟨(X.T tb).gb, 17 * g + 1 + q, none⟩, ⟨(X.T tb).gb, 17 * g + 9 + q, none⟩, Know.of ⟨rfl, rfl, rfl, trivial⟩, ⟨hy', .inl ⟨hdx, by rw [← hgd, ← hq], by rw [← hgd, ← hq]⟩⟩, hM⟩
 clear hM
 rintro f w ⟨ka, ea, ⟨f3, rfl⟩, htold, hM⟩
 refine rs hM ?_
 refine mv ?_
 refine nck ?_
 refine fa fr106_11 ?_
 refine lo (v := u64 ei) ld22 hbS ?_
 refine rw_bin rfl rfl rfl rfl (b_add64 _ 1) ?_
 refine nck ?_
 refine fa fr106_11 ?_
 refine rw_store1 (v := .int .u64 _) sz22 rfl rfl rfl rfl hbS rfl rfl (by nofun) (fun S59 hS59 kS59 => ?_)
 refine rw_nil ?_; intro w hM
 refine rs hM ?_
 refine mv ?_
 refine mv ?_
 refine nck ?_
 refine fa fr106_0 ?_
 refine rw_store1 (v := .pointer _) sz83 rfl rfl rfl rfl hS59 rfl rfl (by nofun) (fun S60 hS60 kS60 => ?_)
 refine rw_nil ?_; intro w hM
 refine rs hM ?_
 refine mv ?_
 refine mv ?_
 refine nck ?_
 refine fa fr106_1 ?_
 refine rw_store1 (v := .pointer _) sz100 rfl rfl rfl rfl hS60 rfl rfl (by nofun) (fun S61 hS61 kS61 => ?_)
 refine rw_nil ?_; intro w hM
 refine wp_ret ?_
 simp only [Exit.then, Exit.jump]
 refine hret _ _ ⟨S61, { it.to X.m.gd ⟨di, off, some tb, ei + 1⟩ (some ⟨(X.T tb).gb, 17 * g, none⟩) with key := some ka, elem := some ea }, hM, ?_, fun y hyb => by rw [kS61 _ hyb, kS60 _ hyb, kS59 _ hyb, hr _ hyb], .inr ⟨di, off, tb, ei, ei + 1, some ⟨(X.T tb).gb, 17 * g, none⟩, ka, ea, hst, hx', by rw [← hsl]; exact htold, .refl _, ?_, by omega, rfl⟩⟩
 ·rw [hS61, show (ei + 1) % 2 ^ 64 = ei + 1 by omega]; rfl
 ·have := GrpOK.succ (t := X.T tb) (eo := it.eo) (ei := ei) hn0
  rw [← hsl, ← hgd] at this; exact this
/-- Where she stands when the directory has the depth gd. -/
def ItV.pos (it : ItV) (d gd : Nat) (tab : Option Nat) : Pos := ⟨d * 2 ^ (gd - it.gd), it.off * 2 ^ (gd - it.gd) % 2 ^ 64, tab, it.ei⟩
noncomputable def loop79 : Code := nav [1, 1, 1, 1, 0, 0] (Tryz.f79.body.getD .skip)
set_option maxHeartbeats 8000000 in
theorem lp79 {X : Scene} {w0 : World} (hDb : HasDb w0) {E : Heap} {bty : Nat} {nu : Bool} (hE : E.le X.H) (Ty : TypOK X.K w0 E bty nu) {b bm : Nat} (hEb : E b = none) (hV : MapIs X.K X.H bm X.m X.V) {db : Nat} {D : Dir} (hX : X.V = .big db D) (hok : X.OK) (hwr : X.m.wr = 0) (hU : X.m.used = 0 → ∀ g s k e, ¬ X.V.live g s k e)
  {it : ItV} (hb : X.H b = some (encIt it)) (him : it.m = some ⟨bm, 0, none⟩) (hity : it.typ = some ⟨bty, 0, none⟩) {p0 : Pos} {Q : Exit → Act → World → Prop}
  (hend : ∀ f w di off grp S, Know f [(0, .pointer (some ⟨b, 0, none⟩))] → At79 X w0 b it p0 ⟨di, off, none, 0⟩ grp w S → 2 ^ X.m.gd ≤ di → Q (.exit 2) (mkAct 639 f) w) (hret : ∀ f w, Fin79 X w0 b it p0 w → Q .ret (mkAct 639 f) w)
  {f : Slots} {w : World} (hO : Out79 X w0 b it p0 p0 f w) (h0 : p0.di ≤ 2 ^ D.gd) (h1 : p0.tab ≠ none → p0.di < 2 ^ D.gd) : loop79.wp Tryz.prog Q (mkAct 639 f) w := by
 have hVb := hV
 rw [hX] at hVb
 obtain ⟨_, hmb, hA, hD, hg40⟩ := hVb
 have hbm : bm ≠ b := ne_of_ty hV.cell hb rfl rfl rfl
 have hp40 : 2 ^ D.gd ≤ 2 ^ 40 := Nat.pow_le_pow_right (by omega) hg40
 refine wp_loop_s (fun k f w => ∃ p, k = 2 ^ D.gd - p.di ∧ p.di ≤ 2 ^ 41 ∧ (p.tab ≠ none → p.di < 2 ^ D.gd) ∧ Out79 X w0 b it p0 p f w) (2 ^ D.gd - p0.di) ?_ ?_
 ·exact ⟨p0, rfl, by omega, h1, hO⟩
 clear hO h0 h1
 rintro k f w ⟨p, rfl, hp, htb, hO⟩
 have hO' := hO
 obtain ⟨grp, S, ⟨f0, rfl⟩, ⟨hM, hbS, hr, hst⟩, hoff, hcase⟩ := hO'
 have hmS : S bm = some (encM X.m) := (hr _ hbm).trans hV.cell
 have hmS2 : objCell (encIt (it.to X.m.gd p grp)) 3 = some (.pointer (some ⟨bm, 0, none⟩)) := by rw [← him]; rfl
 refine wp_seq ?_
 refine wp_mix_seq [] [] [0, 1, 2, 3, 4, 5, 6, 7, 8, 9, 10, 11] S mixed (by kernel_rfl) (Heap.le_refl _) hM ?_
 refine mv ?_
 refine nck ?_
 refine fa fr106_8 ?_
 refine lo (v := i64 (p.di : Nat)) ld3 hbS ?_
 refine mv ?_
 refine nck ?_
 refine fa fr106_3 ?_
 refine rw_load (v := .pointer (some ⟨bm, 0, none⟩)) ld96 rfl rfl rfl hbS hmS2 ?_
 refine nck ?_
 refine fa fr132_4 ?_
 refine rw_load (v := i64 (2 ^ D.gd : Nat)) ld3 rfl rfl rfl hmS (by rw [← hmb.len]; rfl) ?_
 refine rw_bin rfl rfl rfl rfl (b_lt _ _) ?_
 refine rw_nil ?_; intro w hM
 refine wp_if (tmp_lt rfl) rfl (fun hz => ?_) (fun hz => ?_)
 rotate_left
 ·have hge : 2 ^ D.gd ≤ p.di := by have : ¬ ((p.di : Nat) : Int) < ((2 ^ D.gd : Nat) : Int) := of_decide_eq_false hz; omega
  refine wp_exit ?_
  simp only [Exit.then]
  obtain ⟨di, off, tab, ei⟩ := p
  simp only at htb hge hcase
  rcases hcase with ⟨rfl, rfl, rfl⟩ | ⟨tb, rfl, _⟩
  ·exact hend _ _ di off none S (Know.of ⟨rfl, trivial⟩) ⟨hM, hbS, hr, hst⟩ (by rw [hmb.gd]; exact hge)
  ·have := htb (by simp); omega
 have hlt : p.di < 2 ^ D.gd := by have : ((p.di : Nat) : Int) < ((2 ^ D.gd : Nat) : Int) := of_decide_eq_true hz; omega
 refine wp_skip ?_
 refine wp_seq_mid (fun f w => Done79 X w0 b it p0 p.di f w) ?_ ?_
 ·refine wp_block ?_
  refine sc79 hDb hE Ty hEb hV hX hok hwr hU hb him hity (p := p) (p0 := p0) hlt (fun f w h => ?_) (fun f w h => ?_) (fun f w h => ?_) ?_
  ·exact ⟨_, rfl, h⟩
  ·simp only [Exit.inBlock, if_true]; exact ⟨_, rfl, h⟩
  ·simp only [Exit.inBlock, Exit.then]; exact hret _ _ h
  ·exact ⟨grp, S, Know.of ⟨rfl, trivial⟩, ⟨hM, hbS, hr, hst⟩, hoff, hcase⟩
 clear hM hbS hr hst hoff hcase hmS hmS2 hO
 rintro f w ⟨off, tb, ei, grp, S, ⟨f1, rfl⟩, ⟨hM, hbS, hr, hst⟩, hT, hei, hei2, hoff⟩
 have hmS : S bm = some (encM X.m) := (hr _ hbm).trans hV.cell
 have htS : S tb = some (encT (X.T tb)) := (hr _ (ne_of_ty hT.mt hb rfl rfl rfl)).trans hT.mt
 have hld := hT.ld
 refine re hM ?_
 refine mv ?_
 refine rw_callS cr99 rfl rfl (fun w hM => c99 (i := it.to X.m.gd ⟨p.di, off, some tb, ei⟩ grp) (t := X.T tb) hM hbS hmS htS him rfl hld (by rw [hmb.gd]; exact hg40) (by show (0 : Int) ≤ ((p.di : Nat) : Int); omega) (by show ((p.di : Nat) : Int) ≤ _; omega)) rfl (by nofun) (fun S33 hS33 kS33 => ?_)
 refine rw_nil ?_; intro w hM
 have hpp : 0 < 2 ^ (X.m.gd - (X.T tb).ld) := Nat.two_pow_pos _
 have hpq : 2 ^ (X.m.gd - (X.T tb).ld) ≤ 2 ^ 40 := Nat.pow_le_pow_right (by omega) (by rw [hmb.gd]; omega)
 refine ⟨2 ^ D.gd - (p.di + 2 ^ (X.m.gd - (X.T tb).ld)), _, rfl, by omega, ⟨p.di + 2 ^ (X.m.gd - (X.T tb).ld), off, none, 0⟩, rfl, by show p.di + _ ≤ _; omega, fun h => absurd rfl h, none, S33, Know.of ⟨rfl, trivial⟩, ⟨hM, hS33.trans ?_, fun y hyb => (kS33 _ hyb).trans (hr y hyb), hst.step (.next hei hld)⟩, hoff, .inl ⟨rfl, rfl, rfl⟩⟩
 rfl
set_option maxHeartbeats 8000000 in
theorem c79b {X : Scene} {w0 w : World} (hM : Mem w0 w X.H) (hDb : HasDb w0) {E : Heap} {bty : Nat} {nu : Bool} (hE : E.le X.H) (Ty : TypOK X.K w0 E bty nu) {b bm : Nat} (hEb : E b = none) (hV : MapIs X.K X.H bm X.m X.V) {db : Nat} {D : Dir} (hX : X.V = .big db D) (hok : X.OK) (hwr : X.m.wr = 0) (hU : X.m.used = 0 → ∀ g s k e, ¬ X.V.live g s k e)
  {it : ItV} (hb : X.H b = some (encIt it)) (him : it.m = some ⟨bm, 0, none⟩) (hity : it.typ = some ⟨bty, 0, none⟩) {d : Nat} (hd : it.di = (d : Nat)) {tab : Option Nat} (ht : it.tab = tab.map fun b => ⟨b, 0, none⟩) (hgd : it.gd ≤ D.gd) (hoff : it.off < 2 ^ 64) (h0 : d ≤ 2 ^ it.gd) (h1 : tab ≠ none → d < 2 ^ it.gd)
  (hcase : (tab = none ∧ it.ei = 0 ∧ it.grp = none) ∨ ∃ tb, tab = some tb ∧ TabIs X tb ∧ GrpOK (X.T tb) it.eo it.ei it.grp ∧ it.ei ≤ 2000) :
  Calls Tryz.prog 79 [.pointer (some ⟨b, 0, none⟩)].toArray w (Gives w0 fun v S => v = .tuple #[] ∧ ∃ it', S b = some (encIt it') ∧ NextBig X it (it.pos d D.gd tab) it' ∧ ∀ y, y ≠ b → S y = X.H y) := by
 have hVb := hV
 rw [hX] at hVb
 obtain ⟨_, hmb, hA, hD, hg40⟩ := hVb
 have hm := hV.cell
 have hbm : bm ≠ b := ne_of_ty hm hb rfl rfl rfl
 obtain ⟨y, hy⟩ : ∃ y, y = D.gd - it.gd := ⟨_, rfl⟩
 have hp1 : 0 < 2 ^ y := Nat.two_pow_pos _
 have hsc : 2 ^ it.gd * 2 ^ y = 2 ^ D.gd := by rw [← Nat.pow_add, hy, show it.gd + (D.gd - it.gd) = D.gd by omega]
 have hp40 : 2 ^ D.gd ≤ 2 ^ 40 := Nat.pow_le_pow_right (by omega) hg40
 obtain ⟨o', ho'⟩ : ∃ o', o' = it.off * 2 ^ y % 2 ^ 64 := ⟨_, rfl⟩
 have hdle : d * 2 ^ y ≤ 2 ^ D.gd := by rw [← hsc]; exact Nat.mul_le_mul_right _ h0
 have hdlt : tab ≠ none → d * 2 ^ y < 2 ^ D.gd := fun h => by rw [← hsc]; exact Nat.mul_lt_mul_of_pos_right (h1 h) hp1
 refine calls_start Tryz.func79 rfl Tryz.ntmps79 (Nat.le_of_ble_eq_true rfl) ?_
 refine wp_seq ?_
 refine rs hM ?_
 refine mv ?_
 refine nck ?_
 refine fa fr106_3 ?_
 refine rw_load (v := .pointer (some ⟨bm, 0, none⟩)) ld96 rfl rfl rfl hb (by rw [← him]; rfl) ?_
 refine rw_bin rfl rfl rfl rfl (b_nil_eq (some _) Tryz.underlying96) ?_
 refine rw_nil ?_; intro w hM
 refine wp_if (tmp_lt rfl) rfl (by nofun) (fun hc => ?_)
 refine wp_skip ?_
 refine wp_seq ?_
 refine rs hM ?_
 refine mv ?_
 refine nck ?_
 refine fa fr106_3 ?_
 refine rw_load (v := .pointer (some ⟨bm, 0, none⟩)) ld96 rfl rfl rfl hb (by rw [← him]; rfl) ?_
 refine nck ?_
 refine fa fr132_7 ?_
 refine lo (v := u8 X.m.wr) ld5 hm ?_
 refine rw_bin rfl rfl rfl rfl (b_false (b_ne _ _) (by rw [hwr]; rfl)) ?_
 refine rw_nil ?_; intro w hM
 refine wp_if (tmp_lt rfl) rfl (by nofun) (fun hc => ?_)
 refine wp_skip ?_
 refine wp_seq ?_
 refine rs hM ?_
 refine mv ?_
 refine nck ?_
 refine fa fr106_8 ?_
 refine lo ld3 hb ?_
 refine rw_bin rfl rfl rfl rfl (b_false (b_lt _ _) (decide_eq_false (by rw [hd]; omega))) ?_
 refine rw_nil ?_; intro w hM
 refine wp_if (tmp_lt rfl) rfl (by nofun) (fun hc => ?_)
 refine wp_skip ?_
 refine wp_seq_mid (fun f w => ∃ S, Know f [(0, .pointer (some ⟨b, 0, none⟩))] ∧ At79 X w0 b it (it.pos d D.gd tab) (it.pos d D.gd tab) it.grp w S) ?_ ?_
 ·have hmc : objCell (encIt it) 3 = some (.pointer (some ⟨bm, 0, none⟩)) := by rw [← him]; rfl
  have hdc : objCell (encIt it) 8 = some (i64 (d : Nat)) := by rw [← hd]; rfl
  have hmg : objCell (encM X.m) 5 = some (u8 D.gd) := by rw [← hmb.gd]; rfl
  by_cases he : it.gd = D.gd
  ·refine wp_mix_seq [] [] [0, 1, 2, 3, 4, 5, 6, 7, 8, 9, 10, 11] X.H mixed (by kernel_rfl) (Heap.le_refl _) hM ?_
   refine mv ?_
   refine nck ?_
   refine fa fr106_7 ?_
   refine lo (v := u8 it.gd) ld5 hb ?_
   refine mv ?_
   refine nck ?_
   refine fa fr106_3 ?_
   refine rw_load (v := .pointer (some ⟨bm, 0, none⟩)) ld96 rfl rfl rfl hb hmc ?_
   refine nck ?_
   refine fa fr132_5 ?_
   refine rw_load (v := u8 D.gd) ld5 rfl rfl rfl hm hmg ?_
   refine rw_bin rfl rfl rfl rfl (b_false (b_ne _ _) (by rw [he]; exact bne_self_eq_false _)) ?_
   refine rw_nil ?_; intro w hM
   refine wp_if (tmp_lt rfl) rfl (by nofun) (fun hc => ?_)
   refine wp_skip ?_
   refine ⟨_, rfl, X.H, Know.of ⟨rfl, trivial⟩, hM, ?_, fun _ _ => rfl, .refl _⟩
   have : it.to X.m.gd (it.pos d D.gd tab) it.grp = it := by
    unfold ItV.to ItV.pos
    simp only
    rw [← hy, show y = 0 by omega, ← ht, show it.off * 2 ^ 0 % 2 ^ 64 = it.off by omega, show d * 2 ^ 0 = d by omega, ← hd, hmb.gd, ← he]
   rw [this]; exact hb
  ·refine wp_mix_seq [] [] [0, 1, 2, 3, 4, 5, 6, 7, 8, 9, 10, 11] X.H mixed (by kernel_rfl) (Heap.le_refl _) hM ?_
   refine mv ?_
   refine nck ?_
   refine fa fr106_7 ?_
   refine lo (v := u8 it.gd) ld5 hb ?_
   refine mv ?_
   refine nck ?_
   refine fa fr106_3 ?_
   refine rw_load (v := .pointer (some ⟨bm, 0, none⟩)) ld96 rfl rfl rfl hb hmc ?_
   refine nck ?_
   refine fa fr132_5 ?_
   refine rw_load (v := u8 D.gd) ld5 rfl rfl rfl hm hmg ?_
   refine rw_bin rfl rfl rfl rfl (b_true (b_ne _ _) (bne_iff_ne.2 (by omega))) ?_
   refine rw_nil ?_; intro w hM
   refine wp_if (tmp_lt rfl) rfl (fun hc => ?_) (by nofun)
   refine wp_mix_seq [] [] [0, 1, 2, 3, 4, 5, 6, 7, 8, 9, 10, 11, 12] X.H mixed (by kernel_rfl) (Heap.le_refl _) hM ?_
   refine mv ?_
   refine nck ?_
   refine fa fr106_3 ?_
   refine rw_load (v := .pointer (some ⟨bm, 0, none⟩)) ld96 rfl rfl rfl hb hmc ?_
   refine nck ?_
   refine fa fr132_5 ?_
   refine rw_load (v := u8 D.gd) ld5 rfl rfl rfl hm hmg ?_
   refine mv ?_
   refine nck ?_
   refine fa fr106_7 ?_
   refine lo (v := u8 it.gd) ld5 hb ?_
   refine rw_bin (v := u8 y) rfl rfl rfl rfl (bin_eq (b_sub8 _ _ hgd (by omega)) (congrArg u8 hy.symm)) ?_
   refine asg ?_
   refine rw_nil ?_; intro w hM
   refine rs hM ?_
   refine mv ?_
   refine nck ?_
   refine fa fr106_8 ?_
   refine rw_load (v := i64 (d : Nat)) ld3 rfl rfl rfl hb hdc ?_
   refine mv ?_
   refine rw_bin (v := i64 (d * 2 ^ y : Nat)) rfl rfl rfl rfl (bin_eq (b_shli .u8 y (by omega) (by have := Int.ofNat_le.2 hdle; simp only [Int.natCast_mul, Int.natCast_pow] at this; have h2 : (0 : Int) ≤ (d : Int) * (2 : Int) ^ y := Int.mul_nonneg (by omega) (Int.pow_nonneg (by decide)); omega) (by have := Int.ofNat_le.2 (Nat.le_trans hdle hp40); simp only [Int.natCast_mul, Int.natCast_pow] at this; simp at this; omega)) (by simp)) ?_
   refine nck ?_
   refine fa fr106_8 ?_
   refine rw_store1 (v := .int .i64 _) sz3 rfl rfl rfl rfl hb rfl rfl (by nofun) (fun S29 hS29 kS29 => ?_)
   refine rw_nil ?_; intro w hM
   refine rs hM ?_
   refine mv ?_
   refine nck ?_
   refine fa fr106_5 ?_
   refine lo (v := u64 it.off) ld22 hS29 ?_
   refine mv ?_
   refine rw_bin (v := u64 o') rfl rfl rfl rfl (bin_eq (b_shl64 it.off y (by omega)) (congrArg u64 ho'.symm)) ?_
   refine nck ?_
   refine fa fr106_5 ?_
   refine rw_store1 (v := .int .u64 _) sz22 rfl rfl rfl rfl hS29 rfl rfl (by nofun) (fun S30 hS30 kS30 => ?_)
   refine rw_nil ?_; intro w hM
   refine re hM ?_
   refine mv ?_
   refine mv ?_
   refine nck ?_
   refine fa fr106_3 ?_
   refine rw_load (v := .pointer (some ⟨bm, 0, none⟩)) ld96 rfl rfl rfl hS30 hmc ?_
   refine nck ?_
   refine fa fr132_5 ?_
   refine rw_load (v := u8 D.gd) ld5 rfl rfl rfl ((kS30 _ hbm).trans ((kS29 _ hbm).trans hm)) hmg ?_
   refine nck ?_
   refine fa fr106_7 ?_
   refine rw_store1 (v := .int .u8 _) sz5 rfl rfl rfl rfl hS30 rfl rfl (by nofun) (fun S31 hS31 kS31 => ?_)
   refine rw_nil ?_; intro w hM
   refine ⟨_, rfl, S31, Know.of ⟨rfl, trivial⟩, hM, ?_, fun y hyb => by rw [kS31 _ hyb, kS30 _ hyb, kS29 _ hyb], .refl _⟩
   have : it.to X.m.gd (it.pos d D.gd tab) it.grp = { it with di := ((d * 2 ^ y : Nat) : Int), off := o', gd := D.gd } := by
    unfold ItV.to ItV.pos
    simp only
    rw [← hy, ← ht, ← ho', hmb.gd]
   rw [this, hS31]; rfl
 clear hM
 rintro f w ⟨S, hf, hAt⟩
 refine wp_seq_mid (fun f w => ∃ di off grp S, Know f [(0, .pointer (some ⟨b, 0, none⟩))] ∧ At79 X w0 b it (it.pos d D.gd tab) ⟨di, off, none, 0⟩ grp w S ∧ 2 ^ X.m.gd ≤ di) ?_ ?_
 ·refine wp_block ?_
  refine lp79 hDb hE Ty hEb hV hX hok hwr hU hb him hity (p0 := it.pos d D.gd tab) (fun f w di off grp S h1 h2 h3 => ?_) (fun f w h => ?_) ⟨it.grp, S, hf, hAt, Nat.mod_lt _ (by decide), hcase⟩ (by show d * 2 ^ (D.gd - it.gd) ≤ _; rw [← hy]; exact hdle) (by show tab ≠ none → d * 2 ^ (D.gd - it.gd) < _; rw [← hy]; exact hdlt)
  ·simp only [Exit.inBlock, if_true]
   exact ⟨_, rfl, di, off, grp, S, h1, h2, h3⟩
  ·obtain ⟨S, it', a1, a2, a3, a4⟩ := h
   simp only [Exit.inBlock, Exit.then]
   exact post_none' rfl ⟨_, S, rfl, a1, rfl, it', a2, a4, a3⟩
 rintro f w ⟨di, off, grp, S, ⟨f0, rfl⟩, ⟨hM, hbS, hr, hst⟩, hge⟩
 refine rs hM ?_
 refine mv ?_
 refine nck ?_
 refine fa fr106_0 ?_
 refine rw_store1 (v := .pointer _) sz83 rfl rfl rfl rfl hbS rfl rfl (by nofun) (fun S102 hS102 kS102 => ?_)
 refine rw_nil ?_; intro w hM
 refine rs hM ?_
 refine mv ?_
 refine nck ?_
 refine fa fr106_1 ?_
 refine rw_store1 (v := .pointer _) sz100 rfl rfl rfl rfl hS102 rfl rfl (by nofun) (fun S103 hS103 kS103 => ?_)
 refine rw_nil ?_; intro w hM
 refine wp_ret ?_
 exact post_none' rfl ⟨_, S103, rfl, hM, rfl, { it.to X.m.gd ⟨di, off, none, 0⟩ grp with key := none, elem := none }, hS103.trans rfl, .inl ⟨di, off, grp, hst, hge, rfl⟩, fun y hyb => by rw [kS103 _ hyb, kS102 _ hyb, hr _ hyb]⟩
end Go.Proofs.YtddpfkcofmfmpaaGreatDoor
