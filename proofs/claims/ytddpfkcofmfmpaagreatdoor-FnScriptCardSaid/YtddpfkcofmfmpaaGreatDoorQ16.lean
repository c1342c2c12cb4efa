/-
  An iterator goes on in her table: slot after slot. Conditions stand in the contract.
  Conditions stand in each lemma.
-/
import Derived.Test.YtddpfkcofmfmpaaGreatDoorQ15
namespace Go.Proofs.YtddpfkcofmfmpaaGreatDoor
open Go Go.RowKit
set_option maxRecDepth 20000
/-- A part of a code. -/
def nav : List Nat → Code → Code
 | [], c => c
 | 0 :: p, .seq a _ => nav p a
 | _ :: p, .seq _ b => nav p b
 | 0 :: p, .cond _ a _ => nav p a
 | _ :: p, .cond _ _ b => nav p b
 | _ :: p, .block _ a => nav p a
 | _ :: p, .loop a => nav p a
 | _ :: p, .scope a => nav p a
 | _, c => c
def ItV.to (it : ItV) (gd : Nat) (p : Pos) (grp : Option Addr) : ItV := { it with di := (p.di : Nat), off := p.off, gd := gd, tab := p.tab.map fun b => ⟨b, 0, none⟩, ei := p.ei, grp := grp }
/-- What is known of the table that is walked. -/
structure TabIs (X : Scene) (b : Nat) : Prop where
 mt : X.H b = some (encT (X.T b))
 mg : X.H (X.T b).gb = some (encG (X.T b).n (X.T b).G)
 sl : SlotsOK X.K (X.T b).n (X.T b).G
 pow : ∃ p, p ≤ 7 ∧ (X.T b).n = 2 ^ p
 cap : (X.T b).cap = 8 * (X.T b).n
 ld : (X.T b).ld ≤ X.m.gd
/-- The group that the iterator holds is that of her place. -/
def GrpOK (t : Tb) (eo ei : Nat) (grp : Option Addr) : Prop := ei < 8 * t.n → (ei + eo) % (8 * t.n) % 8 ≠ 0 → grp = none ∨ grp = some ⟨t.gb, 17 * ((ei + eo) % (8 * t.n) / 8), none⟩
structure At79 (X : Scene) (w0 : World) (b : Nat) (it : ItV) (p0 p : Pos) (grp : Option Addr) (w : World) (S : Heap) : Prop where
 mem : Mem w0 w S
 cell : S b = some (encIt (it.to X.m.gd p grp))
 rest : ∀ y, y ≠ b → S y = X.H y
 steps : X.Steps (decide (it.clr = X.m.clr)) it.eo p0 p
/-- What a map's iterator comes to. -/
def NextBig (X : Scene) (it : ItV) (p0 : Pos) (it' : ItV) : Prop :=
 (∃ di off grp, X.Steps (decide (it.clr = X.m.clr)) it.eo p0 ⟨di, off, none, 0⟩ ∧ 2 ^ X.m.gd ≤ di ∧ it' = { it.to X.m.gd ⟨di, off, none, 0⟩ grp with key := none, elem := none }) ∨
 (∃ di off b ei ei2 grp ka ea, X.Steps (decide (it.clr = X.m.clr)) it.eo p0 ⟨di, off, some b, ei⟩ ∧ ei < 8 * (X.T b).n ∧ X.told (decide (it.clr = X.m.clr)) (decide ((X.T b).index = -1)) (X.T b).gb ((ei + it.eo) % (8 * (X.T b).n)) (X.T b).G ka ea ∧
  X.Steps (decide (it.clr = X.m.clr)) it.eo ⟨di, off, some b, ei + 1⟩ ⟨di, off, some b, ei2⟩ ∧ GrpOK (X.T b) it.eo ei2 grp ∧ ei2 ≤ 2000 ∧ it' = { it.to X.m.gd ⟨di, off, some b, ei2⟩ grp with key := some ka, elem := some ea })
def Fin79 (X : Scene) (w0 : World) (b : Nat) (it : ItV) (p0 : Pos) (w : World) : Prop := ∃ S it', Mem w0 w S ∧ S b = some (encIt it') ∧ (∀ y, y ≠ b → S y = X.H y) ∧ NextBig X it p0 it'
/-- The bits of the slots that are full, from place q on. -/
def bitsF (G : Gr) (g q m : Nat) : Prop := ∀ i, i < 8 → m.testBit i = (decide (q ≤ i) && decide (G.c (8 * g + i) < 128))
theorem bitsF_low {G : Gr} {g q m : Nat} (hm : m < 256) (h0 : m ≠ 0) (h : bitsF G g q m) : q ≤ low m ∧ low m < 8 ∧ G.c (8 * g + low m) < 128 ∧ bitsF G g (low m) m ∧ (∀ i, q ≤ i → i < low m → 128 ≤ G.c (8 * g + i)) := by
 have hl := low_lt m
 have h1 := low_in m hm h0
 rw [h _ hl, Bool.and_eq_true_iff, decide_eq_true_eq, decide_eq_true_eq] at h1
 have h2 : ∀ i, i < low m → q ≤ i → ¬ G.c (8 * g + i) < 128 := fun i hi hq hf => by
  have h3 : m.testBit i = true := by rw [h i (by omega), decide_eq_true hq, decide_eq_true hf]; rfl
  have := low_least m hm i (by omega) h3
  omega
 refine ⟨h1.1, hl, h1.2, fun i hi => ?_, fun i hq hi => by have := h2 i hi hq; omega⟩
 rw [h i hi]
 by_cases hil : low m ≤ i
 ·rw [decide_eq_true hil, decide_eq_true (show q ≤ i by omega)]
 ·rw [decide_eq_false hil]
  by_cases hq : q ≤ i
  ·rw [decide_eq_true hq, decide_eq_false (h2 i (by omega) hq)]; rfl
  ·rw [decide_eq_false hq]
theorem bitsF_tl {G : Gr} {g q m : Nat} (hm : m < 256) (hq : q < 8) (hf : G.c (8 * g + q) < 128) (h : bitsF G g q m) : m ≠ 0 ∧ bitsF G g (q + 1) (tl8 m) := by
 have hb : m.testBit q = true := by rw [h q hq, decide_eq_true (Nat.le_refl q), decide_eq_true hf]; rfl
 have h0 := mem_ne_zero hb
 have hl := (bitsF_low hm h0 h).1
 have hl2 := low_least m hm q hq hb
 have e : low m = q := by omega
 refine ⟨h0, fun i hi => ?_⟩
 rw [tl8_bit m hm i hi, h i hi, e]
 by_cases hiq : i = q
 ·subst hiq
  rw [nat_beq.2 rfl, decide_eq_false (show ¬ i + 1 ≤ i by omega)]; simp
 ·rw [nat_beq_f.2 hiq]
  by_cases h1 : q ≤ i
  ·rw [decide_eq_true h1, decide_eq_true (show q + 1 ≤ i by omega)]; simp
  ·rw [decide_eq_false h1, decide_eq_false (show ¬ q + 1 ≤ i by omega)]; simp
theorem bitsF_zero {G : Gr} {g q m : Nat} (h0 : m = 0) (h : bitsF G g q m) : ∀ i, q ≤ i → i < 8 → 128 ≤ G.c (8 * g + i) := fun i hq hi => by
 have := h i hi
 rw [h0, Nat.zero_testBit, decide_eq_true hq, Bool.true_and] at this
 have := of_decide_eq_false this.symm
 omega
theorem slot_and {n p ei eo : Nat} (hn : n = 2 ^ p) (hp : p ≤ 7) : (ei + eo) % 2 ^ 64 &&& (8 * n - 1) = (ei + eo) % (8 * n) := by
 have e : 8 * n = 2 ^ (p + 3) := by rw [hn, Nat.pow_add]; omega
 rw [e, Nat.and_two_pow_sub_one_eq_mod, Nat.mod_mod_of_dvd _ (Nat.pow_dvd_pow 2 (by omega))]
/-- The slots behind one slot, in her group. -/
theorem slot_add {n ei eo d : Nat} (hn : 0 < n) (hd : (ei + eo) % (8 * n) % 8 + d < 8) : (ei + d + eo) % (8 * n) = (ei + eo) % (8 * n) + d := by
 have h1 := Nat.mod_lt (ei + eo) (show 0 < 8 * n by omega)
 rw [show ei + d + eo = ei + eo + d by omega, ← Nat.mod_add_mod]
 exact Nat.mod_eq_of_lt (by omega)
theorem slot_next {n ei eo : Nat} (hn : 0 < n) : (ei + (8 - (ei + eo) % (8 * n) % 8) + eo) % (8 * n) % 8 = 0 := by
 have h1 := Nat.mod_lt (ei + eo) (show 0 < 8 * n by omega)
 have h2 := Nat.div_add_mod (ei + eo) (8 * n)
 rw [Nat.mod_mod_of_dvd _ (Nat.dvd_mul_right 8 n), Nat.mod_mod_of_dvd _ (Nat.dvd_mul_right 8 n)]
 omega
theorem grown_cases {X : Scene} {same : Bool} {g gi q : Nat} {G : Gr} (hq : q < 8) (hf : G.c (8 * gi + q) < 128) :
  (∃ ka ea, grownRes X.K X.V same (G.k (8 * gi + q)) g (17 * gi + 1 + q) (17 * gi + 9 + q) = .tuple #[.pointer (some ka), .pointer (some ea), .bool true] ∧ X.told same true g (8 * gi + q) G ka ea) ∨
  (grownRes X.K X.V same (G.k (8 * gi + q)) g (17 * gi + 1 + q) (17 * gi + 9 + q) = .tuple #[.pointer none, .pointer none, .bool false] ∧ X.dead same true G (8 * gi + q)) := by
 unfold grownRes
 have e1 : (8 * gi + q) / 8 = gi := by omega
 have e2 : (8 * gi + q) % 8 = q := by omega
 cases h : findM X.K (G.k (8 * gi + q)) X.V with
 | some p =>
  obtain ⟨g', s'⟩ := p
  exact .inl ⟨_, _, rfl, hf, .inr (.inl ⟨rfl, g', s', h, rfl, rfl⟩)⟩
 | none =>
  cases hs : (same && !X.K.eqk (G.k (8 * gi + q)) (G.k (8 * gi + q))) with
  | true => exact .inl ⟨_, _, rfl, hf, .inr (.inr ⟨rfl, h, hs, by rw [e1, e2], by rw [e1, e2]⟩)⟩
  | false => exact .inr ⟨rfl, .inr ⟨rfl, h, hs⟩⟩
def J79 (X : Scene) (w0 : World) (b : Nat) (it : ItV) (p0 : Pos) (di off tb : Nat) (k : Nat) (f : Slots) (w : World) : Prop := ∃ ei grp m S, k = 2000 - ei ∧ ei ≤ 8 * (X.T tb).n + 8 ∧ m < 256 ∧ Know f [(0, .pointer (some ⟨b, 0, none⟩)), (13, u64 (8 * (X.T tb).n - 1)), (23, u64 (bsw m))] ∧ At79 X w0 b it p0 ⟨di, off, some tb, ei⟩ grp w S ∧ GrpOK (X.T tb) it.eo ei grp ∧
  (m = 0 ∨ (ei < 8 * (X.T tb).n → grp = some ⟨(X.T tb).gb, 17 * ((ei + it.eo) % (8 * (X.T tb).n) / 8), none⟩ ∧ (X.T tb).G.c ((ei + it.eo) % (8 * (X.T tb).n)) < 128 ∧ bitsF (X.T tb).G ((ei + it.eo) % (8 * (X.T tb).n) / 8) ((ei + it.eo) % (8 * (X.T tb).n) % 8) m))
theorem J79.back {X : Scene} {w0 : World} {b : Nat} {it : ItV} {p0 : Pos} {di off tb : Nat} {f : Slots} {w : World} {S : Heap} {ei : Nat} (e' m' : Nat) {grp : Option Addr} (h1 : ei < e') (h0 : ei < 2000) (h2 : e' ≤ 8 * (X.T tb).n + 8) (h3 : m' < 256) (h4 : Know f [(0, .pointer (some ⟨b, 0, none⟩)), (13, u64 (8 * (X.T tb).n - 1)), (23, u64 (bsw m'))]) (h5 : At79 X w0 b it p0 ⟨di, off, some tb, e'⟩ grp w S) (h6 : GrpOK (X.T tb) it.eo e' grp)
  (h7 : m' = 0 ∨ (e' < 8 * (X.T tb).n → grp = some ⟨(X.T tb).gb, 17 * ((e' + it.eo) % (8 * (X.T tb).n) / 8), none⟩ ∧ (X.T tb).G.c ((e' + it.eo) % (8 * (X.T tb).n)) < 128 ∧ bitsF (X.T tb).G ((e' + it.eo) % (8 * (X.T tb).n) / 8) ((e' + it.eo) % (8 * (X.T tb).n) % 8) m')) :
  ∃ k' f', mkAct 639 f = mkAct 639 f' ∧ k' < 2000 - ei ∧ J79 X w0 b it p0 di off tb k' f' w := ⟨2000 - e', f, rfl, by omega, e', grp, m', S, rfl, h2, h3, h4, h5, h6, h7⟩
noncomputable def inner79 : Code := nav [1, 1, 1, 1, 0, 0, 0, 1, 0, 0, 0, 1, 1, 1, 1, 1, 1, 1, 1, 1, 1, 0] (Tryz.f79.body.getD .skip)
set_option maxHeartbeats 8000000 in
theorem in79 {X : Scene} {w0 : World} (hDb : HasDb w0) {E : Heap} {bty : Nat} {nu : Bool} (hE : E.le X.H) (Ty : TypOK X.K w0 E bty nu) {b bm : Nat} (hEb : E b = none) (hV : MapIs X.K X.H bm X.m X.V) (hwr : X.m.wr = 0) (hU : X.m.used = 0 → ∀ g s k e, ¬ X.V.live g s k e)
  {it : ItV} (hb : X.H b = some (encIt it)) (him : it.m = some ⟨bm, 0, none⟩) (hity : it.typ = some ⟨bty, 0, none⟩) {tb : Nat} (hT : TabIs X tb) {p0 : Pos} {di off : Nat} {Q : Exit → Act → World → Prop}
  (hexit : ∀ f w S ei grp, Know f [(0, .pointer (some ⟨b, 0, none⟩))] → At79 X w0 b it p0 ⟨di, off, some tb, ei⟩ grp w S → 8 * (X.T tb).n ≤ ei → ei ≤ 2000 → Q (.exit 4) (mkAct 639 f) w)
  (hret : ∀ f w, Fin79 X w0 b it p0 w → Q .ret (mkAct 639 f) w)
  {f : Slots} {w : World} {S : Heap} {ei : Nat} {grp : Option Addr} (hf : Know f [(0, .pointer (some ⟨b, 0, none⟩)), (13, u64 (8 * (X.T tb).n - 1)), (23, u64 0)]) (hA : At79 X w0 b it p0 ⟨di, off, some tb, ei⟩ grp w S) (hG : GrpOK (X.T tb) it.eo ei grp) (hei : ei ≤ 8 * (X.T tb).n) :
  inner79.wp Tryz.prog Q (mkAct 639 f) w := by
 obtain ⟨p, hp7, hnp⟩ := hT.pow
 have hn0 : 0 < (X.T tb).n := by rw [hnp]; exact Nat.two_pow_pos _
 have hn1 : (X.T tb).n ≤ 128 := by rw [hnp]; exact (show 2 ^ p ≤ 2 ^ 7 from Nat.pow_le_pow_right (by omega) hp7)
 have hbm : bm ≠ b := ne_of_ty hV.cell hb rfl rfl rfl
 have htb : tb ≠ b := ne_of_ty hT.mt hb rfl rfl rfl
 have hgb : (X.T tb).gb ≠ b := ne_of_ty hT.mg hb rfl rfl rfl
 obtain ⟨f0, rfl⟩ := hf
 refine wp_loop_s (J79 X w0 b it p0 di off tb) (2000 - ei) ?_ ?_
 ·exact ⟨ei, grp, 0, S, rfl, by omega, by decide, ⟨f0, rfl⟩, hA, hG, .inl rfl⟩
 clear hA hG hei
 rintro k f w ⟨ei, grp, m, S, rfl, hei, hm, ⟨f1, rfl⟩, ⟨hM, hbS, hr, hst⟩, hG, hgm⟩
 have hES : E.le S := fun y u hy => (hr y (ne_of_none hEb hy)).trans (hE _ _ hy)
 have hmS : S bm = some (encM X.m) := (hr _ hbm).trans hV.cell
 have htS : S tb = some (encT (X.T tb)) := (hr _ htb).trans hT.mt
 have hgS : S (X.T tb).gb = some (encG (X.T tb).n (X.T tb).G) := (hr _ hgb).trans hT.mg
 refine wp_seq ?_
 refine rs hM ?_
 refine mv ?_
 refine nck ?_
 refine fa fr106_11 ?_
 refine lo ld22 hbS ?_
 refine mv ?_
 refine rw_bin rfl rfl rfl rfl (b_le _ _) ?_
 refine rw_nil ?_; intro w hM
 have hslot := Nat.mod_lt (ei + it.eo) (show 0 < 8 * (X.T tb).n by omega)
 refine wp_if (tmp_lt rfl) rfl (fun hz => ?_) (fun hz => ?_)
 rotate_left
 ·have hx' : 8 * (X.T tb).n ≤ ei := by have : ¬ ((ei : Nat) : Int) ≤ ((8 * (X.T tb).n - 1 : Nat) : Int) := of_decide_eq_false hz; omega
  refine wp_exit ?_
  simp only [Exit.then]
  exact hexit _ _ S ei grp (Know.of ⟨rfl, trivial⟩) ⟨hM, hbS, hr, hst⟩ hx' (by omega)
 have hx' : ei < 8 * (X.T tb).n := by have : ((ei : Nat) : Int) ≤ ((8 * (X.T tb).n - 1 : Nat) : Int) := of_decide_eq_true hz; omega
 refine wp_skip ?_
 refine wp_block ?_
 obtain ⟨sl, hsl⟩ : ∃ sl, sl = (ei + it.eo) % (8 * (X.T tb).n) := ⟨_, rfl⟩
 rw [← hsl] at hslot hgm
 have hsl7 : sl &&& 7 = sl % 8 := Nat.and_two_pow_sub_one_eq_mod sl 3
 refine wp_mix_seq [] [] [0, 1, 2, 3, 4, 5, 6, 7, 8, 9, 10, 11] S mixed (by kernel_rfl) (Heap.le_refl _) hM ?_
 refine mv ?_
 refine nck ?_
 refine fa fr106_11 ?_
 refine lo ld22 hbS ?_
 refine mv ?_
 refine nck ?_
 refine fa fr106_4 ?_
 refine lo ld22 hbS ?_
 refine rw_bin rfl rfl rfl rfl (b_add64 _ _) ?_
 refine mv ?_
 refine rw_bin (v := u64 sl) rfl rfl rfl rfl (bin_eq (b_and64 _ _ (Nat.mod_lt _ (by decide)) (by omega)) (congrArg u64 ((slot_and hnp hp7).trans hsl.symm))) ?_
 refine asg ?_
 refine rw_nil ?_; intro w hM
 refine rs hM ?_
 refine mv ?_
 refine rw_bin (v := u64 (sl % 8)) rfl rfl rfl rfl (bin_eq (b_and64 sl 7 (by omega) (by decide)) (congrArg u64 hsl7)) ?_
 refine asg ?_
 refine rw_nil ?_; intro w hM
 have hg1 : sl / 8 < (X.T tb).n := by omega
 refine wp_seq_mid (fun f w => ∃ S, Know f [(0, .pointer (some ⟨b, 0, none⟩)), (13, u64 (8 * (X.T tb).n - 1)), (23, u64 (bsw m)), (24, u64 sl), (25, u64 (sl % 8))] ∧ At79 X w0 b it p0 ⟨di, off, some tb, ei⟩ (some ⟨(X.T tb).gb, 17 * (sl / 8), none⟩) w S) ?_ ?_
 ·have htab : objCell (encIt (it.to X.m.gd ⟨di, off, some tb, ei⟩ grp)) 9 = some (.pointer (some ⟨tb, 0, none⟩)) := rfl
  have htyS : objCell (encIt (it.to X.m.gd ⟨di, off, some tb, ei⟩ grp)) 2 = some (.pointer (some ⟨bty, 0, none⟩)) := by rw [← hity]; rfl
  have hgrpS : objCell (encIt (it.to X.m.gd ⟨di, off, some tb, ei⟩ grp)) 10 = some (.pointer grp) := rfl
  by_cases hq0 : sl % 8 = 0
  ·refine rs hM ?_
   refine mv ?_
   refine rw_bin rfl rfl rfl rfl (b_true (b_eq _ _) (beq_iff_eq.2 (by rw [hq0]; rfl))) ?_
   refine mv ?_
   refine rw_skip rfl rfl ?_
   refine rw_skip rfl rfl ?_
   refine rw_skip rfl rfl ?_
   refine rw_skip rfl rfl ?_
   refine rw_skip rfl rfl ?_
   refine rw_skip rfl rfl ?_
   refine rw_pick rfl rfl rfl rfl rfl ?_
   refine rw_nil ?_; intro w hM
   refine wp_if (tmp_lt rfl) rfl (fun hc => ?_) (by nofun)
   refine rs hM ?_
   refine mv ?_
   refine rw_bin (v := u64 (sl / 8)) rfl rfl rfl rfl (b_shr64 sl 3 (by decide)) ?_
   refine asg ?_
   refine rw_nil ?_; intro w hM
   refine wp_mix_end [15] [15] [0, 1, 2, 3, 4, 5, 6, 7, 8, 9, 10, 11, 12, 13, 14, 15] S mixed (by kernel_rfl) (Heap.le_refl _) hM ?_
   refine mv ?_
   refine mv ?_
   refine nck ?_
   refine fa fr106_9 ?_
   refine rw_load (v := .pointer (some ⟨tb, 0, none⟩)) ld101 rfl rfl rfl hbS htab ?_
   refine nck ?_
   refine fa fr158_5 ?_
   refine mv ?_
   refine nck ?_
   refine fa fr106_2 ?_
   refine rw_load (v := .pointer (some ⟨bty, 0, none⟩)) ld82 rfl rfl rfl hbS htyS ?_
   refine mv ?_
   refine rw_callq cr93 rfl rfl (fun H' w hle hM => c93 hM (hle _ _ htS) rfl hg1) rfl ?_
   refine nck ?_
   refine fa fr106_10 ?_
   refine rw_store (v := .agg #[.pointer _]) sz104 rfl rfl rfl rfl hbS rfl rfl rfl (fun _ => ⟨rfl, rfl⟩) (fun S69 hS69 kS69 => ?_)
   refine rw_nil ?_; intro w hM
   exact ⟨_, rfl, S69, Know.of ⟨rfl, rfl, rfl, rfl, rfl, trivial⟩, hM, hS69.trans rfl, fun y hyb => (kS69 _ hyb).trans (hr y hyb), hst⟩
  ·have hqz : (((sl % 8 : Nat) : Int) == (0 : Int)) = false := nz (by omega)
   have hgo := hG hx' (by rw [← hsl]; exact hq0)
   rw [← hsl] at hgo
   rcases hgo with rfl | rfl
   ·refine rs hM ?_
    refine mv ?_
    refine rw_bin rfl rfl rfl rfl (b_false (b_eq _ _) hqz) ?_
    refine mv ?_
    refine mv ?_
    refine nck ?_
    refine fa fr106_10 ?_
    refine fa fr104_0 ?_
    refine rw_load (v := .pointer none) ld102 rfl rfl rfl hbS hgrpS ?_
    refine rw_bin rfl rfl rfl rfl (b_nil_eq none Tryz.underlying102) ?_
    refine rw_pick rfl rfl rfl rfl rfl ?_
    refine rw_nil ?_; intro w hM
    refine wp_if (tmp_lt rfl) rfl (fun hc => ?_) (by nofun)
    refine rs hM ?_
    refine mv ?_
    refine rw_bin (v := u64 (sl / 8)) rfl rfl rfl rfl (b_shr64 sl 3 (by decide)) ?_
    refine asg ?_
    refine rw_nil ?_; intro w hM
    refine wp_mix_end [15] [15] [0, 1, 2, 3, 4, 5, 6, 7, 8, 9, 10, 11, 12, 13, 14, 15] S mixed (by kernel_rfl) (Heap.le_refl _) hM ?_
    refine mv ?_
    refine mv ?_
    refine nck ?_
    refine fa fr106_9 ?_
    refine rw_load (v := .pointer (some ⟨tb, 0, none⟩)) ld101 rfl rfl rfl hbS htab ?_
    refine nck ?_
    refine fa fr158_5 ?_
    refine mv ?_
    refine nck ?_
    refine fa fr106_2 ?_
    refine rw_load (v := .pointer (some ⟨bty, 0, none⟩)) ld82 rfl rfl rfl hbS htyS ?_
    refine mv ?_
    refine rw_callq cr93 rfl rfl (fun H' w hle hM => c93 hM (hle _ _ htS) rfl hg1) rfl ?_
    refine nck ?_
    refine fa fr106_10 ?_
    refine rw_store (v := .agg #[.pointer _]) sz104 rfl rfl rfl rfl hbS rfl rfl rfl (fun _ => ⟨rfl, rfl⟩) (fun S69 hS69 kS69 => ?_)
    refine rw_nil ?_; intro w hM
    exact ⟨_, rfl, S69, Know.of ⟨rfl, rfl, rfl, rfl, rfl, trivial⟩, hM, hS69.trans rfl, fun y hyb => (kS69 _ hyb).trans (hr y hyb), hst⟩
   ·refine rs hM ?_
    refine mv ?_
    refine rw_bin rfl rfl rfl rfl (b_false (b_eq _ _) hqz) ?_
    refine mv ?_
    refine mv ?_
    refine nck ?_
    refine fa fr106_10 ?_
    refine fa fr104_0 ?_
    refine rw_load (v := .pointer (some ⟨(X.T tb).gb, 17 * (sl / 8), none⟩)) ld102 rfl rfl rfl hbS hgrpS ?_
    refine rw_bin rfl rfl rfl rfl (b_nil_eq (some _) Tryz.underlying102) ?_
    refine rw_pick rfl rfl rfl rfl rfl ?_
    refine rw_nil ?_; intro w hM
    refine wp_if (tmp_lt rfl) rfl (by nofun) (fun hc => ?_)
    refine wp_skip ?_
    exact ⟨_, rfl, S, Know.of ⟨rfl, rfl, rfl, rfl, rfl, trivial⟩, hM, hbS, hr, hst⟩
 clear hM hbS hr hst hG hES hmS htS hgS
 rintro f w ⟨S, ⟨f2, rfl⟩, ⟨hM, hbS, hr, hst⟩⟩
 have hES : E.le S := fun y u hy => (hr y (ne_of_none hEb hy)).trans (hE _ _ hy)
 have htS : S tb = some (encT (X.T tb)) := (hr _ htb).trans hT.mt
 have hgS : S (X.T tb).gb = some (encG (X.T tb).n (X.T tb).G) := (hr _ hgb).trans hT.mg
 have hgrpS : objCell (encIt (it.to X.m.gd ⟨di, off, some tb, ei⟩ (some ⟨(X.T tb).gb, 17 * (sl / 8), none⟩))) 10 = some (.pointer (some ⟨(X.T tb).gb, 17 * (sl / 8), none⟩)) := rfl
 refine wp_seq_mid (fun f w => ∃ S ei' m', Know f [(0, .pointer (some ⟨b, 0, none⟩)), (13, u64 (8 * (X.T tb).n - 1)), (23, u64 (bsw m')), (25, u64 ((ei' + it.eo) % (8 * (X.T tb).n) % 8))] ∧ At79 X w0 b it p0 ⟨di, off, some tb, ei'⟩ (some ⟨(X.T tb).gb, 17 * (sl / 8), none⟩) w S ∧ m' < 256 ∧ ei ≤ ei' ∧ ei' < 8 * (X.T tb).n ∧ (ei' + it.eo) % (8 * (X.T tb).n) / 8 = sl / 8 ∧
  (X.T tb).G.c ((ei' + it.eo) % (8 * (X.T tb).n)) < 128 ∧ bitsF (X.T tb).G (sl / 8) ((ei' + it.eo) % (8 * (X.T tb).n) % 8) m') ?_ ?_
 ·by_cases hm0 : m = 0
  ·subst hm0
   have hb0 : bsw 0 = 0 := (bsw_zero 0 (by decide)).2 rfl
   refine rs hM ?_
   refine mv ?_
   refine rw_bin rfl rfl rfl rfl (b_true (b_eq _ _) (beq_iff_eq.2 (by rw [hb0]; rfl))) ?_
   refine rw_nil ?_; intro w hM
   refine wp_if (tmp_lt rfl) rfl (fun hc => ?_) (by nofun)
   refine rs hM ?_
   refine mv ?_
   refine nck ?_
   refine fa fr106_10 ?_
   refine rw_callq cr90 rfl rfl (fun H' w hle hM => c90 hM (hle _ _ hbS) hgrpS) rfl ?_
   refine nck ?_
   refine rw_load (v := u64 (word ((X.T tb).G.at (sl / 8)))) ld145 rfl rfl rfl hgS (encG_ctrl hg1) ?_
   refine rw_callq cr101 rfl rfl (fun H' w hle hM => c101 hM _ (Gr.bytes hT.sl.ok _)) rfl ?_
   refine asg ?_
   refine rw_nil ?_; intro w hM
   refine wp_seq_mid (fun f w => ∃ m2, Know f [(0, .pointer (some ⟨b, 0, none⟩)), (13, u64 (8 * (X.T tb).n - 1)), (23, u64 (bsw m2)), (24, u64 sl), (25, u64 (sl % 8))] ∧ m2 < 256 ∧ bitsF (X.T tb).G (sl / 8) (sl % 8) m2 ∧ Mem w0 w S) ?_ ?_
   ·by_cases hq0 : sl % 8 = 0
    ·refine rs hM ?_
     refine mv ?_
     refine rw_bin rfl rfl rfl rfl (b_false (b_ne _ _) (by rw [hq0]; rfl)) ?_
     refine rw_nil ?_; intro w hM
     refine wp_if (tmp_lt rfl) rfl (by nofun) (fun hc => ?_)
     refine wp_skip ?_
     refine ⟨_, rfl, _, Know.of ⟨rfl, rfl, rfl, rfl, rfl, trivial⟩, mk8_lt _, fun i hi => ?_, hM⟩
     rw [mk8_bit _ i hi, hq0, decide_eq_true (Nat.zero_le i)]; rfl
    ·refine rs hM ?_
     refine mv ?_
     refine rw_bin rfl rfl rfl rfl (b_true (b_ne _ _) (by rw [show ((((sl % 8 : Nat) : Int)) != (0 : Int)) = true from bne_iff_ne.2 (by omega)])) ?_
     refine rw_nil ?_; intro w hM
     refine wp_if (tmp_lt rfl) rfl (fun hc => ?_) (by nofun)
     refine re hM ?_
     refine mv ?_
     refine mv ?_
     refine rw_callq cr102 rfl rfl (fun H' w hle hM => c102 hM (mk8_lt _) (Nat.mod_lt _ (by decide))) rfl ?_
     refine asg ?_
     refine rw_nil ?_; intro w hM
     refine ⟨_, rfl, _, Know.of ⟨rfl, rfl, rfl, rfl, rfl, trivial⟩, mk8_lt _, fun i hi => ?_, hM⟩
     unfold above
     rw [mk8_bit _ i hi, mk8_bit _ i hi]
     have e1 : Nat.ble (sl % 8) i = decide (sl % 8 ≤ i) := by
      cases h : Nat.ble (sl % 8) i with
      | true => rw [decide_eq_true (Nat.le_of_ble_eq_true h)]
      | false => rw [decide_eq_false (fun h' => by rw [Nat.ble_eq_true_of_le h'] at h; cases h)]
     rw [e1, Bool.and_comm]; rfl
   clear hM
   rintro f w ⟨m2, ⟨f3, rfl⟩, hm2, hbits, hM⟩
   have hl2 := bsw_lt m2
   refine wp_seq ?_
   by_cases h20 : m2 = 0
   ·have hz2 := bitsF_zero h20 hbits
    subst h20
    refine rs hM ?_
    refine mv ?_
    refine rw_bin rfl rfl rfl rfl (b_true (b_eq _ _) (beq_iff_eq.2 (by rw [hb0]; rfl))) ?_
    refine rw_nil ?_; intro w hM
    refine wp_if (tmp_lt rfl) rfl (fun hc => ?_) (by nofun)
    refine rs hM ?_
    refine mv ?_
    refine nck ?_
    refine fa fr106_11 ?_
    refine lo (v := u64 ei) ld22 hbS ?_
    refine mv ?_
    refine rw_bin rfl rfl rfl rfl (b_sub64_le 8 (sl % 8) (by omega) (by decide)) ?_
    refine rw_bin rfl rfl rfl rfl (b_add64 _ _) ?_
    refine nck ?_
    refine fa fr106_11 ?_
    refine rw_store1 (v := .int .u64 _) sz22 rfl rfl rfl rfl hbS rfl rfl (by nofun) (fun S75 hS75 kS75 => ?_)
    refine rw_nil ?_; intro w hM
    refine wp_exit ?_
    simp only [Exit.then, Exit.inBlock, if_true]
    refine J79.back (S := S75) (ei + (8 - sl % 8)) 0 (grp := some ⟨(X.T tb).gb, 17 * (sl / 8), none⟩) (by omega) (by omega) (by omega) (by decide) (Know.of ⟨rfl, rfl, rfl, trivial⟩) ⟨hM, ?_, fun y hyb => (kS75 _ hyb).trans (hr y hyb), hst.trans (.jump fun y h1 h2 h3 => ?_)⟩ (fun h1 h2 => ?_) (.inl rfl)
    ·rw [hS75, show (ei + (8 - sl % 8)) % 2 ^ 64 = ei + (8 - sl % 8) by omega]; rfl
    ·have := slot_add (n := (X.T tb).n) (ei := ei) (eo := it.eo) (d := y - ei) hn0 (by rw [← hsl]; omega)
     rw [show ei + (y - ei) = y by omega, ← hsl] at this
     rw [this]
     have := hz2 (sl % 8 + (y - ei)) (by omega) (by omega)
     rw [show 8 * (sl / 8) + (sl % 8 + (y - ei)) = sl + (y - ei) by omega] at this
     exact .inl this
    ·rw [hsl, slot_next hn0] at h2; exact absurd rfl h2
   ·have hl := bitsF_low hm2 h20 hbits
    have hb2 : bsw m2 ≠ 0 := fun e => h20 ((bsw_zero m2 hm2).1 e)
    refine rs hM ?_
    refine mv ?_
    refine rw_bin rfl rfl rfl rfl (b_false (b_eq _ _) (nz (by omega))) ?_
    refine rw_nil ?_; intro w hM
    refine wp_if (tmp_lt rfl) rfl (by nofun) (fun hc => ?_)
    refine wp_skip ?_
    obtain ⟨d, hd⟩ : ∃ d, d = low m2 - sl % 8 := ⟨_, rfl⟩
    have hjump : ∀ y, ei ≤ y → y < ei + d → y < 8 * (X.T tb).n → X.dead (decide (it.clr = X.m.clr)) (decide ((X.T tb).index = -1)) (X.T tb).G ((y + it.eo) % (8 * (X.T tb).n)) := fun y h1 h2 h3 => by
     have := slot_add (n := (X.T tb).n) (ei := ei) (eo := it.eo) (d := y - ei) hn0 (by rw [← hsl]; omega)
     rw [show ei + (y - ei) = y by omega, ← hsl] at this
     rw [this]
     have := hl.2.2.2.2 (sl % 8 + (y - ei)) (by omega) (by omega)
     rw [show 8 * (sl / 8) + (sl % 8 + (y - ei)) = sl + (y - ei) by omega] at this
     exact .inl this
    refine rs hM ?_
    refine mv ?_
    refine rw_callq cr103 rfl rfl (fun H' w hle hM => c103 hM hDb hm2 h20) rfl ?_
    refine asg ?_
    refine rw_nil ?_; intro w hM
    refine rs hM ?_
    refine mv ?_
    refine nck ?_
    refine fa fr106_11 ?_
    refine lo (v := u64 ei) ld22 hbS ?_
    refine mv ?_
    refine mv ?_
    refine rw_bin (v := u64 d) rfl rfl rfl rfl (bin_eq (b_sub64_le (low m2) (sl % 8) hl.1 (by omega)) (congrArg u64 hd.symm)) ?_
    refine rw_bin rfl rfl rfl rfl (b_add64 _ _) ?_
    refine nck ?_
    refine fa fr106_11 ?_
    refine rw_store1 (v := .int .u64 _) sz22 rfl rfl rfl rfl hbS rfl rfl (by nofun) (fun S77 hS77 kS77 => ?_)
    refine rw_nil ?_; intro w hM
    have hbS77 : S77 b = some (encIt (it.to X.m.gd ⟨di, off, some tb, ei + d⟩ (some ⟨(X.T tb).gb, 17 * (sl / 8), none⟩))) := by
     rw [hS77, show (ei + d) % 2 ^ 64 = ei + d by omega]; rfl
    have hr77 : ∀ y, y ≠ b → S77 y = X.H y := fun y hyb => (kS77 _ hyb).trans (hr y hyb)
    refine wp_seq ?_
    refine rs hM ?_
    refine mv ?_
    refine nck ?_
    refine fa fr106_11 ?_
    refine lo (v := u64 (ei + d : Nat)) ld22 hbS77 ?_
    refine mv ?_
    refine rw_bin rfl rfl rfl rfl (b_gt _ _) ?_
    refine rw_nil ?_; intro w hM
    refine wp_if (tmp_lt rfl) rfl (fun hz => ?_) (fun hz => ?_)
    ·have hge : 8 * (X.T tb).n ≤ ei + d := by have : ((ei + d : Nat) : Int) > ((8 * (X.T tb).n - 1 : Nat) : Int) := of_decide_eq_true hz; omega
     refine wp_exit ?_
     simp only [Exit.then, Exit.inBlock, if_true]
     exact J79.back (S := S77) (ei + d) m2 (grp := some ⟨(X.T tb).gb, 17 * (sl / 8), none⟩) (by omega) (by omega) (by omega) hm2 (Know.of ⟨rfl, rfl, rfl, trivial⟩) ⟨hM, hbS77, hr77, hst.trans (.jump hjump)⟩ (fun h1 h2 => by omega) (.inr fun h => by omega)
    ·have hlt : ei + d < 8 * (X.T tb).n := by have : ¬ ((ei + d : Nat) : Int) > ((8 * (X.T tb).n - 1 : Nat) : Int) := of_decide_eq_false hz; omega
     refine wp_skip ?_
     have hsd := slot_add (n := (X.T tb).n) (ei := ei) (eo := it.eo) (d := d) hn0 (by rw [← hsl]; omega)
     rw [← hsl] at hsd
     refine rs hM ?_
     refine mv ?_
     refine mv ?_
     refine mv ?_
     refine rw_bin (v := u64 d) rfl rfl rfl rfl (bin_eq (b_sub64_le (low m2) (sl % 8) hl.1 (by omega)) (congrArg u64 hd.symm)) ?_
     refine rw_bin rfl rfl rfl rfl (b_add64 _ _) ?_
     refine asg ?_
     refine rw_nil ?_; intro w hM
     refine re hM ?_
     refine mv ?_
     refine asg ?_
     refine rw_nil ?_; intro w hM
     have e8 : (sl + d) % 8 = low m2 := by omega
     refine ⟨_, rfl, S77, ei + d, m2, Know.of ⟨rfl, rfl, rfl, ?_, trivial⟩, ⟨hM, hbS77, hr77, hst.trans (.jump hjump)⟩, hm2, by omega, hlt, by rw [hsd]; omega, ?_, ?_⟩
     ·rw [hsd, e8]; rfl
     ·rw [hsd, show sl + d = 8 * (sl / 8) + low m2 by omega]; exact hl.2.2.1
     ·rw [hsd, e8]; exact hl.2.2.2.1
  ·have hg2 := hgm.resolve_left hm0 hx'
   have hb2 : bsw m ≠ 0 := fun e => hm0 ((bsw_zero m hm).1 e)
   refine rs hM ?_
   refine mv ?_
   refine rw_bin rfl rfl rfl rfl (b_false (b_eq _ _) (nz (by omega))) ?_
   refine rw_nil ?_; intro w hM
   refine wp_if (tmp_lt rfl) rfl (by nofun) (fun hc => ?_)
   refine wp_skip ?_
   exact ⟨_, rfl, S, ei, m, Know.of ⟨rfl, rfl, rfl, by rw [← hsl]; rfl, trivial⟩, ⟨hM, hbS, hr, hst⟩, hm, Nat.le_refl _, hx', by rw [← hsl], by rw [← hsl]; exact hg2.2.1, by rw [← hsl]; exact hg2.2.2⟩
 clear hM hbS hr hst hES htS hgS hgrpS hgm
 rintro f w ⟨S, e1, m1, hk, ⟨hM, hbS, hr, hst⟩, hm1, hle, he1, hg8, hfull, hbits⟩
 obtain ⟨g, hgd⟩ : ∃ g, g = sl / 8 := ⟨_, rfl⟩
 obtain ⟨s1, hs1⟩ : ∃ s1, s1 = (e1 + it.eo) % (8 * (X.T tb).n) := ⟨_, rfl⟩
 rw [← hgd] at hbS hg8 hbits hg1
 rw [← hs1] at hg8 hfull hbits
 have hq8 : s1 % 8 < 8 := Nat.mod_lt _ (by decide)
 obtain ⟨q, hq⟩ : ∃ q, q = s1 % 8 := ⟨_, rfl⟩
 rw [← hq] at hq8 hbits
 rw [← hs1, ← hq] at hk
 obtain ⟨f4, rfl⟩ := hk
 have hsq : s1 = 8 * g + q := by omega
 clear hgd hslot hsl7
 have hES : E.le S := fun y u hy => (hr y (ne_of_none hEb hy)).trans (hE _ _ hy)
 have htS : S tb = some (encT (X.T tb)) := (hr _ htb).trans hT.mt
 have hgS : S (X.T tb).gb = some (encG (X.T tb).n (X.T tb).G) := (hr _ hgb).trans hT.mg
 have hVS : MapIs X.K S bm X.m X.V := hV.off hb hr
 have hgrpS : objCell (encIt (it.to X.m.gd ⟨di, off, some tb, e1⟩ (some ⟨(X.T tb).gb, 17 * g, none⟩))) 10 = some (.pointer (some ⟨(X.T tb).gb, 17 * g, none⟩)) := rfl
 have htyS : objCell (encIt (it.to X.m.gd ⟨di, off, some tb, e1⟩ (some ⟨(X.T tb).gb, 17 * g, none⟩))) 2 = some (.pointer (some ⟨bty, 0, none⟩)) := by rw [← hity]; rfl
 have hfq : (X.T tb).G.c (8 * g + q) < 128 := by rw [← hsq]; exact hfull
 obtain ⟨hm10, htl⟩ := bitsF_tl hm1 hq8 hfq hbits
 have htl8 := tl8_lt m1 hm1
 -- the slots behind, up to the next full one or the group's end
 have hbehind : ∀ d, (∀ i, q < i → i < q + d → 128 ≤ (X.T tb).G.c (8 * g + i)) → q + d ≤ 8 → ∀ y, e1 < y → y < e1 + d → y < 8 * (X.T tb).n → X.dead (decide (it.clr = X.m.clr)) (decide ((X.T tb).index = -1)) (X.T tb).G ((y + it.eo) % (8 * (X.T tb).n)) := fun d hd hqd y h1 h2 _ => by
  have := slot_add (n := (X.T tb).n) (ei := e1) (eo := it.eo) (d := y - e1) hn0 (by rw [← hs1, ← hq]; omega)
  rw [show e1 + (y - e1) = y by omega, ← hs1] at this
  rw [this]
  have := hd (q + (y - e1)) (by omega) (by omega)
  rw [show 8 * g + (q + (y - e1)) = s1 + (y - e1) by omega] at this
  exact .inl this
 have hlast : tl8 m1 = 0 → ∀ i, q < i → i < q + (8 - q) → 128 ≤ (X.T tb).G.c (8 * g + i) := fun h0 i h1 h2 => bitsF_zero h0 htl i (by omega) (by omega)
 have hnext8 : (e1 + (8 - q) + it.eo) % (8 * (X.T tb).n) % 8 = 0 := by
  have := slot_next (n := (X.T tb).n) (ei := e1) (eo := it.eo) hn0
  rw [← hs1, ← hq] at this; exact this
 refine wp_mix_seq [] [] [0, 1, 2, 3, 4, 5, 6, 7, 8, 9] S mixed (by kernel_rfl) (Heap.le_refl _) hM ?_
 refine mv ?_
 refine nck ?_
 refine fa fr106_10 ?_
 refine mv ?_
 refine nck ?_
 refine fa fr106_2 ?_
 refine rw_load (v := .pointer (some ⟨bty, 0, none⟩)) ld82 rfl rfl rfl hbS htyS ?_
 refine mv ?_
 refine rw_callq cr96 rfl rfl (fun H' w hle hM => c96 hM (hle _ _ hbS) hgrpS hq8) rfl ?_
 refine asg ?_
 refine rw_nil ?_; intro w hM
 refine rs hM ?_
 refine mv ?_
 refine nck ?_
 refine fa fr106_9 ?_
 refine lo (v := .pointer (some ⟨tb, 0, none⟩)) ld101 hbS ?_
 refine nck ?_
 refine fa fr158_4 ?_
 refine lo (v := i64 (X.T tb).index) ld3 htS ?_
 refine rw_bin rfl rfl rfl rfl (b_eq _ _) ?_
 refine asg ?_
 refine rw_nil ?_; intro w hM
 refine rs hM ?_
 refine asg ?_
 refine rw_nil ?_; intro w hM
 refine wp_seq_mid (fun f w => ∃ ka ea, Know f [(0, .pointer (some ⟨b, 0, none⟩)), (23, u64 (bsw m1)), (25, u64 q), (28, .pointer (some ka)), (30, .pointer (some ea))] ∧ X.told (decide (it.clr = X.m.clr)) (decide ((X.T tb).index = -1)) (X.T tb).gb s1 (X.T tb).G ka ea ∧ Mem w0 w S) ?_ ?_
 ·refine rs hM ?_
  refine mv ?_
  refine rw_nil ?_; intro w hM
  refine wp_if (tmp_lt rfl) rfl (fun hc => ?_) (fun hc => ?_)
  ·have hix : (X.T tb).index = -1 := beq_iff_eq.1 hc
   have hdx : decide ((X.T tb).index = -1) = true := decide_eq_true hix
   have hkl := hT.sl.ok.2.1 (8 * g + q)
   have h100 : ∀ {H' : Heap} {w : World}, S.le H' → Mem w0 w H' → Calls Tryz.prog 100 [.pointer (some ⟨b, 0, none⟩), .pointer (some ⟨(X.T tb).gb, 17 * g + 1 + q, none⟩), u64 q].toArray w (Keeps w0 H' (grownRes X.K X.V (decide (it.clr = X.m.clr)) ((X.T tb).G.k (8 * g + q)) (X.T tb).gb (17 * g + 1 + q) (17 * g + 9 + q))) := fun hle hM =>
    c100 (i := it.to X.m.gd ⟨di, off, some tb, e1⟩ (some ⟨(X.T tb).gb, 17 * g, none⟩)) hM hDb (Heap.le_trans hES hle) Ty (hVS.mono hle) hwr hU (hle _ _ hbS) him hity (hle _ _ hgS) rfl hg1 hq8 rfl hkl
   rcases grown_cases (X := X) (same := decide (it.clr = X.m.clr)) (g := (X.T tb).gb) hq8 hfq with ⟨ka, ea, hres, htold⟩ | ⟨hres, hdead⟩
   ·rw [hres] at h100
    refine rs hM ?_
    refine mv ?_
    refine mv ?_
    refine mv ?_
    refine rw_callq (v := .tuple #[.pointer (some ka), .pointer (some ea), .bool true]) cr100 rfl rfl (fun H' w hle hM => h100 hle hM) rfl ?_
    refine mv ?_
    refine rw_extract rfl rfl rfl rfl ?_
    refine rw_extract rfl rfl rfl rfl ?_
    refine rw_extract rfl rfl rfl rfl ?_
    refine asg ?_
    refine asg ?_
    refine asg ?_
    refine rw_nil ?_; intro w hM
    refine rs hM ?_
    refine mv ?_
    refine rw_un rfl rfl rfl (u_not _) ?_
    refine rw_nil ?_; intro w hM
    refine wp_if (tmp_lt rfl) rfl (by nofun) (fun hc => ?_)
    refine rs hM ?_
    refine mv ?_
    refine asg ?_
    refine rw_nil ?_; intro w hM
    refine re hM ?_
    refine mv ?_
    refine asg ?_
    refine rw_nil ?_; intro w hM
    exact ⟨_, rfl, ka, ea, Know.of ⟨rfl, rfl, rfl, rfl, rfl, trivial⟩, by rw [hdx, hsq]; exact htold, hM⟩
   ·rw [hres] at h100
    refine rs hM ?_
    refine mv ?_
    refine mv ?_
    refine mv ?_
    refine rw_callq (v := .tuple #[.pointer none, .pointer none, .bool false]) cr100 rfl rfl (fun H' w hle hM => h100 hle hM) rfl ?_
    refine mv ?_
    refine rw_extract rfl rfl rfl rfl ?_
    refine rw_extract rfl rfl rfl rfl ?_
    refine rw_extract rfl rfl rfl rfl ?_
    refine asg ?_
    refine asg ?_
    refine asg ?_
    refine rw_nil ?_; intro w hM
    refine rs hM ?_
    refine mv ?_
    refine rw_un rfl rfl rfl (u_not _) ?_
    refine rw_nil ?_; intro w hM
    refine wp_if (tmp_lt rfl) rfl (fun hc => ?_) (by nofun)
    have hd1 : X.dead (decide (it.clr = X.m.clr)) (decide ((X.T tb).index = -1)) (X.T tb).G ((e1 + it.eo) % (8 * (X.T tb).n)) := by rw [← hs1, hdx, hsq]; exact hdead
    refine rs hM ?_
    refine mv ?_
    refine rw_callq cr104 rfl rfl (fun H' w hle hM => c104 hM hm1 hm10) rfl ?_
    refine asg ?_
    refine rw_nil ?_; intro w hM
    refine wp_seq ?_
    by_cases h0 : tl8 m1 = 0
    ·have hb0 : bsw (tl8 m1) = 0 := (bsw_zero _ htl8).2 h0
     refine rs hM ?_
     refine mv ?_
     refine rw_bin rfl rfl rfl rfl (b_true (b_eq _ _) (beq_iff_eq.2 (by rw [hb0]; rfl))) ?_
     refine rw_nil ?_; intro w hM
     refine wp_if (tmp_lt rfl) rfl (fun hc => ?_) (by nofun)
     refine rs hM ?_
     refine mv ?_
     refine nck ?_
     refine fa fr106_11 ?_
     refine lo (v := u64 e1) ld22 hbS ?_
     refine mv ?_
     refine rw_bin rfl rfl rfl rfl (b_sub64_le 8 q (by omega) (by decide)) ?_
     refine rw_bin rfl rfl rfl rfl (b_add64 _ _) ?_
     refine nck ?_
     refine fa fr106_11 ?_
     refine rw_store1 (v := .int .u64 _) sz22 rfl rfl rfl rfl hbS rfl rfl (by nofun) (fun S89 hS89 kS89 => ?_)
     refine rw_nil ?_; intro w hM
     refine wp_exit ?_
     simp only [Exit.then, Exit.inBlock, if_true]
     refine J79.back (S := S89) (e1 + (8 - q)) 0 (grp := some ⟨(X.T tb).gb, 17 * g, none⟩) (by omega) (by omega) (by omega) (by decide) (Know.of ⟨rfl, rfl, ?_, trivial⟩) ⟨hM, ?_, fun y hyb => (kS89 _ hyb).trans (hr y hyb), hst.trans (.jump fun y h1 h2 h3 => ?_)⟩ (fun h1 h2 => ?_) (.inl rfl)
     ·exact congrArg (fun x => u64 (bsw x)) h0
     ·rw [hS89, show (e1 + (8 - q)) % 2 ^ 64 = e1 + (8 - q) by omega]; rfl
     ·rcases Nat.eq_or_lt_of_le h1 with e | e
      ·rw [← e]; exact hd1
      ·exact hbehind (8 - q) (hlast h0) (by omega) y e h2 h3
     ·rw [hnext8] at h2; exact absurd rfl h2
    ·have hl := bitsF_low htl8 h0 htl
     have hb2 : bsw (tl8 m1) ≠ 0 := fun e => h0 ((bsw_zero _ htl8).1 e)
     obtain ⟨d, hd⟩ : ∃ d, d = low (tl8 m1) - q := ⟨_, rfl⟩
     have hbh := hbehind d (fun i h1 h2 => hl.2.2.2.2 i (by omega) (by omega)) (by omega)
     refine rs hM ?_
     refine mv ?_
     refine rw_bin rfl rfl rfl rfl (b_false (b_eq _ _) (nz (by omega))) ?_
     refine rw_nil ?_; intro w hM
     refine wp_if (tmp_lt rfl) rfl (by nofun) (fun hc => ?_)
     refine wp_skip ?_
     refine rs hM ?_
     refine mv ?_
     refine rw_callq cr103 rfl rfl (fun H' w hle hM => c103 hM hDb htl8 h0) rfl ?_
     refine asg ?_
     refine rw_nil ?_; intro w hM
     refine rs hM ?_
     refine mv ?_
     refine nck ?_
     refine fa fr106_11 ?_
     refine lo (v := u64 e1) ld22 hbS ?_
     refine mv ?_
     refine mv ?_
     refine rw_bin (v := u64 d) rfl rfl rfl rfl (bin_eq (b_sub64_le (low (tl8 m1)) q (by omega) (by omega)) (congrArg u64 hd.symm)) ?_
     refine rw_bin rfl rfl rfl rfl (b_add64 _ _) ?_
     refine nck ?_
     refine fa fr106_11 ?_
     refine rw_store1 (v := .int .u64 _) sz22 rfl rfl rfl rfl hbS rfl rfl (by nofun) (fun S91 hS91 kS91 => ?_)
     refine rw_nil ?_; intro w hM
     refine wp_exit ?_
     simp only [Exit.then, Exit.inBlock, if_true]
     have hsd := slot_add (n := (X.T tb).n) (ei := e1) (eo := it.eo) (d := d) hn0 (by rw [← hs1, ← hq]; omega)
     rw [← hs1] at hsd
     have e8 : (s1 + d) % 8 = low (tl8 m1) := by omega
     have e9 : (s1 + d) / 8 = g := by omega
     refine J79.back (S := S91) (e1 + d) (tl8 m1) (grp := some ⟨(X.T tb).gb, 17 * g, none⟩) (by omega) (by omega) (by omega) htl8 (Know.of ⟨rfl, rfl, rfl, trivial⟩) ⟨hM, ?_, fun y hyb => (kS91 _ hyb).trans (hr y hyb), hst.trans (.jump fun y h1 h2 h3 => ?_)⟩ (fun h1 h2 => .inr ?_) (.inr fun h => ⟨?_, ?_, ?_⟩)
     ·rw [hS91, show (e1 + d) % 2 ^ 64 = e1 + d by omega]; rfl
     ·rcases Nat.eq_or_lt_of_le h1 with e | e
      ·rw [← e]; exact hd1
      ·exact hbh y e h2 h3
     ·rw [hsd, e9]
     ·rw [hsd, e9]
     ·rw [hsd, show s1 + d = 8 * g + low (tl8 m1) by omega]; exact hl.2.2.1
     ·rw [hsd, e8, e9]; exact hl.2.2.2.1
  ·have hix : (X.T tb).index ≠ -1 := fun e => by rw [e] at hc; cases hc
   have hdx : decide ((X.T tb).index = -1) = false := decide_eq_false hix
   refine wp_mix_end [] [] [0, 1, 2, 3, 4, 5, 6, 7, 8, 9] S mixed (by kernel_rfl) (Heap.le_refl _) hM ?_
   refine mv ?_
   refine nck ?_
   refine fa fr106_10 ?_
   refine mv ?_
   refine nck ?_
   refine fa fr106_2 ?_
   refine rw_load (v := .pointer (some ⟨bty, 0, none⟩)) ld82 rfl rfl rfl hbS htyS ?_
   refine mv ?_
   refine rw_callq cr98 rfl rfl (fun H' w hle hM => c98 hM (hle _ _ hbS) hgrpS hq8) rfl ?_
   refine asg ?_
   refine rw_nil ?_; intro w hM
   exact ⟨_, rfl, ⟨(X.T tb).gb, 17 * g + 1 + q, none⟩, ⟨(X.T tb).gb, 17 * g + 9 + q, none⟩, Know.of ⟨rfl, rfl, rfl, rfl, rfl, trivial⟩, ⟨hfull, .inl ⟨hdx, by rw [show s1 / 8 = g by omega, ← hq], by rw [show s1 / 8 = g by omega, ← hq]⟩⟩, hM⟩
 clear hM
 rintro f w ⟨ka, ea, ⟨f5, rfl⟩, htold, hM⟩
 have hst1 : X.Steps (decide (it.clr = X.m.clr)) it.eo p0 ⟨di, off, some tb, e1⟩ := hst
 refine rs hM ?_
 refine mv ?_
 refine rw_callq cr104 rfl rfl (fun H' w hle hM => c104 hM hm1 hm10) rfl ?_
 refine asg ?_
 refine rw_nil ?_; intro w hM
 refine wp_seq_mid (fun f w => ∃ S d, Know f [(0, .pointer (some ⟨b, 0, none⟩)), (28, .pointer (some ka)), (30, .pointer (some ea))] ∧ Mem w0 w S ∧ S b = some (encIt (it.to X.m.gd ⟨di, off, some tb, e1 + d⟩ (some ⟨(X.T tb).gb, 17 * g, none⟩))) ∧ (∀ y, y ≠ b → S y = X.H y) ∧ 0 < d ∧ d ≤ 8 ∧ GrpOK (X.T tb) it.eo (e1 + d) (some ⟨(X.T tb).gb, 17 * g, none⟩) ∧
  ∀ y, e1 < y → y < e1 + d → y < 8 * (X.T tb).n → X.dead (decide (it.clr = X.m.clr)) (decide ((X.T tb).index = -1)) (X.T tb).G ((y + it.eo) % (8 * (X.T tb).n))) ?_ ?_
 ·by_cases h0 : tl8 m1 = 0
  ·have hb0 : bsw (tl8 m1) = 0 := (bsw_zero _ htl8).2 h0
   refine rs hM ?_
   refine mv ?_
   refine rw_bin rfl rfl rfl rfl (b_true (b_eq _ _) (beq_iff_eq.2 (by rw [hb0]; rfl))) ?_
   refine rw_nil ?_; intro w hM
   refine wp_if (tmp_lt rfl) rfl (fun hc => ?_) (by nofun)
   refine re hM ?_
   refine mv ?_
   refine nck ?_
   refine fa fr106_11 ?_
   refine lo (v := u64 e1) ld22 hbS ?_
   refine mv ?_
   refine rw_bin rfl rfl rfl rfl (b_sub64_le 8 q (by omega) (by decide)) ?_
   refine rw_bin rfl rfl rfl rfl (b_add64 _ _) ?_
   refine nck ?_
   refine fa fr106_11 ?_
   refine rw_store1 (v := .int .u64 _) sz22 rfl rfl rfl rfl hbS rfl rfl (by nofun) (fun S97 hS97 kS97 => ?_)
   refine rw_nil ?_; intro w hM
   refine ⟨_, rfl, S97, 8 - q, Know.of ⟨rfl, rfl, rfl, trivial⟩, hM, ?_, fun y hyb => (kS97 _ hyb).trans (hr y hyb), by omega, by omega, fun h1 h2 => ?_, hbehind (8 - q) (hlast h0) (by omega)⟩
   ·rw [hS97, show (e1 + (8 - q)) % 2 ^ 64 = e1 + (8 - q) by omega]; rfl
   ·rw [hnext8] at h2; exact absurd rfl h2
  ·have hl := bitsF_low htl8 h0 htl
   have hb2 : bsw (tl8 m1) ≠ 0 := fun e => h0 ((bsw_zero _ htl8).1 e)
   obtain ⟨d, hd⟩ : ∃ d, d = low (tl8 m1) - q := ⟨_, rfl⟩
   refine rs hM ?_
   refine mv ?_
   refine rw_bin rfl rfl rfl rfl (b_false (b_eq _ _) (nz (by omega))) ?_
   refine rw_nil ?_; intro w hM
   refine wp_if (tmp_lt rfl) rfl (by nofun) (fun hc => ?_)
   refine rs hM ?_
   refine mv ?_
   refine rw_callq cr103 rfl rfl (fun H' w hle hM => c103 hM hDb htl8 h0) rfl ?_
   refine asg ?_
   refine rw_nil ?_; intro w hM
   refine re hM ?_
   refine mv ?_
   refine nck ?_
   refine fa fr106_11 ?_
   refine lo (v := u64 e1) ld22 hbS ?_
   refine mv ?_
   refine mv ?_
   refine rw_bin (v := u64 d) rfl rfl rfl rfl (bin_eq (b_sub64_le (low (tl8 m1)) q (by omega) (by omega)) (congrArg u64 hd.symm)) ?_
   refine rw_bin rfl rfl rfl rfl (b_add64 _ _) ?_
   refine nck ?_
   refine fa fr106_11 ?_
   refine rw_store1 (v := .int .u64 _) sz22 rfl rfl rfl rfl hbS rfl rfl (by nofun) (fun S99 hS99 kS99 => ?_)
   refine rw_nil ?_; intro w hM
   have hsd := slot_add (n := (X.T tb).n) (ei := e1) (eo := it.eo) (d := d) hn0 (by rw [← hs1, ← hq]; omega)
   rw [← hs1] at hsd
   refine ⟨_, rfl, S99, d, Know.of ⟨rfl, rfl, rfl, trivial⟩, hM, ?_, fun y hyb => (kS99 _ hyb).trans (hr y hyb), by omega, by omega, fun h1 h2 => .inr ?_, hbehind d (fun i h1 h2 => hl.2.2.2.2 i (by omega) (by omega)) (by omega)⟩
   ·rw [hS99, show (e1 + d) % 2 ^ 64 = e1 + d by omega]; rfl
   ·rw [hsd, show (s1 + d) / 8 = g by omega]
 clear hM hbS hr hVS hgrpS htyS htS hgS hES hst
 rintro f w ⟨S, d, ⟨f6, rfl⟩, hM, hbS, hr, hd0, hd8, hgrp, hdead⟩
 refine rs hM ?_
 refine mv ?_
 refine mv ?_
 refine nck ?_
 refine fa fr106_0 ?_
 refine rw_store1 (v := .pointer _) sz83 rfl rfl rfl rfl hbS rfl rfl (by nofun) (fun S100 hS100 kS100 => ?_)
 refine rw_nil ?_; intro w hM
 refine rs hM ?_
 refine mv ?_
 refine mv ?_
 refine nck ?_
 refine fa fr106_1 ?_
 refine rw_store1 (v := .pointer _) sz100 rfl rfl rfl rfl hS100 rfl rfl (by nofun) (fun S101 hS101 kS101 => ?_)
 refine rw_nil ?_; intro w hM
 refine wp_ret ?_
 simp only [Exit.then, Exit.inBlock]
 refine hret _ _ ⟨S101, { it.to X.m.gd ⟨di, off, some tb, e1 + d⟩ (some ⟨(X.T tb).gb, 17 * g, none⟩) with key := some ka, elem := some ea }, hM, hS101.trans rfl, fun y hyb => by rw [kS101 _ hyb, kS100 _ hyb, hr _ hyb], .inr ⟨di, off, tb, e1, e1 + d, some ⟨(X.T tb).gb, 17 * g, none⟩, ka, ea, hst1, he1, by rw [← hs1]; exact htold, ?_, hgrp, by omega, rfl⟩⟩
 have := Scene.Steps.jump (X := X) (same := decide (it.clr = X.m.clr)) (eo := it.eo) (di := di) (off := off) (b := tb) (ei := e1 + 1) (k := d - 1) (fun y h1 h2 h3 => hdead y (by omega) (by omega) h3)
 rw [show e1 + 1 + (d - 1) = e1 + d by omega] at this
 exact this
end Go.Proofs.YtddpfkcofmfmpaaGreatDoor
