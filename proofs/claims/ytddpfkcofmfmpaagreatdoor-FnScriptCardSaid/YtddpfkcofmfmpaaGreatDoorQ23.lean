/-
  The player of scripts: a step. Conditions stand in each contract. The player of scripts: each step is one that the reference takes. Conditions stand in the contract.
  Conditions stand in each lemma.
-/
import Derived.Test.YtddpfkcofmfmpaaGreatDoorQ22
namespace Go.Proofs.YtddpfkcofmfmpaaGreatDoor
open Go Go.RowKit
set_option maxRecDepth 20000
section
variable {w0 w : World} {H : Heap}
def stepC (s : Stp) : List Value := [i64 s.kind, i64 s.iter, u64 s.key, i64 s.elem]
def ansC (a : Ans) : List Value := [.bool a.ok, u64 a.key, i64 a.elem]
def wpA (o : Option Nat) : Option Addr := o.map fun b => ⟨b, 0, none⟩
/-- The player's cells. -/
def plC (bT : Nat) (fl : Bool) (wk : Nat → Option Nat) : Array Value := #[.pointer (some ⟨bT, 0, none⟩), .bool fl, .pointer (wpA (wk 0)), .pointer (wpA (wk 1)), .pointer (wpA (wk 2)), .pointer (wpA (wk 3)), .pointer (wpA (wk 4)), .pointer (wpA (wk 5)), .pointer (wpA (wk 6)), .pointer (wpA (wk 7))]
def encPl (bT : Nat) (fl : Bool) (wk : Nat → Option Nat) : Obj := .cells (plC bT fl wk) 59 (0, 0)
theorem encPl_cell {bT : Nat} {fl : Bool} {wk : Nat → Option Nat} {q : Nat} (hq : q < 8) : objCell (encPl bT fl wk) (2 + q) = some (.pointer (wpA (wk q))) := by
 match q, hq with
 | 0, _ | 1, _ | 2, _ | 3, _ | 4, _ | 5, _ | 6, _ | 7, _ => rfl
def setWk (wk : Nat → Option Nat) (q : Nat) (o : Option Nat) : Nat → Option Nat := fun p => if p = q then o else wk p
theorem encPl_set {bT : Nat} {fl : Bool} {wk : Nat → Option Nat} {q : Nat} {o : Option Nat} (hq : q < 8) : (plC bT fl wk).setIfInBounds (2 + q) (.pointer (wpA o)) = plC bT fl (setWk wk q o) := by
 match q, hq with
 | 0, _ | 1, _ | 2, _ | 3, _ | 4, _ | 5, _ | 6, _ | 7, _ => rfl
theorem c43 (hM : Mem w0 w H) {bp bT : Nat} {fl : Bool} {wk : Nat → Option Nat} (hp : H bp = some (encPl bT fl wk)) {s : Stp} {Φ : Heap → Prop} (h60 : ∀ w H', H.le H' → Mem w0 w H' → Calls Tryz.prog 60 [.pointer (some ⟨bT, 0, none⟩), u64 s.key, i64 s.elem].toArray w (Gives w0 fun v S => v = .tuple #[] ∧ Φ S)) :
  Calls Tryz.prog 43 [.pointer (some ⟨bp, 0, none⟩), .agg (stepC s).toArray].toArray w (Gives w0 fun v S => v = .tuple #[] ∧ Φ S) := by
 refine calls_start Tryz.func43 rfl Tryz.ntmps43 (Nat.le_of_ble_eq_true rfl) ?_
 refine rs hM ?_
 refine rw_boxN (v := .agg (stepC s).toArray) rfl rfl rfl (fun b3 G3 n3 l3 e3 k3 => ?_)
 refine rw_nil ?_; intro w hM
 have hp3 := l3 _ _ hp
 refine wp_seq ?_
 refine rs hM ?_
 refine mv ?_
 refine nck ?_
 refine fa fr59_1 ?_
 refine lo (v := .bool fl) ld4 hp3 ?_
 refine rw_nil ?_; intro w hM
 refine wp_if (tmp_lt rfl) rfl (fun hc => ?_) (fun hc => ?_)
 ·refine wp_mix_seq [9] [9] [0, 1, 2, 3, 4, 5, 6, 7, 8, 9] G3 mixed (by kernel_rfl) (Heap.le_refl _) hM ?_
  refine mv ?_
  refine nck ?_
  refine fa fr59_0 ?_
  refine lo (v := .pointer (some ⟨bT, 0, none⟩)) ld54 hp3 ?_
  refine fa fr36_2 ?_
  refine lo (v := u64 s.key) ld22 e3 ?_
  refine rw_ext (v := .float .f64 s.key) rfl rfl (ext33 s.key) rfl ?_
  refine fa fr36_3 ?_
  refine lo (v := i64 s.elem) ld2 e3 ?_
  refine rw_callE cr59 rfl rfl (fun w hM => c59 hM fun w hM => h60 w _ l3 hM) rfl (fun _ => ⟨rfl, rfl⟩) ?_; rintro _ S9 ⟨rfl, hP⟩
  refine rw_nil ?_; intro w hM
  refine wp_ret ?_
  simp only [Exit.then]
  exact post_none' rfl ⟨_, S9, rfl, hM, rfl, hP⟩
 ·refine wp_skip ?_
  simp only [Exit.then]
  refine wp_mix_end [8] [8] [0, 1, 2, 3, 4, 5, 6, 7, 8] G3 mixed (by kernel_rfl) (Heap.le_refl _) hM ?_
  refine mv ?_
  refine nck ?_
  refine fa fr59_0 ?_
  refine lo (v := .pointer (some ⟨bT, 0, none⟩)) ld54 hp3 ?_
  refine fa fr36_2 ?_
  refine lo (v := u64 s.key) ld22 e3 ?_
  refine fa fr36_3 ?_
  refine lo (v := i64 s.elem) ld2 e3 ?_
  refine rw_callE cr60 rfl rfl (fun w hM => h60 w _ l3 hM) rfl (fun _ => ⟨rfl, rfl⟩) ?_; rintro _ S9 ⟨rfl, hP⟩
  refine rw_nil ?_; intro w hM
  exact post_none rfl ⟨_, S9, rfl, hM, rfl, hP⟩
theorem c45 (hM : Mem w0 w H) {bp bT : Nat} {fl : Bool} {wk : Nat → Option Nat} (hp : H bp = some (encPl bT fl wk)) {s : Stp} {Φ : Heap → Prop} (h64 : ∀ w H', H.le H' → Mem w0 w H' → Calls Tryz.prog 64 [.pointer (some ⟨bT, 0, none⟩), u64 s.key].toArray w (Gives w0 fun v S => v = .tuple #[] ∧ Φ S)) :
  Calls Tryz.prog 45 [.pointer (some ⟨bp, 0, none⟩), .agg (stepC s).toArray].toArray w (Gives w0 fun v S => v = .tuple #[] ∧ Φ S) := by
 refine calls_start Tryz.func45 rfl Tryz.ntmps45 (Nat.le_of_ble_eq_true rfl) ?_
 refine rs hM ?_
 refine rw_boxN (v := .agg (stepC s).toArray) rfl rfl rfl (fun b3 G3 n3 l3 e3 k3 => ?_)
 refine rw_nil ?_; intro w hM
 have hp3 := l3 _ _ hp
 refine wp_seq ?_
 refine rs hM ?_
 refine mv ?_
 refine nck ?_
 refine fa fr59_1 ?_
 refine lo (v := .bool fl) ld4 hp3 ?_
 refine rw_nil ?_; intro w hM
 refine wp_if (tmp_lt rfl) rfl (fun hc => ?_) (fun hc => ?_)
 ·refine wp_mix_seq [7] [7] [0, 1, 2, 3, 4, 5, 6, 7] G3 mixed (by kernel_rfl) (Heap.le_refl _) hM ?_
  refine mv ?_
  refine nck ?_
  refine fa fr59_0 ?_
  refine lo (v := .pointer (some ⟨bT, 0, none⟩)) ld54 hp3 ?_
  refine fa fr36_2 ?_
  refine lo (v := u64 s.key) ld22 e3 ?_
  refine rw_ext (v := .float .f64 s.key) rfl rfl (ext33 s.key) rfl ?_
  refine rw_callE cr63 rfl rfl (fun w hM => c63 hM fun w hM => h64 w _ l3 hM) rfl (fun _ => ⟨rfl, rfl⟩) ?_; rintro _ S9 ⟨rfl, hP⟩
  refine rw_nil ?_; intro w hM
  refine wp_ret ?_
  simp only [Exit.then]
  exact post_none' rfl ⟨_, S9, rfl, hM, rfl, hP⟩
 ·refine wp_skip ?_
  simp only [Exit.then]
  refine wp_mix_end [6] [6] [0, 1, 2, 3, 4, 5, 6] G3 mixed (by kernel_rfl) (Heap.le_refl _) hM ?_
  refine mv ?_
  refine nck ?_
  refine fa fr59_0 ?_
  refine lo (v := .pointer (some ⟨bT, 0, none⟩)) ld54 hp3 ?_
  refine fa fr36_2 ?_
  refine lo (v := u64 s.key) ld22 e3 ?_
  refine rw_callE cr64 rfl rfl (fun w hM => h64 w _ l3 hM) rfl (fun _ => ⟨rfl, rfl⟩) ?_; rintro _ S9 ⟨rfl, hP⟩
  refine rw_nil ?_; intro w hM
  exact post_none rfl ⟨_, S9, rfl, hM, rfl, hP⟩
theorem c44 (hM : Mem w0 w H) {bp bT : Nat} {fl : Bool} {wk : Nat → Option Nat} (hp : H bp = some (encPl bT fl wk)) {s : Stp} {a : Ans} (ha : a = Ans.no ∨ (a.ok = true ∧ a.key = 0)) (h62 : ∀ w H', H.le H' → Mem w0 w H' → Calls Tryz.prog 62 [.pointer (some ⟨bT, 0, none⟩), u64 s.key].toArray w (Keeps w0 H' (.tuple #[i64 a.elem, .bool a.ok]))) :
  Calls Tryz.prog 44 [.pointer (some ⟨bp, 0, none⟩), .agg (stepC s).toArray].toArray w (Keeps w0 H (.agg (ansC a).toArray)) := by
 refine calls_start Tryz.func44 rfl Tryz.ntmps44 (Nat.le_of_ble_eq_true rfl) ?_
 refine rs hM ?_
 refine rw_boxN (v := .agg (stepC s).toArray) rfl rfl rfl (fun b3 G3 n3 l3 e3 k3 => ?_)
 refine rw_allocN Tryz.zeroValue44 rfl rfl (fun b4 G4 n4 l4 e4 k4 => ?_)
 refine rw_nil ?_; intro w hM
 refine rs hM ?_
 refine asg ?_
 refine rw_nil ?_; intro w hM
 refine rs hM ?_
 refine asg ?_
 refine rw_nil ?_; intro w hM
 have hl := Heap.le_trans l3 l4
 have hp3 := hl _ _ hp
 have e3' := l4 _ _ e3
 refine wp_seq_mid (fun f w => Know f [(4, .pointer (some ⟨b4, 0, none⟩)), (5, i64 a.elem), (6, .bool a.ok)] ∧ Mem w0 w G4) ?_ ?_
 ·refine rs hM ?_
  refine mv ?_
  refine nck ?_
  refine fa fr59_1 ?_
  refine lo (v := .bool fl) ld4 hp3 ?_
  refine rw_nil ?_; intro w hM
  refine wp_if (tmp_lt rfl) rfl (fun hc => ?_) (fun hc => ?_)
  ·refine wp_mix_end [] [] [0, 1, 2, 3, 4, 5, 6, 7, 8, 9, 10, 11, 12] G4 mixed (by kernel_rfl) (Heap.le_refl _) hM ?_
   refine mv ?_
   refine nck ?_
   refine fa fr59_0 ?_
   refine lo (v := .pointer (some ⟨bT, 0, none⟩)) ld54 hp3 ?_
   refine fa fr36_2 ?_
   refine lo (v := u64 s.key) ld22 e3' ?_
   refine rw_ext (v := .float .f64 s.key) rfl rfl (ext33 s.key) rfl ?_
   refine rw_callq cr61 rfl rfl (fun H' w hle hM => c61 hM fun w hM => h62 w _ (Heap.le_trans hl hle) hM) rfl ?_
   refine mv ?_
   refine rw_extract rfl rfl rfl rfl ?_
   refine rw_extract rfl rfl rfl rfl ?_
   refine asg ?_
   refine asg ?_
   refine rw_nil ?_; intro w hM
   exact ⟨_, rfl, Know.of ⟨rfl, rfl, rfl, trivial⟩, hM⟩
  ·refine wp_mix_end [] [] [0, 1, 2, 3, 4, 5, 6, 7, 8, 9, 10, 11] G4 mixed (by kernel_rfl) (Heap.le_refl _) hM ?_
   refine mv ?_
   refine nck ?_
   refine fa fr59_0 ?_
   refine lo (v := .pointer (some ⟨bT, 0, none⟩)) ld54 hp3 ?_
   refine fa fr36_2 ?_
   refine lo (v := u64 s.key) ld22 e3' ?_
   refine rw_callq cr62 rfl rfl (fun H' w hle hM => h62 w _ (Heap.le_trans hl hle) hM) rfl ?_
   refine mv ?_
   refine rw_extract rfl rfl rfl rfl ?_
   refine rw_extract rfl rfl rfl rfl ?_
   refine asg ?_
   refine asg ?_
   refine rw_nil ?_; intro w hM
   exact ⟨_, rfl, Know.of ⟨rfl, rfl, rfl, trivial⟩, hM⟩
 clear hM
 rintro f w ⟨⟨f1, rfl⟩, hM⟩
 have e4' : G4 b4 = some (.cells #[.bool false, u64 0, i64 0] 44 (0, 0)) := e4.trans rfl
 refine wp_seq ?_
 refine rs hM ?_
 refine mv ?_
 refine rw_un rfl rfl rfl (u_not _) ?_
 refine rw_nil ?_; intro w hM
 refine wp_if (tmp_lt rfl) rfl (fun hz => ?_) (fun hz => ?_)
 ·have hno : a = Ans.no := ha.resolve_right fun h => by rw [h.1] at hz; cases hz
  refine rs hM ?_
  refine rw_build bd44_ rfl rfl rfl ?_
  refine rw_store (v := .agg #[.bool _, .int .u64 _, .int .i64 _]) sz44 rfl rfl rfl rfl e4' rfl rfl rfl (by nofun) (fun S7 hS7 kS7 => ?_)
  refine rw_nil ?_; intro w hM
  refine wp_ret ?_
  simp only [Exit.then]
  exact post_cell (ansC a) ld44 rfl rfl hM rfl hS7 (by rw [hno]; rfl) (keep rfl (hM.mono (le_keep hl (le_none l3 n4) kS7)))
 ·have hok : a.ok = true := by cases h : a.ok with | true => rfl | false => rw [h] at hz; cases hz
  have hk : a.key = 0 := by
   rcases ha with h | h
   ·rw [h]; rfl
   ·exact h.2
  refine wp_skip ?_
  simp only [Exit.then]
  refine rs hM ?_
  refine mv ?_
  refine rw_build (bd44_0_2 _ _) rfl rfl rfl ?_
  refine rw_store (v := .agg #[.bool _, .int .u64 _, .int .i64 _]) sz44 rfl rfl rfl rfl e4' rfl rfl rfl (by nofun) (fun S8 hS8 kS8 => ?_)
  refine rw_nil ?_; intro w hM
  refine wp_ret ?_
  exact post_cell (ansC a) ld44 rfl rfl hM rfl hS8 (by unfold ansC; rw [hok, hk]; rfl) (keep rfl (hM.mono (le_keep hl (le_none l3 n4) kS8)))
theorem MapIs.keep {K : KT} {H S : Heap} {bm : Nat} {m : Mp} {V : Mv} (h : MapIs K H bm m V) (hk : ∀ x u, H x = some u → ¬ Plain u → S x = some u) : MapIs K S bm m V := by
 have n132 : ∀ m, ¬ Plain (encM m) := fun _ hp => hp.1 rfl
 have n149 : ∀ n G, ¬ Plain (encG n G) := fun _ _ hp => hp.2.1 rfl
 have n158 : ∀ t, ¬ Plain (encT t) := fun _ hp => hp.2.2.1 rfl
 have n101 : ∀ n d, ¬ Plain (encD n d) := fun _ _ hp => hp.2.2.2 rfl
 cases V with
 | nil => exact ⟨hk _ _ h.1 (n132 _), h.2⟩
 | small sg G => exact ⟨hk _ _ h.1 (n132 _), h.2.1, h.2.2.1, h.2.2.2.1, hk _ _ h.2.2.2.2.1 (n149 _ _), h.2.2.2.2.2⟩
 | big db D =>
  obtain ⟨a, b, c, d⟩ := h
  exact ⟨hk _ _ a (n132 _), b, ⟨hk _ _ c.dir (n101 _ _), fun i hi => hk _ _ (c.tabs i hi) (n158 _), fun i hi => hk _ _ (c.grs i hi) (n149 _ _)⟩, d⟩
/-- One block of another kind changed. -/
theorem Live.off {K : KT} {E : Heap} {bty cb bm bT : Nat} {S S' : Heap} {m : Mp} {V : Mv} {n : Nat} {id : Nat → Nat → Nat} {all : List Ent} {N x0 : Nat} {u0 : Obj} (h : Live K E bty cb bm bT S m V n id all N) (hx : S x0 = some u0) (hp : Plain u0) (hT : x0 ≠ bT) (hc : x0 ≠ cb) (hE : E x0 = none) (hr : ∀ x u, S x = some u → x ≠ x0 → S' x = some u) : Live K E bty cb bm bT S' m V n id all N :=
 ⟨fun x u hx => hr x u (h.ele _ _ hx) (ne_of_none hE hx), hr _ _ h.tab (fun e => hT e.symm), h.map.keep fun x u hxu hnp => hr x u hxu fun e => by rw [e, hx] at hxu; cases hxu; exact hnp hp, h.wr, h.sim, h.used, h.tomb, h.clr, h.pot, hr _ _ h.cnt (fun e => hc e.symm), h.cntN, h.len⟩
theorem Live.succ {K : KT} {E : Heap} {bty cb bm bT : Nat} {S : Heap} {m : Mp} {V : Mv} {n : Nat} {id : Nat → Nat → Nat} {all : List Ent} {N : Nat} (h : Live K E bty cb bm bT S m V n id all N) : Live K E bty cb bm bT S m V n id all (N + 1) :=
 ⟨h.ele, h.tab, h.map, h.wr, h.sim, h.used, h.tomb, Nat.le_succ_of_le h.clr, h.pot.succ, h.cnt, by have := h.cntN; omega, Nat.le_succ_of_le h.len⟩
theorem IterT.weaken {K : KT} {H H' S : Heap} {m m' : Mp} {V V' : Mv} {id id' : Nat → Nat → Nat} {all all' : List Ent} {bm bty : Nat} (hle : H.le H') (h : IterT K H' S m m' V V' id id' all all' bm bty) : IterT K H S m m' V V' id id' all all' bm bty :=
 fun b it gs was h1 h2 hI => h b it gs was h1 h2 (hI.heap (fun x u hx _ => hle x u hx) (by rw [hI.blk]; exact hle _ _ hI.blk))
section
variable {K : KT} {E : Heap} {bty cb bm bT n N : Nat} {nu : Bool} {m : Mp} {V : Mv} {id : Nat → Nat → Nat}
/-- An iteration of the reference, and the iterator in memory. -/
structure WalkI (K : KT) (E : Heap) (bm bty : Nat) (S : Heap) (m : Mp) (V : Mv) (id : Nat → Nat → Nat) (all : List Ent) (t : Itr) (b : Nat) (it : ItV) (gs : Nat → Bool) : Prop where
 on : t.on = true
 eb : E b = none
 it : ItI K m V S id all bm bty b it gs t.was
 seen : SeenRel K all gs t.seen
 lt : ∀ j, j ∈ t.was → j < all.length
 clo : ∀ i j, i < j → j ∈ t.was → liv all i = true → i ∈ t.was
/-- The player beside the reference. -/
structure PS (K : KT) (E : Heap) (bty cb bm bT : Nat) (S : Heap) (bp : Nat) (fl : Bool) (wk : Nat → Option Nat) (m : Mp) (V : Mv) (n : Nat) (id : Nat → Nat → Nat) (M : Mdl) (N : Nat) : Prop where
 pl : S bp = some (encPl bT fl wk)
 ep : E bp = none
 live : Live K E bty cb bm bT S m V n id M.all N
 its : ∀ q, q < 8 → ((M.its q).on = false ∧ wk q = none) ∨ ∃ b it gs, wk q = some b ∧ WalkI K E bm bty S m V id M.all (M.its q) b it gs
 dist : ∀ q p b, q < 8 → p < 8 → wk q = some b → wk p = some b → q = p
theorem WalkI.heap {all : List Ent} {t : Itr} {b : Nat} {it : ItV} {gs : Nat → Bool} {S S' : Heap} (h : WalkI K E bm bty S m V id all t b it gs) (hS : ∀ x u, S x = some u → ¬ Plain u → S' x = some u) (hb : S' b = S b) : WalkI K E bm bty S' m V id all t b it gs :=
 ⟨h.on, h.eb, h.it.heap hS hb, h.seen, h.lt, h.clo⟩
theorem PS.ne_p {bp : Nat} {fl : Bool} {wk : Nat → Option Nat} {M : Mdl} (h : PS K E bty cb bm bT H bp fl wk m V n id M N) : bp ≠ bT ∧ bp ≠ cb := ⟨ne_of_ty h.pl h.live.tab rfl rfl rfl, ne_of_ty h.pl h.live.cnt rfl rfl rfl⟩
theorem setIt_same (f : Nat → Itr) (q : Nat) : setIt f q (f q) = f := by
 funext p; unfold setIt; split
 ·rename_i e; rw [e]
 ·rfl
theorem c49 (hM : Mem w0 w H) (hDb : HasDb w0) (Ty : TypOK K w0 E bty nu) {bp q : Nat} {fl : Bool} {wk : Nat → Option Nat} {M : Mdl} (hP : PS K E bty cb bm bT H bp fl wk m V n id M N) (hq : q < 8) :
  Calls Tryz.prog 49 [.pointer (some ⟨bp, 0, none⟩), i64 (q : Nat)].toArray w (Gives w0 fun v S => ∃ a wk' t, v = .agg (ansC a).toArray ∧ AccNext K M.all (M.its q) a t ∧ PS K E bty cb bm bT S bp fl wk' m V n id { M with its := setIt M.its q t } N ∧ ∀ x u, H x = some u → objTy u ≠ 108 → x ≠ bp → S x = some u) := by
 have hbp := hP.ne_p
 refine calls_start Tryz.func49 rfl Tryz.ntmps49 (Nat.le_of_ble_eq_true rfl) ?_
 refine rs hM ?_
 refine rw_allocN Tryz.zeroValue44 rfl rfl (fun b4 G4 n4 l4 e4 k4 => ?_)
 refine rw_nil ?_; intro w hM
 have hp4 := l4 _ _ hP.pl
 have e4' : G4 b4 = some (.cells #[.bool false, u64 0, i64 0] 44 (0, 0)) := e4.trans rfl
 rcases hP.its q hq with ⟨hon, hw⟩ | ⟨b, it, gs, hw, hW⟩
 ·refine rs hM ?_
  refine mv ?_
  refine mv ?_
  refine nck ?_
  refine fa fr59_2 ?_
  refine rw_indexAddr rfl rfl rfl rfl (x_array Tryz.underlying57 sz56 hq) ?_
  refine rw_load (v := .pointer none) ld56 rfl rfl rfl hp4 (by rw [Nat.mul_one]; have := encPl_cell (bT := bT) (fl := fl) (wk := wk) hq; rw [hw] at this; exact this) ?_
  refine asg ?_
  refine rw_nil ?_; intro w hM
  refine wp_seq ?_
  refine rs hM ?_
  refine mv ?_
  refine rw_bin rfl rfl rfl rfl (b_nil_eq none Tryz.underlying56) ?_
  refine rw_nil ?_; intro w hM
  refine wp_if (tmp_lt rfl) rfl (fun hc => ?_) (by nofun)
  refine rs hM ?_
  refine rw_build bd44_ rfl rfl rfl ?_
  refine rw_store (v := .agg #[.bool _, .int .u64 _, .int .i64 _]) sz44 rfl rfl rfl rfl e4' rfl rfl rfl (by nofun) (fun S3 hS3 kS3 => ?_)
  refine rw_nil ?_; intro w hM
  refine wp_ret ?_
  simp only [Exit.then]
  have hle : H.le S3 := le_keep l4 n4 kS3
  refine post_cell (ansC Ans.no) ld44 rfl rfl hM rfl hS3 rfl ⟨_, S3, rfl, hM, Ans.no, wk, M.its q, rfl, .off hon, ?_, fun x u hx _ _ => hle x u hx⟩
  rw [setIt_same]
  exact ⟨hle _ _ hP.pl, hP.ep, hP.live.mono hle, fun q' hq' => (hP.its q' hq').imp (fun h => h) fun ⟨b, it, gs, h1, h2⟩ => ⟨b, it, gs, h1, h2.heap (fun x u hx _ => hle x u hx) (by rw [h2.it.blk]; exact hle _ _ h2.it.blk)⟩, hP.dist⟩
 ·have hbp2 : b ≠ bp := ne_of_ty hW.it.blk hP.pl rfl rfl rfl
  have hL4 := hP.live.mono l4
  have hW4 := hW.heap (S' := G4) (fun x u hx _ => l4 x u hx) (by rw [hW.it.blk]; exact l4 _ _ hW.it.blk)
  have hU := hP.live.sim.uni hP.live.map
  have hbT : b ≠ bT := ne_of_ty hW.it.blk hP.live.tab rfl rfl rfl
  have hbc : b ≠ cb := ne_of_ty hW.it.blk hP.live.cnt rfl rfl rfl
  refine rs hM ?_
  refine mv ?_
  refine mv ?_
  refine nck ?_
  refine fa fr59_2 ?_
  refine rw_indexAddr rfl rfl rfl rfl (x_array Tryz.underlying57 sz56 hq) ?_
  refine rw_load (v := .pointer (some ⟨b, 0, none⟩)) ld56 rfl rfl rfl hp4 (by rw [Nat.mul_one]; have := encPl_cell (bT := bT) (fl := fl) (wk := wk) hq; rw [hw] at this; exact this) ?_
  refine asg ?_
  refine rw_nil ?_; intro w hM
  refine wp_seq ?_
  refine rs hM ?_
  refine mv ?_
  refine rw_bin rfl rfl rfl rfl (b_nil_eq (some _) Tryz.underlying56) ?_
  refine rw_nil ?_; intro w hM
  refine wp_if (tmp_lt rfl) rfl (by nofun) (fun hc => ?_)
  refine wp_skip ?_
  simp only [Exit.then]
  refine rs hM ?_
  refine mv ?_
  refine rw_callE cr68 rfl rfl (fun w hM => c68 hM hDb Ty hL4 hW.eb hW4.it) rfl (by nofun) ?_; rintro _ S1 ⟨a, rfl, hrest, hout⟩
  refine mv ?_
  refine rw_extract rfl rfl rfl rfl ?_
  refine rw_extract rfl rfl rfl rfl ?_
  refine rw_extract rfl rfl rfl rfl ?_
  refine asg ?_
  refine asg ?_
  refine asg ?_
  refine rw_nil ?_; intro w hM
  have hL1 : Live K E bty cb bm bT S1 m V n id M.all N := hL4.off hW4.it.blk (encIt_plain it) hbT hbc hW.eb hrest
  have hS1 : ∀ x u, H x = some u → x ≠ b → S1 x = some u := fun x u hx hne => hrest x u (l4 _ _ hx) hne
  have hp1 := hS1 _ _ hP.pl (fun e => hbp2 e.symm)
  have e41 := hrest _ _ e4' (ne_of_none n4 hW.it.blk).symm
  have hoth : ∀ q', q' < 8 → q' ≠ q → ((M.its q').on = false ∧ wk q' = none) ∨ ∃ b it gs, wk q' = some b ∧ WalkI K E bm bty S1 m V id M.all (M.its q') b it gs := fun q' hq' hne => by
   rcases hP.its q' hq' with h | ⟨b', it', gs', h1, h2⟩
   ·exact .inl h
   ·have hbb : b' ≠ b := fun e => hne (hP.dist q' q b hq' hq (by rw [h1, e]) hw)
    exact .inr ⟨b', it', gs', h1, h2.heap (fun x u hx hnp => hS1 x u hx fun e => by rw [e, hW.it.blk] at hx; cases hx; exact hnp (encIt_plain it)) (by rw [h2.it.blk]; exact hS1 _ _ h2.it.blk hbb)⟩
  have hframe : ∀ x u, H x = some u → objTy u ≠ 108 → S1 x = some u := fun x u hx h108 => hS1 x u hx fun e => by rw [e, hW.it.blk] at hx; cases hx; exact h108 rfl
  refine wp_seq ?_
  rcases hout with ⟨rfl, hall⟩ | ⟨j, x, it', hok, hj, hI', hx, hxg, hxe, hxk, hkl, hel⟩
  ·refine rs hM ?_
   refine mv ?_
   refine rw_un rfl rfl rfl (u_not _) ?_
   refine rw_nil ?_; intro w hM
   refine wp_if (tmp_lt rfl) rfl (fun hc => ?_) (by nofun)
   refine rs hM ?_
   refine mv ?_
   refine mv ?_
   refine nck ?_
   refine fa fr59_2 ?_
   refine rw_indexAddr rfl rfl rfl rfl (x_array Tryz.underlying57 sz56 hq) ?_
   refine rw_storeE (v := .pointer none) (c' := plC bT fl (setWk wk q none)) sz56 rfl rfl rfl rfl hp1 (by rw [Nat.mul_one, Nat.zero_add]; exact encPl_set (o := none) hq) (by rw [Nat.mul_one]; show 2 + q < 10; omega) rfl (by nofun) (fun S6 hS6 kS6 => ?_)
   refine rw_nil ?_; intro w hM
   have e46 : S6 b4 = some (.cells #[.bool false, u64 0, i64 0] 44 (0, 0)) := (kS6 _ (ne_of_none n4 hP.pl).symm).trans e41
   refine rs hM ?_
   refine rw_build bd44_ rfl rfl rfl ?_
   refine rw_store (v := .agg #[.bool _, .int .u64 _, .int .i64 _]) sz44 rfl rfl rfl rfl e46 rfl rfl rfl (by nofun) (fun S7 hS7 kS7 => ?_)
   refine rw_nil ?_; intro w hM
   refine wp_ret ?_
   simp only [Exit.then]
   have hb4p : b4 ≠ bp := (ne_of_none n4 hP.pl).symm
   have hb4T : b4 ≠ bT := (ne_of_none n4 hP.live.tab).symm
   have hb4c : b4 ≠ cb := (ne_of_none n4 hP.live.cnt).symm
   have hE4 : E b4 = none := le_none hP.live.ele n4
   have hL6 : Live K E bty cb bm bT S6 m V n id M.all N := hL1.off hp1 (plain_of rfl) hbp.1 hbp.2 hP.ep fun x u hx hne => (kS6 x hne).trans hx
   have hL7 : Live K E bty cb bm bT S7 m V n id M.all N := hL6.off e46 (plain_of rfl) hb4T hb4c hE4 fun x u hx hne => (kS7 x hne).trans hx
   have hS7' : ∀ x u, S1 x = some u → objTy u ≠ 59 → objTy u ≠ 44 → S7 x = some u := fun x u hx h59 h44 => by
    rw [kS7 x fun e => by rw [e, e41] at hx; cases hx; exact h44 rfl, kS6 x fun e => by rw [e, hp1] at hx; cases hx; exact h59 rfl]; exact hx
   refine post_cell (ansC Ans.no) ld44 rfl rfl hM rfl hS7 rfl ⟨_, S7, rfl, hM, Ans.no, setWk wk q none, { M.its q with on := false }, rfl, .fin hW.on (hW.seen.fin hW.clo hall), ⟨(kS7 _ (fun e => hb4p e.symm)).trans hS6, hP.ep, hL7, fun q' hq' => ?_, fun q1 p1 b1 h1 h2 h3 h4 => ?_⟩, fun x u hx h108 hne => ?_⟩
   ·by_cases e : q' = q
    ·subst e
     left
     exact ⟨by show (setIt M.its q' { M.its q' with on := false } q').on = false; unfold setIt; rw [if_pos rfl], by unfold setWk; rw [if_pos rfl]⟩
    ·have e1 : setIt M.its q { M.its q with on := false } q' = M.its q' := if_neg e
     have e2 : setWk wk q none q' = wk q' := if_neg e
     show ((setIt M.its q { M.its q with on := false } q').on = false ∧ _) ∨ ∃ b it gs, _ ∧ WalkI K E bm bty S7 m V id M.all (setIt M.its q { M.its q with on := false } q') b it gs
     rw [e1, e2]
     rcases hoth q' hq' e with h | ⟨b', it', gs', h1, h2⟩
     ·exact .inl h
     ·refine .inr ⟨b', it', gs', h1, h2.heap (fun x u hx hnp => hS7' x u hx (fun e => hnp ⟨by rw [e]; decide, by rw [e]; decide, by rw [e]; decide, by rw [e]; decide⟩) (fun e => hnp ⟨by rw [e]; decide, by rw [e]; decide, by rw [e]; decide, by rw [e]; decide⟩)) ?_⟩
      ·rw [h2.it.blk]; exact hS7' _ _ h2.it.blk (by show (108 : Nat) ≠ 59; decide) (by show (108 : Nat) ≠ 44; decide)
   ·unfold setWk at h3 h4
    split at h3
    ·cases h3
    ·split at h4
     ·cases h4
     ·exact hP.dist q1 p1 b1 h1 h2 h3 h4
   ·rw [kS7 x (ne_of_none n4 hx), kS6 x hne]; exact hframe x u hx h108
  ·obtain ⟨i, hfit, hmin, hseen⟩ := hW.seen.next hU hx hxg hj hxk hxe
   refine rs hM ?_
   refine mv ?_
   refine rw_un rfl rfl rfl (u_not _) ?_
   refine rw_nil ?_; intro w hM
   refine wp_if (tmp_lt rfl) rfl (fun hc => ?_) (fun hc => ?_)
   ·rw [hok] at hc; cases hc
   refine wp_skip ?_
   simp only [Exit.then]
   refine rs hM ?_
   refine mv ?_
   refine mv ?_
   refine rw_build (v := .agg #[.bool true, u64 a.key, i64 a.elem]) (bd44_0_1_2 _ _ _) rfl rfl rfl ?_
   refine rw_store (v := .agg #[.bool _, .int .u64 _, .int .i64 _]) sz44 rfl rfl rfl rfl e41 rfl rfl rfl (by nofun) (fun S8 hS8 kS8 => ?_)
   refine rw_nil ?_; intro w hM
   refine wp_ret ?_
   have hb4p : b4 ≠ bp := (ne_of_none n4 hP.pl).symm
   have hb4T : b4 ≠ bT := (ne_of_none n4 hP.live.tab).symm
   have hb4c : b4 ≠ cb := (ne_of_none n4 hP.live.cnt).symm
   have hE4 : E b4 = none := le_none hP.live.ele n4
   have hL8 : Live K E bty cb bm bT S8 m V n id M.all N := hL1.off e41 (plain_of rfl) hb4T hb4c hE4 fun x u hx hne => (kS8 x hne).trans hx
   have hS8' : ∀ x u, S1 x = some u → objTy u ≠ 44 → S8 x = some u := fun x u hx h44 => by
    rw [kS8 x fun e => by rw [e, e41] at hx; cases hx; exact h44 rfl]; exact hx
   have hnp44 : ∀ u, ¬ Plain u → objTy u ≠ 44 := fun u hnp e => hnp ⟨by rw [e]; decide, by rw [e]; decide, by rw [e]; decide, by rw [e]; decide⟩
   refine post_cell (ansC a) ld44 rfl rfl hM rfl hS8 (by unfold ansC; rw [hok]; rfl) ⟨_, S8, rfl, hM, a, wk, { M.its q with seen := flip1 (M.its q).seen i }, rfl, .one hW.on hok hfit hmin, ⟨hS8' _ _ hp1 (by show (59 : Nat) ≠ 44; decide), hP.ep, hL8, fun q' hq' => ?_, hP.dist⟩, fun x u hx h108 _ => ?_⟩
   ·by_cases e : q' = q
    ·subst e
     have e1 : setIt M.its q' { M.its q' with seen := flip1 (M.its q').seen i } q' = { M.its q' with seen := flip1 (M.its q').seen i } := if_pos rfl
     right
     show ∃ b it gs, _ ∧ WalkI K E bm bty S8 m V id M.all (setIt M.its q' { M.its q' with seen := flip1 (M.its q').seen i } q') b it gs
     rw [e1]
     exact ⟨b, it', flip1 gs j, hw, hW.on, hW.eb, hI'.heap (fun x u hx hnp => hS8' x u hx (hnp44 u hnp)) (by rw [hI'.blk]; exact hS8' _ _ hI'.blk (by show (108 : Nat) ≠ 44; decide)), hseen, hW.lt, hW.clo⟩
    ·have e1 : setIt M.its q { M.its q with seen := flip1 (M.its q).seen i } q' = M.its q' := if_neg e
     show ((setIt M.its q { M.its q with seen := flip1 (M.its q).seen i } q').on = false ∧ _) ∨ ∃ b it gs, _ ∧ WalkI K E bm bty S8 m V id M.all (setIt M.its q { M.its q with seen := flip1 (M.its q).seen i } q') b it gs
     rw [e1]
     rcases hoth q' hq' e with h | ⟨b', it', gs', h1, h2⟩
     ·exact .inl h
     ·exact .inr ⟨b', it', gs', h1, h2.heap (fun x u hx hnp => hS8' x u hx (hnp44 u hnp)) (by rw [h2.it.blk]; exact hS8' _ _ h2.it.blk (by show (108 : Nat) ≠ 44; decide))⟩
   ·rw [kS8 x (ne_of_none n4 hx)]; exact hframe x u hx h108
end
end
section
variable {w0 w : World} {H : Heap}
theorem eqk_num {K : KT} {a k : Nat} (h : K.eqk a k = true) : K.nan a = false := by simp [KT.nan, K.refl_left h]
theorem SeenRel.put {K : KT} {all : List Ent} {gs seen : Nat → Bool} (h : SeenRel K all gs seen) (k : Nat) (e : Int) : SeenRel K (putE K all k e) gs seen := by
 unfold putE
 cases hf : findE K all k with
 | none => exact h.append k e
 | some i =>
  obtain ⟨a, a1, _, a3⟩ := findE_some hf
  exact h.setElem a1 (eqk_num a3) e
theorem SeenRel.del {K : KT} {all : List Ent} {gs seen : Nat → Bool} (h : SeenRel K all gs seen) (k : Nat) : SeenRel K (delE K all k) gs seen := by
 unfold delE
 cases hf : findE K all k with
 | none => exact h
 | some i =>
  obtain ⟨a, a1, _, a3⟩ := findE_some hf
  exact h.goneAt a1 (eqk_num a3)
theorem liv_put {K : KT} {all : List Ent} {k : Nat} {e : Int} {i : Nat} (hi : i < all.length) (h : liv (putE K all k e) i = true) : liv all i = true := by
 unfold putE at h
 cases hf : findE K all k with
 | none => rw [hf] at h; simp only at h; unfold liv at h ⊢; rw [List.getElem?_append_left hi] at h; exact h
 | some j => rw [hf] at h; simp only at h; rw [liv_setElem] at h; exact h
theorem liv_del {K : KT} {all : List Ent} {k i : Nat} (h : liv (delE K all k) i = true) : liv all i = true := by
 unfold delE at h
 cases hf : findE K all k with
 | none => rw [hf] at h; exact h
 | some j => rw [hf] at h; simp only at h; rw [liv_goneAt, Bool.and_eq_true_iff] at h; exact h.1
section
variable {K : KT} {E : Heap} {bty cb bm bT n N : Nat} {nu : Bool} {m : Mp} {V : Mv} {id : Nat → Nat → Nat}
/-- A step that changes the entries alone. -/
theorem PS.turn {bp : Nat} {fl : Bool} {wk : Nat → Option Nat} {M : Mdl} {S : Heap} {m' : Mp} {V' : Mv} {n' : Nat} {id' : Nat → Nat → Nat} {all' : List Ent} (hP : PS K E bty cb bm bT H bp fl wk m V n id M N) (hL : Live K E bty cb bm bT S m' V' n' id' all' (N + 1)) (hT : IterT K H S m m' V V' id id' M.all all' bm bty) (hk : KeepP H S cb)
  (hlen : M.all.length ≤ all'.length) (hliv : ∀ i, i < M.all.length → liv all' i = true → liv M.all i = true) (hseen : ∀ gs seen, SeenRel K M.all gs seen → SeenRel K all' gs seen) : PS K E bty cb bm bT S bp fl wk m' V' n' id' { M with all := all' } (N + 1) := by
 refine ⟨hk _ _ hP.pl (plain_of rfl) hP.ne_p.2, hP.ep, hL, fun q hq => ?_, hP.dist⟩
 rcases hP.its q hq with h | ⟨b, it, gs, h1, h2⟩
 ·exact .inl h
 ·exact .inr ⟨b, it, gs, h1, h2.on, h2.eb, hT b it gs _ (fun j hj => (h2.seen.out j hj).1) h2.lt h2.it, hseen _ _ h2.seen, fun j hj => Nat.lt_of_lt_of_le (h2.lt j hj) hlen, fun i j hij hj hl => h2.clo i j hij hj (hliv i (Nat.lt_trans hij (h2.lt j hj)) hl)⟩
theorem PS.succ {bp : Nat} {fl : Bool} {wk : Nat → Option Nat} {M : Mdl} (hP : PS K E bty cb bm bT H bp fl wk m V n id M N) : PS K E bty cb bm bT H bp fl wk m V n id M (N + 1) := ⟨hP.pl, hP.ep, hP.live.succ, hP.its, hP.dist⟩
theorem PS.mono {bp : Nat} {fl : Bool} {wk : Nat → Option Nat} {M : Mdl} {S : Heap} (hP : PS K E bty cb bm bT H bp fl wk m V n id M N) (hle : H.le S) : PS K E bty cb bm bT S bp fl wk m V n id M N :=
 ⟨hle _ _ hP.pl, hP.ep, hP.live.mono hle, fun q' hq' => (hP.its q' hq').imp (fun h => h) fun ⟨b, it, gs, h1, h2⟩ => ⟨b, it, gs, h1, h2.heap (fun x u hx _ => hle x u hx) (by rw [h2.it.blk]; exact hle _ _ h2.it.blk)⟩, hP.dist⟩
/-- One block of the caller's changed. -/
theorem PS.off {bp : Nat} {fl : Bool} {wk : Nat → Option Nat} {M : Mdl} {S : Heap} {x0 : Nat} {u0 : Obj} (hP : PS K E bty cb bm bT H bp fl wk m V n id M N) (hx : H x0 = some u0) (hp : Plain u0) (h1 : objTy u0 ≠ 98) (h2 : objTy u0 ≠ 3) (h3 : objTy u0 ≠ 59) (h4 : objTy u0 ≠ 108) (hE : E x0 = none) (hr : ∀ x u, H x = some u → x ≠ x0 → S x = some u) : PS K E bty cb bm bT S bp fl wk m V n id M N := by
 have nT : x0 ≠ bT := fun e => by have := hP.live.tab; rw [← e, hx] at this; cases this; exact h1 rfl
 have nc : x0 ≠ cb := fun e => by have := hP.live.cnt; rw [← e, hx] at this; cases this; exact h2 rfl
 have np : bp ≠ x0 := fun e => by have := hP.pl; rw [e, hx] at this; cases this; exact h3 rfl
 refine ⟨hr _ _ hP.pl np, hP.ep, hP.live.off hx hp nT nc hE fun x u hx hne => hr x u hx hne, fun q hq => (hP.its q hq).imp (fun h => h) fun ⟨b, it, gs, a1, a2⟩ => ⟨b, it, gs, a1, a2.heap (fun x u hxu hnp => hr x u hxu fun e => by rw [e, hx] at hxu; cases hxu; exact hnp hp) ((hr b _ a2.it.blk fun e => ?_).trans a2.it.blk.symm)⟩, hP.dist⟩
 have := a2.it.blk
 rw [e, hx] at this; cases this; exact h4 rfl
/-- What a step keeps of the caller's blocks. -/
def Fr (H S : Heap) (cb bp : Nat) : Prop := ∀ x u, H x = some u → Plain u → objTy u ≠ 108 → x ≠ cb → x ≠ bp → S x = some u
theorem c32 (hM : Mem w0 w H) (hDb : HasDb w0) (hEP : ∀ x u, E x = some u → Plain u) (hEc : E cb = none) (Ty : TypOK K w0 E bty nu) (R : Rnd w0 E cb Ty.rand) {bp : Nat} {fl : Bool} {wk : Nat → Option Nat} {M : Mdl} (hP : PS K E bty cb bm bT H bp fl wk m V n id M N) (hN : N ≤ 6000) (hCls : V.Cls K)
  {s : Stp} (hk0 : 0 ≤ s.kind) (hk6 : s.kind ≤ 6) (hi0 : 0 ≤ s.iter) (hi7 : s.iter ≤ 7) (hkey : s.key < 2 ^ 64) (hel : InI64 s.elem) :
  Calls Tryz.prog 32 [.pointer (some ⟨bp, 0, none⟩), .agg (stepC s).toArray].toArray w (Gives w0 fun v S => ∃ a M' wk' m' V' n' id', v = .agg (ansC a).toArray ∧ Acc K M s a M' ∧ PS K E bty cb bm bT S bp fl wk' m' V' n' id' M' (N + 1) ∧ Fr H S cb bp) := by
 refine calls_start Tryz.func32 rfl Tryz.ntmps32 (Nat.le_of_ble_eq_true rfl) ?_
 refine rs hM ?_
 refine rw_boxN (v := .agg (stepC s).toArray) rfl rfl rfl (fun b3 G3 n3 l3 e3 k3 => ?_)
 refine rw_allocN Tryz.zeroValue44 rfl rfl (fun b4 G4 n4 l4 e4 k4 => ?_)
 refine rw_nil ?_; intro w hM
 have hl := Heap.le_trans l3 l4
 have e3' := l4 _ _ e3
 have e4' : G4 b4 = some (.cells #[.bool false, u64 0, i64 0] 44 (0, 0)) := e4.trans rfl
 have hP4 := hP.mono hl
 have hE4 : E b4 = none := le_none hP.live.ele (le_none l3 n4)
 have hE3 : E b3 = none := le_none hP.live.ele n3
 have hb4p : b4 ≠ bp := (ne_of_none (le_none l3 n4) hP.pl).symm
 have hb3p : b3 ≠ bp := (ne_of_none n3 hP.pl).symm
 have hb4c : b4 ≠ cb := (ne_of_none (le_none l3 n4) hP.live.cnt).symm
 have hb3c : b3 ≠ cb := (ne_of_none n3 hP.live.cnt).symm
 have h4 : ∀ S, Fr G4 S cb bp → S b4 = some (.cells #[.bool false, u64 0, i64 0] 44 (0, 0)) := fun S h => h b4 _ e4' (plain_of rfl) (by show (44 : Nat) ≠ 108; decide) hb4c hb4p
 have done : ∀ (w : World) (S0 S : Heap) (a : Ans) (M' : Mdl) (wk' : Nat → Option Nat) (m' : Mp) (V' : Mv) (n' : Nat) (id' : Nat → Nat → Nat), Mem w0 w S → PS K E bty cb bm bT S0 bp fl wk' m' V' n' id' M' (N + 1) → Fr G4 S0 cb bp → (∀ x, x ≠ b4 → S x = S0 x) → Acc K M s a M' →
   Gives w0 (fun v S => ∃ a M' wk' m' V' n' id', v = .agg (ansC a).toArray ∧ Acc K M s a M' ∧ PS K E bty cb bm bT S bp fl wk' m' V' n' id' M' (N + 1) ∧ Fr H S cb bp) (.returned (.agg (ansC a).toArray)) w := fun w S0 S a M' wk' m' V' n' id' hM h1 h2 h3 h5 =>
  ⟨_, S, rfl, hM, a, M', wk', m', V', n', id', rfl, h5, h1.off (h4 S0 h2) (plain_of rfl) (by show (44 : Nat) ≠ 98; decide) (by show (44 : Nat) ≠ 3; decide) (by show (44 : Nat) ≠ 59; decide) (by show (44 : Nat) ≠ 108; decide) hE4 (fun x u hx hne => (h3 x hne).trans hx), fun x u hx hp h8 hc hb => (h3 x (ne_of_none (le_none l3 n4) hx)).trans (h2 x u (hl _ _ hx) hp h8 hc hb)⟩
 refine wp_seq_mid (fun f w => ∃ S wk m V n id M1 N1, Know f [(0, .pointer (some ⟨bp, 0, none⟩)), (3, .pointer (some ⟨b3, 0, none⟩)), (4, .pointer (some ⟨b4, 0, none⟩))] ∧ Mem w0 w S ∧ PS K E bty cb bm bT S bp fl wk m V n id M1 N1 ∧ Fr G4 S cb bp ∧ ((s.kind ≠ 5 ∧ s.kind ≠ 6 ∧ Acc K M s Ans.no M1 ∧ N1 = N + 1) ∨ ((s.kind = 5 ∨ s.kind = 6) ∧ M1 = M ∧ N1 = N))) ?_ ?_
 ·refine rs hM ?_
  refine fa fr36_0 ?_
  refine lo (v := i64 s.kind) ld3 e3' ?_
  refine rw_nil ?_; intro w hM
  refine wp_block ?_
  by_cases h0 : s.kind = 0
  ·refine rs hM ?_
   refine rw_bin rfl rfl rfl rfl (b_true (b_eq _ _) (beq_iff_eq.2 h0)) ?_
   refine asg ?_
   refine rw_nil ?_; intro w hM
   refine wp_if (tmp_lt rfl) rfl (fun hc => ?_) (by nofun)
   refine re hM ?_
   refine mv ?_
   refine rw_loadA (stepC s) ld36 rfl rfl rfl e3' rfl ?_
   refine rw_callE cr43 rfl rfl (fun w hM => c43 hM hP4.pl (s := s) (Φ := fun S => ∃ m' V' id', Live K E bty cb bm bT S m' V' n id' (putE K M.all s.key s.elem) (N + 1) ∧ IterT K G4 S m m' V V' id id' M.all (putE K M.all s.key s.elem) bm bty ∧ KeepP G4 S cb) fun w H' hle hM => (c60 hM hDb hEP Ty (hP4.live.mono hle) hN hCls hkey hel).mono fun r w' hg => hg.mono fun v S ⟨a1, m', V', id', a2, a3, a4⟩ => ⟨a1, m', V', id', a2, a3.weaken hle, fun x u hx hp hc => a4 x u (hle _ _ hx) hp hc⟩) rfl (by nofun) ?_; rintro _ S3 ⟨rfl, m', V', id', a2, a3, a4⟩
   refine rw_nil ?_; intro w hM
   simp only [Exit.inBlock]
   exact ⟨_, rfl, S3, wk, m', V', n, id', _, N + 1, Know.of ⟨rfl, rfl, rfl, trivial⟩, hM, hP4.turn a2 a3 a4 (by unfold putE; split <;> simp [setElem]) (fun i hi hl => liv_put hi hl) (fun _ _ h => h.put _ _), fun x u hx hp _ hc _ => a4 x u hx hp hc, .inl ⟨by omega, by omega, .put h0, rfl⟩⟩
  refine rs hM ?_
  refine rw_bin rfl rfl rfl rfl (b_false (b_eq _ _) (beq_false_of_ne h0)) ?_
  refine asg ?_
  refine rw_nil ?_; intro w hM
  refine wp_if (tmp_lt rfl) rfl (by nofun) (fun hc => ?_)
  by_cases h1 : s.kind = 1
  ·refine rs hM ?_
   refine rw_bin rfl rfl rfl rfl (b_true (b_eq _ _) (beq_iff_eq.2 h1)) ?_
   refine asg ?_
   refine rw_nil ?_; intro w hM
   refine wp_if (tmp_lt rfl) rfl (fun hc => ?_) (by nofun)
   have hget : getE K M.all s.key = Ans.no ∨ ((getE K M.all s.key).ok = true ∧ (getE K M.all s.key).key = 0) := by
    unfold getE; split
    ·exact .inr ⟨rfl, rfl⟩
    ·exact .inl rfl
   refine rs hM ?_
   refine mv ?_
   refine rw_loadA (stepC s) ld36 rfl rfl rfl e3' rfl ?_
   refine rw_callq (v := .agg (ansC (getE K M.all s.key)).toArray) cr44 rfl rfl (fun H' w hle hM => c44 hM (hle _ _ hP4.pl) hget fun w H'' hle' hM => c62 hM hDb Ty (hP4.live.mono (Heap.le_trans hle hle')) hkey) rfl ?_
   refine rw_store (v := .agg (ansC (getE K M.all s.key)).toArray) sz44 rfl rfl rfl rfl e4' rfl rfl rfl (by nofun) (fun S5 hS5 kS5 => ?_)
   refine rw_nil ?_; intro w hM
   refine wp_ret ?_
   simp only [Exit.inBlock, Exit.then]
   exact post_cell (ansC (getE K M.all s.key)) ld44 rfl rfl hM rfl hS5 rfl (done _ G4 S5 _ _ _ _ _ _ _ hM hP4.succ (fun x u hx _ _ _ _ => hx) kS5 (.get h1))
  refine rs hM ?_
  refine rw_bin rfl rfl rfl rfl (b_false (b_eq _ _) (beq_false_of_ne h1)) ?_
  refine asg ?_
  refine rw_nil ?_; intro w hM
  refine wp_if (tmp_lt rfl) rfl (by nofun) (fun hc => ?_)
  by_cases h2 : s.kind = 2
  ·refine rs hM ?_
   refine rw_bin rfl rfl rfl rfl (b_true (b_eq _ _) (beq_iff_eq.2 h2)) ?_
   refine asg ?_
   refine rw_nil ?_; intro w hM
   refine wp_if (tmp_lt rfl) rfl (fun hc => ?_) (by nofun)
   refine re hM ?_
   refine mv ?_
   refine rw_loadA (stepC s) ld36 rfl rfl rfl e3' rfl ?_
   refine rw_callE cr45 rfl rfl (fun w hM => c45 hM hP4.pl (s := s) (Φ := fun S => ∃ m' V' n', Live K E bty cb bm bT S m' V' n' id (delE K M.all s.key) (N + 1) ∧ IterT K G4 S m m' V V' id id M.all (delE K M.all s.key) bm bty ∧ KeepP G4 S cb) fun w H' hle hM => (c64 hM hDb hEP hEc Ty R (hP4.live.mono hle) hN hkey).mono fun r w' hg => hg.mono fun v S ⟨a1, m', V', n', a2, a3, a4⟩ => ⟨a1, m', V', n', a2, a3.weaken hle, fun x u hx hp hc => a4 x u (hle _ _ hx) hp hc⟩) rfl (by nofun) ?_; rintro _ S7 ⟨rfl, m', V', n', a2, a3, a4⟩
   refine rw_nil ?_; intro w hM
   simp only [Exit.inBlock]
   exact ⟨_, rfl, S7, wk, m', V', n', id, _, N + 1, Know.of ⟨rfl, rfl, rfl, trivial⟩, hM, hP4.turn a2 a3 a4 (by rw [delE_len]; exact Nat.le_refl _) (fun i _ hl => liv_del hl) (fun _ _ h => h.del _), fun x u hx hp _ hc _ => a4 x u hx hp hc, .inl ⟨by omega, by omega, .del h2, rfl⟩⟩
  refine rs hM ?_
  refine rw_bin rfl rfl rfl rfl (b_false (b_eq _ _) (beq_false_of_ne h2)) ?_
  refine asg ?_
  refine rw_nil ?_; intro w hM
  refine wp_if (tmp_lt rfl) rfl (by nofun) (fun hc => ?_)
  by_cases h3 : s.kind = 3
  ·refine rs hM ?_
   refine rw_bin rfl rfl rfl rfl (b_true (b_eq _ _) (beq_iff_eq.2 h3)) ?_
   refine asg ?_
   refine rw_nil ?_; intro w hM
   refine wp_if (tmp_lt rfl) rfl (fun hc => ?_) (by nofun)
   refine re hM ?_
   refine mv ?_
   refine nck ?_
   refine fa fr59_0 ?_
   refine lo (v := .pointer (some ⟨bT, 0, none⟩)) ld54 hP4.pl ?_
   refine rw_callE cr46 rfl rfl (fun w hM => c46 hM hEP hEc Ty R hP4.live hN) rfl (by nofun) ?_; rintro _ S9 ⟨rfl, m', V', n', a2, a3, a4⟩
   refine rw_nil ?_; intro w hM
   simp only [Exit.inBlock]
   exact ⟨_, rfl, S9, wk, m', V', n', id, _, N + 1, Know.of ⟨rfl, rfl, rfl, trivial⟩, hM, hP4.turn a2 a3 a4 (by simp [goneAll]) (fun i _ hl => by rw [liv_goneAll] at hl; cases hl) (fun _ _ h => h.goneAll), fun x u hx hp _ hc _ => a4 x u hx hp hc, .inl ⟨by omega, by omega, .clear h3, rfl⟩⟩
  refine rs hM ?_
  refine rw_bin rfl rfl rfl rfl (b_false (b_eq _ _) (beq_false_of_ne h3)) ?_
  refine asg ?_
  refine rw_nil ?_; intro w hM
  refine wp_if (tmp_lt rfl) rfl (by nofun) (fun hc => ?_)
  by_cases h5 : s.kind = 4
  ·refine rs hM ?_
   refine rw_bin rfl rfl rfl rfl (b_true (b_eq _ _) (beq_iff_eq.2 h5)) ?_
   refine asg ?_
   refine rw_nil ?_; intro w hM
   refine wp_if (tmp_lt rfl) rfl (fun hc => ?_) (by nofun)
   refine rs hM ?_
   refine mv ?_
   refine nck ?_
   refine fa fr59_0 ?_
   refine lo (v := .pointer (some ⟨bT, 0, none⟩)) ld54 hP4.pl ?_
   refine rw_callq (v := i64 (lenE M.all : Nat)) cr47 rfl rfl (fun H' w hle hM => c47 hM (hP4.live.mono hle) hN) rfl ?_
   refine rw_build (bd44_2 _) rfl rfl rfl ?_
   refine rw_store (v := .agg #[.bool _, .int .u64 _, .int .i64 _]) sz44 rfl rfl rfl rfl e4' rfl rfl rfl (by nofun) (fun S11 hS11 kS11 => ?_)
   refine rw_nil ?_; intro w hM
   refine wp_ret ?_
   simp only [Exit.inBlock, Exit.then]
   exact post_cell (ansC ⟨false, 0, (lenE M.all : Nat)⟩) ld44 rfl rfl hM rfl hS11 rfl (done _ G4 S11 _ _ _ _ _ _ _ hM hP4.succ (fun x u hx _ _ _ _ => hx) kS11 (.len h5))
  refine rs hM ?_
  refine rw_bin rfl rfl rfl rfl (b_false (b_eq _ _) (beq_false_of_ne h5)) ?_
  refine asg ?_
  refine rw_nil ?_; intro w hM
  refine wp_if (tmp_lt rfl) rfl (by nofun) (fun hc => ?_)
  refine wp_skip ?_
  simp only [Exit.inBlock]
  exact ⟨_, rfl, G4, wk, m, V, n, id, M, N, Know.of ⟨rfl, rfl, rfl, trivial⟩, hM, hP4, fun x u hx _ _ _ _ => hx, .inr ⟨by omega, rfl, rfl⟩⟩
 clear hM
 rintro f w ⟨S, wk, m, V, n, id, M1, N1, ⟨f1, rfl⟩, hM, hPS, hfr, hcase⟩
 have hb3 : S b3 = some (.cells (stepC s).toArray 36 (0, 0)) := hfr b3 _ (e3'.trans rfl) (plain_of rfl) (by show (36 : Nat) ≠ 108; decide) hb3c hb3p
 obtain ⟨q, hq⟩ : ∃ q : Nat, s.iter = (q : Nat) := ⟨s.iter.toNat, by omega⟩
 have hq8 : q < 8 := by omega
 have hqn : s.iter.toNat = q := by omega
 have hb4' := h4 S hfr
 have hit : objCell (.cells (stepC s).toArray 36 (0, 0)) 1 = some (i64 (q : Nat)) := by rw [← hq]; rfl
 refine wp_seq ?_
 refine rs hM ?_
 refine fa fr36_1 ?_
 refine rw_load (v := i64 (q : Nat)) ld3 rfl rfl rfl hb3 hit ?_
 refine rw_bin rfl rfl rfl rfl (b_false (b_lt _ _) (decide_eq_false (by omega))) ?_
 refine mv ?_
 refine fa fr36_1 ?_
 refine rw_load (v := i64 (q : Nat)) ld3 rfl rfl rfl hb3 hit ?_
 refine rw_bin rfl rfl rfl rfl (b_false (b_ge _ _) (decide_eq_false (by omega))) ?_
 refine rw_pick rfl rfl rfl rfl rfl ?_
 refine rw_nil ?_; intro w hM
 refine wp_if (tmp_lt rfl) rfl (by nofun) (fun hc => ?_)
 refine wp_skip ?_
 refine wp_seq_mid (fun f w => ∃ S wk m V n id M1, Know f [(4, .pointer (some ⟨b4, 0, none⟩))] ∧ Mem w0 w S ∧ PS K E bty cb bm bT S bp fl wk m V n id M1 (N + 1) ∧ Fr G4 S cb bp ∧ Acc K M s Ans.no M1) ?_ ?_
 ·refine rs hM ?_
  refine fa fr36_0 ?_
  refine lo (v := i64 s.kind) ld3 hb3 ?_
  refine rw_nil ?_; intro w hM
  refine wp_block ?_
  rcases hcase with ⟨c5, c6, hacc, rfl⟩ | ⟨hk56, rfl, rfl⟩
  ·refine rs hM ?_
   refine rw_bin rfl rfl rfl rfl (b_false (b_eq _ _) (beq_false_of_ne c5)) ?_
   refine asg ?_
   refine rw_nil ?_; intro w hM
   refine wp_if (tmp_lt rfl) rfl (by nofun) (fun hc => ?_)
   refine rs hM ?_
   refine rw_bin rfl rfl rfl rfl (b_false (b_eq _ _) (beq_false_of_ne c6)) ?_
   refine asg ?_
   refine rw_nil ?_; intro w hM
   refine wp_if (tmp_lt rfl) rfl (by nofun) (fun hc => ?_)
   refine wp_skip ?_
   simp only [Exit.inBlock]
   exact ⟨_, rfl, S, wk, m, V, n, id, M1, Know.of ⟨rfl, trivial⟩, hM, hPS, hfr, hacc⟩
  ·rcases hk56 with h5 | h6
   ·refine rs hM ?_
    refine rw_bin rfl rfl rfl rfl (b_true (b_eq _ _) (beq_iff_eq.2 h5)) ?_
    refine asg ?_
    refine rw_nil ?_; intro w hM
    refine wp_if (tmp_lt rfl) rfl (fun hc => ?_) (by nofun)
    obtain ⟨Hq, hHq1, hHq2, hHq⟩ : ∃ Hq : Heap, Hq bp = some (encPl bT fl wk) ∧ Hq b3 = some (.cells (stepC s).toArray 36 (0, 0)) ∧ ∀ S', S' bp = some (encPl bT fl wk) → S' b3 = some (.cells (stepC s).toArray 36 (0, 0)) → Hq.le S' :=
     ⟨fun x => if x = bp then some (encPl bT fl wk) else if x = b3 then some (.cells (stepC s).toArray 36 (0, 0)) else none, if_pos rfl, by simp [hb3p], fun S' h1 h2 x u hx => by
      simp only at hx
      split at hx
      ·rename_i e; rw [e, h1]; exact hx
      ·split at hx
       ·rename_i e; rw [e, h2]; exact hx
       ·cases hx⟩
    have hbpc := hPS.ne_p.2
    refine wp_mix_end [7, 11] [11] [0, 1, 2, 3, 4, 5, 6, 8, 9, 7, 10, 11] Hq mixed (by kernel_rfl) (hHq S hPS.pl hb3) hM ?_
    refine mv ?_
    refine fa fr36_1 ?_
    refine rw_load (v := i64 (q : Nat)) ld3 rfl rfl rfl hHq2 hit ?_
    refine mv ?_
    refine nck ?_
    refine fa fr59_0 ?_
    refine lo (v := .pointer (some ⟨bT, 0, none⟩)) ld54 hHq1 ?_
    refine nck ?_
    refine fa fr59_2 ?_
    refine rw_callD cr48 rfl rfl (fun w hM => c48 hM hEc Ty R hPS.live hN) rfl (fun _ => rfl) ?_; rintro _ S7 ⟨b, it, n', rfl, hbn, hEb, hL', hI, hrest⟩; refine ⟨hHq S7 (hrest _ _ hPS.pl hbpc) (hrest _ _ hb3 hb3c), ?_⟩
    refine rw_indexAddr rfl rfl rfl rfl (x_array Tryz.underlying57 sz56 hq8) ?_
    refine rw_storeE (v := .pointer (some ⟨b, 0, none⟩)) (c' := plC bT fl (setWk wk q (some b))) sz56 rfl rfl rfl rfl (hrest _ _ hPS.pl hbpc) (by rw [Nat.mul_one, Nat.zero_add]; exact encPl_set (o := some b) hq8) (by rw [Nat.mul_one]; show 2 + q < 10; omega) rfl (fun _ => ⟨rfl, rfl⟩) (fun S11 hS11 kS11 => ?_)
    refine rw_nil ?_; intro w hM
    simp only [Exit.inBlock]
    have hbp7 := hrest _ _ hPS.pl hbpc
    have hbbp : b ≠ bp := (ne_of_none hbn hPS.pl).symm
    have hL11 : Live K E bty cb bm bT S11 m V n' id M1.all (N1 + 1) := hL'.off hbp7 (plain_of rfl) hPS.ne_p.1 hbpc hPS.ep fun x u hx hne => (kS11 x hne).trans hx
    have hnp11 : ∀ x u, S7 x = some u → ¬ Plain u → S11 x = some u := fun x u hx hnp => (kS11 x fun e => by rw [e, hbp7] at hx; cases hx; exact hnp (plain_of rfl)).trans hx
    refine ⟨_, rfl, S11, setWk wk q (some b), m, V, n', id, { M1 with its := setIt M1.its q ⟨true, wasE M1.all, fun _ => false⟩ }, Know.of ⟨rfl, trivial⟩, hM, ⟨hS11, hPS.ep, hL11, fun q' hq' => ?_, fun q1 p1 b1 h1 h2 h3 h4 => ?_⟩, fun x u hx hp h8 hc hb => (kS11 x hb).trans (hrest x u (hfr x u hx hp h8 hc hb) hc), ?_⟩
    ·by_cases e : q' = q
     ·subst e
      right
      refine ⟨b, it, fun _ => false, by unfold setWk; rw [if_pos rfl], ?_⟩
      show WalkI K E bm bty S11 m V id M1.all (setIt M1.its q' ⟨true, wasE M1.all, fun _ => false⟩ q') b it _
      have e1 : setIt M1.its q' ⟨true, wasE M1.all, fun _ => false⟩ q' = ⟨true, wasE M1.all, fun _ => false⟩ := if_pos rfl
      rw [e1]
      exact ⟨rfl, hEb, hI.heap hnp11 (kS11 _ hbbp), SeenRel.new _ _, fun j hj => List.mem_range.1 (List.mem_filter.1 hj).1, fun i j hij hj hl => List.mem_filter.2 ⟨List.mem_range.2 (liv_lt hl), hl⟩⟩
     ·have e1 : setIt M1.its q ⟨true, wasE M1.all, fun _ => false⟩ q' = M1.its q' := if_neg e
      have e2 : setWk wk q (some b) q' = wk q' := if_neg e
      show ((setIt M1.its q ⟨true, wasE M1.all, fun _ => false⟩ q').on = false ∧ _) ∨ ∃ b it gs, _ ∧ WalkI K E bm bty S11 m V id M1.all (setIt M1.its q ⟨true, wasE M1.all, fun _ => false⟩ q') b it gs
      rw [e1, e2]
      rcases hPS.its q' hq' with h | ⟨b', it', gs', h1, h2⟩
      ·exact .inl h
      ·have hb'c : b' ≠ cb := ne_of_ty h2.it.blk hPS.live.cnt rfl rfl rfl
       have hb'p : b' ≠ bp := ne_of_ty h2.it.blk hPS.pl rfl rfl rfl
       exact .inr ⟨b', it', gs', h1, h2.heap (fun x u hx hnp => hnp11 x u (hrest x u hx fun e => by rw [e, hPS.live.cnt] at hx; cases hx; exact hnp (encI_plain n)) hnp) (by rw [kS11 _ hb'p, h2.it.blk]; exact hrest _ _ h2.it.blk hb'c)⟩
    ·have hold : ∀ q', q' < 8 → wk q' = some b → False := fun q' hq' hw => by
      rcases hPS.its q' hq' with ⟨_, h⟩ | ⟨b', it', gs', h1, h2⟩
      ·rw [h] at hw; cases hw
      ·rw [h1] at hw; cases hw
       have := h2.it.blk
       rw [hbn] at this; cases this
     unfold setWk at h3 h4
     split at h3
     ·split at h4
      ·rename_i e1 e2; rw [e1, e2]
      ·cases h3; exact (hold p1 h2 h4).elim
     ·split at h4
      ·cases h4; exact (hold q1 h1 h3).elim
      ·exact hPS.dist q1 p1 b1 h1 h2 h3 h4
    ·have := Acc.start (K := K) (M := M1) h5
     rw [hqn] at this; exact this
   ·refine rs hM ?_
    refine rw_bin rfl rfl rfl rfl (b_false (b_eq _ _) (beq_false_of_ne (by omega))) ?_
    refine asg ?_
    refine rw_nil ?_; intro w hM
    refine wp_if (tmp_lt rfl) rfl (by nofun) (fun hc => ?_)
    refine rs hM ?_
    refine rw_bin rfl rfl rfl rfl (b_true (b_eq _ _) (beq_iff_eq.2 h6)) ?_
    refine asg ?_
    refine rw_nil ?_; intro w hM
    refine wp_if (tmp_lt rfl) rfl (fun hc => ?_) (by nofun)
    refine rs hM ?_
    refine mv ?_
    refine fa fr36_1 ?_
    refine rw_load (v := i64 (q : Nat)) ld3 rfl rfl rfl hb3 hit ?_
    refine rw_callE cr49 rfl rfl (fun w hM => c49 hM hDb Ty hPS hq8) rfl (by nofun) ?_; rintro _ S6 ⟨a, wk', tn, rfl, hacc, hPS', hrest⟩
    refine rw_store (v := .agg (ansC a).toArray) sz44 rfl rfl rfl rfl (hrest _ _ hb4' (by show (44 : Nat) ≠ 108; decide) hb4p) rfl rfl rfl (by nofun) (fun S7 hS7 kS7 => ?_)
    refine rw_nil ?_; intro w hM
    refine wp_ret ?_
    simp only [Exit.inBlock, Exit.then]
    refine post_cell (ansC a) ld44 rfl rfl hM rfl hS7 rfl (done _ S6 S7 a _ _ _ _ _ _ hM hPS'.succ (fun x u hx hp h8 hc hb => hrest x u (hfr x u hx hp h8 hc hb) h8 hb) kS7 ?_)
    have := Acc.next (K := K) (M := M1) h6 (by rw [hqn]; exact hacc)
    rw [hqn] at this; exact this
 clear hM
 rintro f w ⟨S, wk, m, V, n, id, M1, ⟨f1, rfl⟩, hM, hPS, hfr, hacc⟩
 refine rs hM ?_
 refine rw_build bd44_ rfl rfl rfl ?_
 refine rw_store (v := .agg #[.bool _, .int .u64 _, .int .i64 _]) sz44 rfl rfl rfl rfl (h4 S hfr) rfl rfl rfl (by nofun) (fun S19 hS19 kS19 => ?_)
 refine rw_nil ?_; intro w hM
 refine wp_ret ?_
 exact post_cell (ansC Ans.no) ld44 rfl rfl hM rfl hS19 rfl (done _ S S19 _ _ _ _ _ _ _ hM hPS hfr kS19 hacc)
end
end
end Go.Proofs.YtddpfkcofmfmpaaGreatDoor
