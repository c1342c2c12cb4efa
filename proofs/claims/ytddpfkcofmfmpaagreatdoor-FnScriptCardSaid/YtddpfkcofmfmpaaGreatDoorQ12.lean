/-
  Putting into a map. Conditions stand in each contract. Look-ups in a map. Conditions stand in each contract. Plain theory: an entry deleted from a map; the numbers that a map draws. Conditions stand in each lemma.
  Conditions stand in each lemma.
-/
import Derived.Test.YtddpfkcofmfmpaaGreatDoorQ11
namespace Go.Proofs.YtddpfkcofmfmpaaGreatDoor
open Go Go.RowKit
set_option maxRecDepth 20000
section
theorem b_xor8 {P : Program} {t : TypeId} (x y : Nat) (hx : x < 256) (hy : y < 256) : BinRun P .xor t (u8 x) (u8 y) (u8 (x ^^^ y)) := b_xor rfl x y hx hy
theorem b_nilslice {P : Program} {t e : TypeId} (a : Option Addr) (l c : Nat) (h : P.underlying t = some (.slice e)) : BinRun P .eql t (.slice a l c) (.slice none 0 0) (.bool a.isNone) := fun w X Y => by
 have h1 : ∀ d : Nat, (Op.equalIn (d + 1) t (.slice a l c) (.slice none 0 0)).run P w = .ok a.isNone w := fun d => by cases a <;> simp [Op.equalIn, run_underlying h]
 have h2 : (binOp .eql t (.slice a l c) (.slice none 0 0)).run P w = .ok (.bool a.isNone) w := by
  simp only [binOp]
  simp [Op.equal, Op.maxDepth, h1 9999]
 simp only [eqGuard]
 cases a <;> exact h2
variable {w0 w : World} {H : Heap}
theorem c110g (hM : Mem w0 w H) (hD : HasDb w0) {K : KT} {x : Option Addr} {b : Nat} {t : Tb} (hb : H b = some (encT t)) (hg : H t.gb = some (encG t.n t.G)) (hT : TOK K t) (hnd : ∀ s, s < 8 * t.n → t.G.c s ≠ 254) (hgl : 0 < t.gl)
  {bk ok k : Nat} {obk : Obj} (hk : H bk = some obk) (hkc : objCell obk ok = some (u64 k)) (hkl : k < 2 ^ 64) (hno : ∀ u, u < 8 * t.n → t.G.c u < 128 → K.eqk k (t.G.k u) = false) :
  Calls Tryz.prog 110 [.pointer (some ⟨b, 0, none⟩), .pointer x, u64 (K.hash k), .pointer (some ⟨bk, ok, none⟩)].toArray w (Gives w0 fun v S => ∃ s t', v = .pointer (some ⟨t.gb, 17 * (s / 8) + 9 + s % 8, none⟩) ∧ PutOne K t k s t' ∧ S b = some (encT t') ∧ S t.gb = some (encG t'.n t'.G) ∧ ∀ x, x ≠ b → x ≠ t.gb → S x = H x) := by
 have hbg : b ≠ t.gb := ne_of_ty hb hg rfl rfl rfl
 refine (c110 hM hD hb hg hbg hT hnd hgl hk hkc hkl).mono fun r w' ⟨s, hr, h1, h2, hM'⟩ => ⟨_, _, hr, hM', s, { t with used := t.used + 1, gl := t.gl - 1, G := t.G.put s k (t.G.e s) (K.hash k % 128) }, rfl, ⟨rfl, rfl, rfl, rfl, hT.put_empty hkl (hT.sl.ok.2.2 s) h1 h2 hno hgl, h1.1, by omega, fun u => ?_, fun u => Gr.put_k _ _ _ _ _ _, fun u => ?_, rfl, ?_⟩, ?_, Heap.upd_same _ _ _, fun x hx hy => ?_⟩
 ·show (t.G.put s k _ _).c u < 128 ↔ _
  rw [Gr.put_c]
  by_cases e : u = s
  ·rw [if_pos e]; exact ⟨fun _ => .inr e, fun _ => Nat.mod_lt _ (by decide)⟩
  ·rw [if_neg e]; exact ⟨.inl, fun hx => hx.resolve_right e⟩
 ·show (t.G.put s k _ _).e u = _
  rw [Gr.put_e]; split
  ·rename_i e; rw [e]
  ·rfl
 ·show t.gl ≤ t.gl - 1 + 1; omega
 ·rw [Heap.upd_ne _ _ hbg, Heap.upd_same]
 ·rw [Heap.upd_ne _ _ hy, Heap.upd_ne _ _ hx]
/-- The blocks that a map's functions only look at are of other kinds than the map's own. -/
def Plain (u : Obj) : Prop := objTy u ≠ 132 ∧ objTy u ≠ 149 ∧ objTy u ≠ 158 ∧ objTy u ≠ 101
theorem Plain.ne {S : Heap} {x y : Nat} {u o : Obj} (h : Plain u) (hx : S x = some u) (hy : S y = some o) (ho : objTy o = 132 ∨ objTy o = 149 ∨ objTy o = 158 ∨ objTy o = 101) : x ≠ y := fun e => by
 subst e; rw [hx] at hy; cases hy
 obtain ⟨a, b, c, d⟩ := h
 rcases ho with h | h | h | h
 ·exact a h
 ·exact b h
 ·exact c h
 ·exact d h
theorem c108g (hM : Mem w0 w H) (hD : HasDb w0) {K : KT} {E : Heap} {bty : Nat} {nu : Bool} (hE : E.le H) (T : TypOK K w0 E bty nu) {bm sg : Nat} {mm : Mp} {G : Gr} (hb : H bm = some (encM mm)) (hs : mm.small = some ⟨sg, 0, none⟩) (hg : H sg = some (encG 1 G)) (hG : SlotsOK K 1 G) (hnd : ∀ s, s < 8 * 1 → G.c s ≠ 254) (hmu' : mm.used + 1 < 2 ^ 64)
  {bk ok k : Nat} {obk : Obj} (hk : H bk = some obk) (hkc : objCell obk ok = some (u64 k)) (hkl : k < 2 ^ 64) (n2 : bk ≠ sg) :
  Calls Tryz.prog 108 [.pointer (some ⟨bm, 0, none⟩), .pointer (some ⟨bty, 0, none⟩), u64 (K.hash k), .pointer (some ⟨bk, ok, none⟩)].toArray w (Gives w0 fun v S =>
   (∃ s, find K 1 G k = some s ∧ v = .pointer (some ⟨sg, 9 + s, none⟩) ∧ S sg = some (encG 1 (if nu then G.setK s k else G)) ∧ ∀ x, x ≠ sg → S x = H x) ∨
   (∃ s, find K 1 G k = none ∧ s < 8 ∧ G.c s = 128 ∧ v = .pointer (some ⟨sg, 9 + s, none⟩) ∧ S bm = some (encM { mm with used := mm.used + 1 }) ∧ S sg = some (encG 1 (G.put s k (G.e s) (K.hash k % 128))) ∧ ∀ x, x ≠ bm → x ≠ sg → S x = H x) ∨
   (find K 1 G k = none ∧ FullAll G ∧ v = .pointer none ∧ S = H)) := by
 have n1 : bm ≠ sg := ne_of_ty hb hg rfl rfl rfl
 refine (c108 hM hD hE T hb hs hg n1 hG hnd hmu' hk hkc hkl n2).mono fun r w' h => ?_
 unfold SmallPut at h
 cases hf : find K 1 G k with
 | some s =>
  rw [hf] at h
  obtain ⟨hr, hM'⟩ := h
  exact ⟨_, _, hr, hM', .inl ⟨s, rfl, rfl, Heap.upd_same _ _ _, fun x hx => Heap.upd_ne _ _ hx⟩⟩
 | none =>
  rw [hf] at h
  rcases h with ⟨s, h1, h2, hr, hM'⟩ | ⟨h1, hr, hM'⟩
  ·exact ⟨_, _, hr, hM', .inr (.inl ⟨s, rfl, h1, h2, rfl, by rw [Heap.upd_ne _ _ n1, Heap.upd_same], Heap.upd_same _ _ _, fun x hx hy => by rw [Heap.upd_ne _ _ hy, Heap.upd_ne _ _ hx]⟩)⟩
  ·exact ⟨_, _, hr, hM', .inr (.inr ⟨rfl, h1, rfl, rfl⟩)⟩
/-- Only the map's own cells turned. -/
theorem MapIs.cells {K : KT} {S S' : Heap} {bm : Nat} {m : Mp} {V : Mv} (h : MapIs K S bm m V) (x : Nat) (h1 : S' bm = some (encM { m with wr := x })) (h2 : ∀ x, x ≠ bm → S' x = S x) : MapIs K S' bm { m with wr := x } V := by
 cases V with
 | nil => exact ⟨h1, h.2⟩
 | small sg G => exact ⟨h1, h.2.1, h.2.2.1, h.2.2.2.1, (h2 _ (ne_of_ty h.2.2.2.2.1 h.1 rfl rfl rfl)).trans h.2.2.2.2.1, h.2.2.2.2.2⟩
 | big db D =>
  obtain ⟨a, b, c, d⟩ := h
  exact ⟨h1, ⟨b.gd, b.len, b.gs, b.small, b.dirp⟩, ⟨(h2 _ (ne_of_ty c.dir a rfl rfl rfl)).trans c.dir, fun i hi => (h2 _ (ne_of_ty (c.tabs i hi) a rfl rfl rfl)).trans (c.tabs i hi), fun i hi => (h2 _ (ne_of_ty (c.grs i hi) a rfl rfl rfl)).trans (c.grs i hi)⟩, d⟩
theorem small_keyed {K : KT} {G : Gr} (h : SmallOK K G) {k s : Nat} (hk : k < 2 ^ 64) (hf : find K 1 G k = some s) : SmallOK K (G.setK s k) := by
 obtain ⟨_, _, h3⟩ := find_spec hf
 have := h.1.change (e := G.e s) hk (h.1.ok.2.2 s) h3
 rw [Gr.setK_setE] at this
 exact ⟨this, h.2⟩
theorem small_put {K : KT} {G : Gr} (h : SmallOK K G) {k s : Nat} (hk : k < 2 ^ 64) (hf : find K 1 G k = none) (hs : s < 8) (h128 : G.c s = 128) : SmallOK K (G.put s k (G.e s) (K.hash k % 128)) := by
 refine ⟨h.1.put hk (h.1.ok.2.2 s) ⟨by omega, .inl h128, 0, by decide, ?_, fun j hj => by omega⟩ (find_none_iff hf), fun u hu => ?_⟩
 ·have := pr_lt (n := 1) (by decide) (K.hash k) 0; omega
 ·rw [Gr.put_c]; split
  ·have := Nat.mod_lt (K.hash k) (show 0 < 128 by decide); omega
  ·exact h.2 u hu
theorem PutS.shape {K : KT} {nu : Bool} {S : Heap} {bm db : Nat} {m : Mp} {d : Nat → Nat} {T : Nat → Tb} {i0 k : Nat} {v : Value} (h : PutS K nu H bm db m d T i0 k v S) : ∃ a b, v = .tuple #[.pointer a, .bool b] := by
 unfold PutS at h
 simp only at h
 split at h
 ·exact ⟨_, _, h.1⟩
 ·rcases h with ⟨_, _, h, _⟩ | ⟨h, _⟩
  ·exact ⟨_, _, h⟩
  ·exact ⟨_, _, h⟩
/-- What is known ahead of a put's end. -/
structure PutDone (K : KT) (nu : Bool) (w0 : World) (H : Heap) (bm : Nat) (m : Mp) (V : Mv) (k N : Nat) (g s : Nat) (m' : Mp) (V' : Mv) (w : World) (S : Heap) : Prop where
 mem : Mem w0 w S
 map : MapIs K S bm m' V'
 res : PutR K nu H S m k g s m' V V'
 same : m'.seed = m.seed ∧ m'.wr = 1 ∧ m'.tomb = m.tomb ∧ m'.clr = m.clr
 pot : V'.Pot (N + 1)
 rest : ∀ x u, H x = some u → x ≠ bm → x ≠ g → ¬ V.tblk x → S x = some u
theorem PutDone.fin {K : KT} {nu : Bool} {bm : Nat} {m : Mp} {V : Mv} {k N g s : Nat} {m' : Mp} {V' : Mv} {S S' : Heap} (h : PutDone K nu w0 H bm m V k N g s m' V' w S) (hV : MapIs K H bm m V) (hwr : m.wr = 0) (h1 : S' bm = some (encM { m' with wr := 0 })) (h2 : ∀ x, x ≠ bm → S' x = S x) : PutM K nu H bm m V k N g s { m' with wr := 0 } V' S' := by
 refine ⟨h.map.cells 0 h1 h2, ?_, ⟨h.same.1, hwr.symm, h.same.2.2.1, h.same.2.2.2⟩, h.pot, fun x u hx a b c => (h2 _ a).trans (h.rest x u hx a b c)⟩
 have hr := h.res
 cases V with
 | nil => exact hr
 | small sg G => exact hr
 | big db D =>
  rcases hr with hr | ⟨a, b, db1, D1, ρ, j, t', hE, hr⟩
  ·exact .inl hr
  ·refine .inr ⟨a, b, db1, D1, ρ, j, t', ⟨hE.gd, hE.back, hE.inj, hE.onto, hE.same, fun i hi => ?_, hE.fresh, hE.deep, hE.stay⟩, hr⟩
   rcases hE.fate i hi with h3 | ⟨h3, h4⟩
   ·exact .inl h3
   ·exact .inr ⟨h3, (h2 _ (ne_of_ty (hV.2.2.1.tabs i hi) hV.1 rfl rfl rfl)).trans h4⟩
set_option maxHeartbeats 4000000 in
theorem c85 (hM : Mem w0 w H) (hDb : HasDb w0) {K : KT} {E : Heap} {bty : Nat} {nu : Bool} (hE : E.le H) (hEP : ∀ x u, E x = some u → Plain u) (Ty : TypOK K w0 E bty nu) {bm N : Nat} {m : Mp} {V : Mv} (hV : MapIs K H bm m V) (hwr : m.wr = 0) (hN : N ≤ 6000) (hPot : V.Pot N) (hCls : V.Cls K) (hmu : m.used < 2 ^ 62)
  {bk ok k : Nat} {obk : Obj} (hk : H bk = some obk) (hkP : Plain obk) (hkc : objCell obk ok = some (u64 k)) (hkl : k < 2 ^ 64) :
  Calls Tryz.prog 85 [.pointer (some ⟨bm, 0, none⟩), .pointer (some ⟨bty, 0, none⟩), .pointer (some ⟨bk, ok, none⟩)].toArray w (Gives w0 fun v S => ∃ g s m' V', v = .pointer (some ⟨g, 17 * (s / 8) + 9 + s % 8, none⟩) ∧ PutM K nu H bm m V k N g s m' V' S) := by
 have hb : H bm = some (encM m) := by cases V <;> exact hV.1
 have hkm : bk ≠ bm := hkP.ne hk hb (.inl rfl)
 refine calls_start Tryz.func85 rfl Tryz.ntmps85 (Nat.le_of_ble_eq_true rfl) ?_
 refine rs hM ?_
 refine asg ?_
 refine rw_nil ?_; intro w hM
 refine wp_seq ?_
 refine rs hM ?_
 refine mv ?_
 refine nck ?_
 refine fa fr132_7 ?_
 refine lo ld5 hb ?_
 refine rw_bin rfl rfl rfl rfl (b_false (b_ne _ _) (by rw [hwr]; rfl)) ?_
 refine rw_nil ?_; intro w hM
 refine wp_if (tmp_lt rfl) rfl (by nofun) (fun hc => ?_)
 refine wp_skip ?_
 refine wp_mix_seq [] [] [0, 1, 2, 3, 4, 5, 6, 7, 8, 9, 10] H mixed (by kernel_rfl) (Heap.le_refl _) hM ?_
 refine mv ?_
 refine nck ?_
 refine fa fr88_0 ?_
 refine lo ld85 (hE _ _ Ty.typ) ?_
 refine mv ?_
 refine mv ?_
 refine nck ?_
 refine fa fr132_1 ?_
 refine lo ld12 hb ?_
 refine rw_callvq (captured := Ty.ch) Ty.crh rfl rfl rfl (fun H' w hle2 hM => Ty.hasher hM (Heap.le_trans hE hle2) (hle2 _ _ hk) hkc hkl) rfl ?_
 refine asg ?_
 refine rw_nil ?_; intro w hM
 refine rs hM ?_
 refine mv ?_
 refine nck ?_
 refine fa fr132_7 ?_
 refine lo ld5 hb ?_
 refine rw_bin (v := u8 1) rfl rfl rfl rfl (bin_eq (b_xor8 m.wr 1 (by omega) (by decide)) (by rw [hwr]; rfl)) ?_
 refine nck ?_
 refine fa fr132_7 ?_
 refine rw_store1 (v := .int .u8 _) sz5 rfl rfl rfl rfl hb rfl rfl (by nofun) (fun S4 hS4 kS4 => ?_)
 refine rw_nil ?_; intro w hM
 have hS4' : S4 bm = some (encM { m with wr := 1 }) := by rw [hS4]; rfl
 -- the state when the map is not nil
 refine wp_seq_mid (fun f w => ∃ S m1 V1, Know f [(0, .pointer (some ⟨bm, 0, none⟩)), (1, .pointer (some ⟨bty, 0, none⟩)), (2, .pointer (some ⟨bk, ok, none⟩)), (7, u64 (K.hash k))] ∧ Mem w0 w S ∧ MapIs K S bm m1 V1 ∧ (m1.used = m.used ∧ m1.seed = m.seed ∧ m1.wr = 1 ∧ m1.tomb = m.tomb ∧ m1.clr = m.clr) ∧ (∀ x u, H x = some u → x ≠ bm → S x = some u) ∧ (V1 = V ∧ V ≠ .nil ∨ V = .nil ∧ ∃ sg, H sg = none ∧ V1 = .small sg emptyGr)) ?_ ?_
 ·cases V with
  | nil =>
   obtain ⟨_, h1, h2, h3, h4⟩ := hV
   refine rs hM ?_
   refine mv ?_
   refine nck ?_
   refine fa fr132_2 ?_
   refine rw_load (v := .pointer none) ld102 rfl rfl rfl hS4' (by rw [← h2]; rfl) ?_
   refine rw_bin rfl rfl rfl rfl (b_nil_eq none Tryz.underlying102) ?_
   refine mv ?_
   refine mv ?_
   refine nck ?_
   refine fa fr132_3 ?_
   refine rw_load (v := .slice none m.dirLen m.dirLen) ld130 rfl rfl rfl hS4' (by rw [← h3]; rfl) ?_
   refine rw_bin rfl rfl rfl rfl (b_nilslice none _ _ Tryz.underlying130) ?_
   refine rw_pick rfl rfl rfl rfl rfl ?_
   refine rw_nil ?_; intro w hM
   refine wp_if (tmp_lt rfl) rfl (fun hc => ?_) (by nofun)
   refine re hM ?_
   refine mv ?_
   refine mv ?_
   refine rw_callE cr107 rfl rfl (fun w hM => c107 hM hS4') rfl (by nofun) ?_; rintro _ S6 ⟨sg, rfl, nsg, hb6, hg6, hr6⟩
   refine rw_nil ?_; intro w hM
   have hsb : sg ≠ bm := ne_of_ty hg6 hb6 rfl rfl rfl
   refine ⟨_, rfl, S6, { { m with wr := 1 } with small := some ⟨sg, 0, none⟩ }, .small sg emptyGr, Know.of ⟨rfl, rfl, rfl, rfl, trivial⟩, hM, ⟨hb6, h1, rfl, h3, hg6, ⟨emptyGr_slots K 1, fun s _ => (by decide : (128 : Nat) ≠ 254)⟩, ?_⟩, ⟨rfl, rfl, rfl, rfl, rfl⟩, fun x u hx h => hr6 x u ((kS4 _ h).trans hx) h, .inr ⟨rfl, sg, ?_, rfl⟩⟩
   ·show m.used = _; rw [h4]; exact (cnt_zero (q := isFull emptyGr) (fun s _ => rfl)).symm
   ·rw [← kS4 _ hsb]; exact nsg
  | small sg G =>
   obtain ⟨_, h1, h2, h3, h4, h5, h6⟩ := hV
   have hsb : sg ≠ bm := ne_of_ty h4 hb rfl rfl rfl
   refine rs hM ?_
   refine mv ?_
   refine nck ?_
   refine fa fr132_2 ?_
   refine rw_load (v := .pointer (some ⟨sg, 0, none⟩)) ld102 rfl rfl rfl hS4' (by rw [← h2]; rfl) ?_
   refine rw_bin rfl rfl rfl rfl (b_nil_eq (some ⟨sg, 0, none⟩) Tryz.underlying102) ?_
   refine mv ?_
   refine rw_skip rfl rfl ?_
   refine rw_skip rfl rfl ?_
   refine rw_skip rfl rfl ?_
   refine rw_skip rfl rfl ?_
   refine rw_skip rfl rfl ?_
   refine rw_pick rfl rfl rfl rfl rfl ?_
   refine rw_nil ?_; intro w hM
   refine wp_if (tmp_lt rfl) rfl (by nofun) (fun hc => ?_)
   refine wp_skip ?_
   exact ⟨_, rfl, S4, { m with wr := 1 }, .small sg G, Know.of ⟨rfl, rfl, rfl, rfl, trivial⟩, hM, ⟨hS4', h1, h2, h3, (kS4 _ hsb).trans h4, h5, h6⟩, ⟨rfl, rfl, rfl, rfl, rfl⟩, fun x u hx h => (kS4 _ h).trans hx, .inl ⟨rfl, by simp⟩⟩
  | big db D =>
   obtain ⟨_, h1, h2, h3, h4⟩ := hV
   refine rs hM ?_
   refine mv ?_
   refine nck ?_
   refine fa fr132_2 ?_
   refine rw_load (v := .pointer none) ld102 rfl rfl rfl hS4' (by rw [← h1.small]; rfl) ?_
   refine rw_bin rfl rfl rfl rfl (b_nil_eq none Tryz.underlying102) ?_
   refine mv ?_
   refine mv ?_
   refine nck ?_
   refine fa fr132_3 ?_
   refine rw_load (v := .slice (some ⟨db, 0, none⟩) m.dirLen m.dirLen) ld130 rfl rfl rfl hS4' (by rw [← h1.dirp]; rfl) ?_
   refine rw_bin rfl rfl rfl rfl (b_nilslice (some ⟨db, 0, none⟩) _ _ Tryz.underlying130) ?_
   refine rw_pick rfl rfl rfl rfl rfl ?_
   refine rw_nil ?_; intro w hM
   refine wp_if (tmp_lt rfl) rfl (by nofun) (fun hc => ?_)
   refine wp_skip ?_
   refine ⟨_, rfl, S4, { m with wr := 1 }, .big db D, Know.of ⟨rfl, rfl, rfl, rfl, trivial⟩, hM, ⟨hS4', ⟨h1.gd, h1.len, h1.gs, h1.small, h1.dirp⟩, ⟨?_, fun i hi => ?_, fun i hi => ?_⟩, h3, h4⟩, ⟨rfl, rfl, rfl, rfl, rfl⟩, fun x u hx h => (kS4 _ h).trans hx, .inl ⟨rfl, by simp⟩⟩
   ·rw [kS4 _ (ne_of_ty h2.dir hb rfl rfl rfl)]; exact h2.dir
   ·rw [kS4 _ (ne_of_ty (h2.tabs i hi) hb rfl rfl rfl)]; exact h2.tabs i hi
   ·rw [kS4 _ (ne_of_ty (h2.grs i hi) hb rfl rfl rfl)]; exact h2.grs i hi
 clear hM hS4 hS4' kS4
 rintro f w ⟨S, m1, V1, ⟨g0, rfl⟩, hM, hV1, ⟨u1, u2, u3, u4, u5⟩, hrS, hVV⟩
 have hES : E.le S := fun x u hx => hrS x u (hE _ _ hx) ((hEP x u hx).ne (hE _ _ hx) hb (.inl rfl))
 have hkS := hrS _ _ hk hkm
 have hm1 : m1.used < 2 ^ 62 := by rw [u1]; exact hmu
 refine wp_seq ?_
 cases V1 with
 | nil =>
  rcases hVV with ⟨h1, h2⟩ | ⟨_, sg, _, h1⟩
  ·exact absurd h1.symm h2
  ·cases h1
 | small sg G =>
  obtain ⟨hbS, h1, h2, h3, hgS, ⟨hG, hGd⟩, hu⟩ := hV1
  have hbg : bm ≠ sg := ne_of_ty hbS hgS rfl rfl rfl
  have hksg : bk ≠ sg := hkP.ne hkS hgS (.inr (.inl rfl))
  refine rs hM ?_
  refine mv ?_
  refine nck ?_
  refine fa fr132_4 ?_
  refine lo ld3 hbS ?_
  refine rw_bin rfl rfl rfl rfl (b_true (b_eq _ _) (by rw [h1]; rfl)) ?_
  refine rw_nil ?_; intro w hM
  refine wp_if (tmp_lt rfl) rfl (fun hc => ?_) (by nofun)
  have hVs : (V = .small sg G ∧ True) ∨ (V = .nil ∧ H sg = none ∧ G = emptyGr) := by
   rcases hVV with ⟨e, _⟩ | ⟨e, sg', a, b⟩
   ·exact .inl ⟨e.symm, trivial⟩
   ·cases b; exact .inr ⟨e, a, rfl⟩
  have hcntN : cnt (isFull G) 8 ≤ N := by
   rcases hVs with ⟨e, _⟩ | ⟨_, _, e⟩
   ·subst e; exact hPot
   ·subst e; rw [cnt_zero (q := isFull emptyGr) (fun s _ => rfl)]; exact Nat.zero_le _
  refine rs hM ?_
  refine mv ?_
  refine mv ?_
  refine mv ?_
  refine mv ?_
  refine rw_callE cr108 rfl rfl (fun w hM => c108g hM hDb hES Ty hbS h2 hgS hG hGd (by omega) hkS hkc hkl hksg) rfl (by nofun) ?_; rintro v S8 hv
  refine asg ?_
  refine rw_nil ?_; intro w hM
  refine wp_seq_mid (fun f w => ∃ S g s m' V', Know f [(0, .pointer (some ⟨bm, 0, none⟩)), (8, .pointer (some ⟨g, 17 * (s / 8) + 9 + s % 8, none⟩))] ∧ PutDone K nu w0 H bm m V k N g s m' V' w S) ?_ ?_
  ·have hM8 := hM
   rcases hv with ⟨s, hf, rfl, hg8, hk8⟩ | ⟨s, hf, hs8, hc8, rfl, hb8, hg8, hk8⟩ | ⟨hf, hfull, rfl, rfl⟩
   ·obtain ⟨q1, q2, q3⟩ := find_spec hf
    refine rs hM ?_
    refine mv ?_
    refine rw_bin rfl rfl rfl rfl (b_nil_eq (some _) Tryz.underlying100) ?_
    refine rw_nil ?_; intro w hM
    refine wp_if (tmp_lt rfl) rfl (by nofun) (fun hc => ?_)
    refine wp_skip ?_
    have hb8 := (hk8 _ hbg).trans hbS
    have hfr : ∀ x u, H x = some u → x ≠ bm → x ≠ sg → S8 x = some u := fun x u hx a b => (hk8 _ b).trans (hrS x u hx a)
    rcases hVs with ⟨rfl, _⟩ | ⟨_, _, rfl⟩
    ·refine ⟨_, rfl, S8, sg, s, m1, .small sg (if nu then G.setK s k else G), Know.of ⟨rfl, ?_, trivial⟩, ⟨hM, ⟨hb8, h1, h2, h3, hg8, ?_, ?_⟩, .inl ⟨hf, rfl, rfl, u1⟩, ⟨u2, u3, u4, u5⟩, ?_, fun x u hx a b _ => hfr x u hx a b⟩⟩
     ·exact ptr_eq (by omega)
     ·cases nu
      ·exact ⟨hG, hGd⟩
      ·exact small_keyed ⟨hG, hGd⟩ hkl hf
     ·rw [hu]; cases nu <;> rfl
     ·show cnt (isFull (if nu then G.setK s k else G)) 8 ≤ N + 1
      have : cnt (isFull (if nu then G.setK s k else G)) 8 = cnt (isFull G) 8 := by cases nu <;> rfl
      omega
    ·exact absurd q2 (by decide : ¬ (128 : Nat) < 128)
   ·refine rs hM ?_
    refine mv ?_
    refine rw_bin rfl rfl rfl rfl (b_nil_eq (some _) Tryz.underlying100) ?_
    refine rw_nil ?_; intro w hM
    refine wp_if (tmp_lt rfl) rfl (by nofun) (fun hc => ?_)
    refine wp_skip ?_
    have hfr : ∀ x u, H x = some u → x ≠ bm → x ≠ sg → S8 x = some u := fun x u hx a b => (hk8 _ a b).trans (hrS x u hx a)
    have hcnt := cnt_full_put (n := 1) (G := G) (s := s) (k := k) (e := G.e s) (by omega) (by omega) (Nat.mod_lt (K.hash k) (show 0 < 128 by decide))
    have hmap : MapIs K S8 bm { m1 with used := m1.used + 1 } (.small sg (G.put s k (G.e s) (K.hash k % 128))) := ⟨hb8, h1, h2, h3, hg8, small_put ⟨hG, hGd⟩ hkl hf hs8 hc8, by show m1.used + 1 = _; rw [hu]; exact hcnt.symm⟩
    refine ⟨_, rfl, S8, sg, s, { m1 with used := m1.used + 1 }, .small sg (G.put s k (G.e s) (K.hash k % 128)), Know.of ⟨rfl, ptr_eq (by omega), trivial⟩, ⟨hM, hmap, ?_, ⟨u2, u3, u4, u5⟩, ?_, fun x u hx a b _ => hfr x u hx a b⟩⟩
    ·rcases hVs with ⟨rfl, _⟩ | ⟨rfl, hn, rfl⟩
     ·exact .inr (.inl ⟨hf, rfl, hs8, hc8, rfl, by show m1.used + 1 = _; rw [u1]⟩)
     ·exact ⟨hn, hs8, rfl, by show m1.used + 1 = _; rw [u1]⟩
    ·show cnt _ 8 ≤ N + 1
     have : cnt (isFull (G.put s k (G.e s) (K.hash k % 128))) 8 = cnt (isFull G) 8 + 1 := hcnt
     omega
   ·have hVs' : V = .small sg G := by
     rcases hVs with ⟨e, _⟩ | ⟨_, _, e⟩
     ·exact e
     ·subst e; exact absurd (hfull 0 (by decide)) (by decide : ¬ (128 : Nat) < 128)
    subst hVs'
    refine rs hM8 ?_
    refine mv ?_
    refine rw_bin rfl rfl rfl rfl (b_nil_eq none Tryz.underlying100) ?_
    refine rw_nil ?_; intro w hM
    refine wp_if (tmp_lt rfl) rfl (fun hc => ?_) (by nofun)
    refine rs hM ?_
    refine mv ?_
    refine mv ?_
    refine rw_callE cr109 rfl rfl (fun w hM => c109 hM hDb hES Ty hbS h2 hgS hG) rfl (by nofun) ?_; rintro _ S10 ⟨nb, db, t0, σ, rfl, nnb, ndb, nng, hF, hn2, hld, hix, hnb, hng, hdb, hbm, hrest⟩
    refine asg ?_
    refine rw_nil ?_; intro w hM
    have hk10 := hrest _ _ hkS hkm
    have hno : ∀ u, u < 8 * t0.n → t0.G.c u < 128 → K.eqk k (t0.G.k u) = false := fun u hu hfu => by
     obtain ⟨r, a, b, _, e⟩ := hF.moved.onto u hu hfu
     have := (hF.moved.into r a b rfl).2.2.1
     rw [e] at this
     rw [this]; exact find_none_iff hf r a b
    have hgl : 0 < t0.gl := by
     have a1 := hF.room
     have a3 : t0.used ≤ 8 * 1 := by rw [hF.used]; exact cnt_le _ _
     omega
    refine rs hM ?_
    refine mv ?_
    refine mv ?_
    refine mv ?_
    refine mv ?_
    refine rw_callE cr110 rfl rfl (fun w hM => c110g hM hDb hnb hng hF.ok hF.noDel hgl hk10 hkc hkl hno) rfl (by nofun) ?_; rintro _ S11 ⟨s, t', rfl, hP, hnb', hng', hr11⟩
    refine asg ?_
    refine rw_nil ?_; intro w hM
    have dbm : bm ≠ nb := ne_of_ty hbm hnb rfl rfl rfl
    have dbg : bm ≠ t0.gb := ne_of_ty hbm hng rfl rfl rfl
    have ddb : db ≠ nb := ne_of_ty hdb hnb rfl rfl rfl
    have ddg : db ≠ t0.gb := ne_of_ty hdb hng rfl rfl rfl
    have ddm : db ≠ bm := ne_of_ty hdb hbm rfl rfl rfl
    have hbm11 := (hr11 _ dbm dbg).trans hbm
    refine re hM ?_
    refine mv ?_
    refine nck ?_
    refine fa fr132_0 ?_
    refine lo ld22 hbm11 ?_
    refine rw_bin (v := u64 (m1.used + 1)) rfl rfl rfl rfl (bin_eq (b_add64 m1.used 1) (congrArg u64 (Nat.mod_eq_of_lt (by omega)))) ?_
    refine nck ?_
    refine fa fr132_0 ?_
    refine rw_store1 (v := .int .u64 _) sz22 rfl rfl rfl rfl hbm11 rfl rfl (by nofun) (fun S12 hS12 kS12 => ?_)
    refine rw_nil ?_; intro w hM
    have nnbH : ∀ x u, H x = some u → x ≠ bm → x ≠ nb ∧ x ≠ t0.gb := fun x u hx a => ⟨ne_of_none nnb (hrS x u hx a), ne_of_none nng (hrS x u hx a)⟩
    have nH : ∀ y, S8 y = none → y ≠ bm → H y = none := fun y hy hyb => by
     cases e : H y with
     | none => rfl
     | some u => rw [hrS y u e hyb] at hy; cases hy
    have hfr : ∀ x u, H x = some u → x ≠ bm → S12 x = some u := fun x u hx a => by
     rw [kS12 _ a, hr11 _ (nnbH x u hx a).1 (nnbH x u hx a).2]; exact hrest x u (hrS x u hx a) a
    have hgb' : t'.gb = t0.gb := hP.gb
    have hpow0 : ∀ i, i < 2 ^ 0 → i = 0 := fun i hi => by simpa using hi
    have hDok : Dir.OK K ⟨0, fun _ => nb, fun _ => t'⟩ := by
     have hbase0 : ∀ i, i < 2 ^ 0 → base 0 0 i = 0 := fun i hi => by rw [hpow0 i hi]; rfl
     refine ⟨⟨fun i _ => ?_, fun i hi => ?_, fun _ _ _ _ _ => rfl⟩, fun i _ => hP.ok, fun _ _ _ _ _ => rfl, fun _ _ _ _ _ => rfl, (show (0 : Nat) ≤ 60 by decide)⟩
     ·show t'.ld ≤ 0; rw [hP.ld, hld]; exact Nat.le_refl _
     ·show t'.index = ((base 0 t'.ld i : Nat) : Int)
      rw [hP.index, hix, hP.ld, hld, hbase0 i hi]; rfl
    refine ⟨_, rfl, S12, t'.gb, s, { { m1 with small := none, dirp := some ⟨db, 0, none⟩, dirLen := 1, gd := 0, gs := 64 } with used := m1.used + 1 }, .big db ⟨0, fun _ => nb, fun _ => t'⟩, Know.of ⟨rfl, by rw [hgb']; rfl, trivial⟩, ⟨hM, ⟨?_, ⟨rfl, rfl, rfl, rfl, rfl⟩, ⟨?_, fun i _ => ?_, fun i _ => ?_⟩, hDok, by show (0 : Nat) ≤ 40; decide⟩, .inr (.inr ⟨hf, by show m1.used + 1 = _; rw [u1], db, nb, t0, t', σ, hF, hld, hix, nH _ nnb dbm.symm, nH _ nng dbg.symm, hP, rfl, rfl⟩), ⟨u2, u3, u4, u5⟩, ?_, fun x u hx a _ _ => hfr x u hx a⟩⟩
    ·rw [hS12]; rfl
    ·rw [kS12 _ ddm, hr11 _ ddb ddg]; exact hdb
    ·show S12 nb = some (encT t'); rw [kS12 _ dbm.symm]; exact hnb'
    ·show S12 t'.gb = some (encG t'.n t'.G); rw [hgb', kS12 _ dbg.symm]; exact hng'
    ·intro i hi
     show 192 * (t'.ld - 12) + psi t' ≤ N + 1
     have a1 := hP.psi hF.ok
     have a2 : psi t0 = t0.used := by
      have : cnt (isDel t0.G) (8 * t0.n) = 0 := cnt_zero fun s hs => by simp [isDel, hF.noDel s hs]
      unfold psi; rw [this]; rfl
     have a3 : t0.used ≤ cnt (isFull G) 8 := by rw [hF.used]; exact cnt_mono fun s _ hs => by simp only [Bool.and_eq_true] at hs; exact hs.1
     rw [hP.ld, hld]; omega
  ·rintro f w ⟨S, g, s, m', V', ⟨g1, rfl⟩, hPD⟩
   have hM := hPD.mem
   have hbS' : S bm = some (encM m') := by have := hPD.map; cases V' <;> exact this.1
   refine wp_seq ?_
   refine rs hM ?_
   refine mv ?_
   refine nck ?_
   refine fa fr132_7 ?_
   refine lo ld5 hbS' ?_
   refine rw_bin rfl rfl rfl rfl (b_false (b_eq _ _) (by rw [hPD.same.2.1]; rfl)) ?_
   refine rw_nil ?_; intro w hM
   refine wp_if (tmp_lt rfl) rfl (by nofun) (fun hc => ?_)
   refine wp_skip ?_
   refine rs hM ?_
   refine mv ?_
   refine nck ?_
   refine fa fr132_7 ?_
   refine lo ld5 hbS' ?_
   refine rw_bin (v := u8 0) rfl rfl rfl rfl (bin_eq (b_xor8 m'.wr 1 (by rw [hPD.same.2.1]; decide) (by decide)) (by rw [hPD.same.2.1]; rfl)) ?_
   refine nck ?_
   refine fa fr132_7 ?_
   refine rw_store1 (v := .int .u8 _) sz5 rfl rfl rfl rfl hbS' rfl rfl (by nofun) (fun S15 hS15 kS15 => ?_)
   refine rw_nil ?_; intro w hM
   refine rs hM ?_
   refine mv ?_
   refine asg ?_
   refine rw_nil ?_; intro w hM
   refine wp_ret ?_
   simp only [Exit.then]
   exact post_tmp (v := .pointer _) rfl rfl rfl ⟨_, S15, rfl, hM, g, s, _, V', rfl, hPD.fin hV hwr (hS15.trans rfl) kS15⟩
 | big db D =>
  have hVe : V = .big db D := by
   rcases hVV with ⟨e, _⟩ | ⟨_, _, _, e⟩
   ·exact e.symm
   ·cases e
  subst hVe
  obtain ⟨hbS, hmb, hAt, hDok, hgd40⟩ := hV1
  have hHAt : D.At H db := hV.2.2.1
  have hlen0 : ((m1.dirLen : Int) == 0) = false := by rw [hmb.len]; exact nz (Nat.two_pow_pos _)
  refine rs hM ?_
  refine mv ?_
  refine nck ?_
  refine fa fr132_4 ?_
  refine lo ld3 hbS ?_
  refine rw_bin rfl rfl rfl rfl (b_false (b_eq _ _) hlen0) ?_
  refine rw_nil ?_; intro w hM
  refine wp_if (tmp_lt rfl) rfl (by nofun) (fun hc => ?_)
  refine wp_skip ?_
  refine wp_block ?_
  have hh := K.lt k
  refine wp_loop_s (fun μ f w => ∃ S1 m2 db2 D2 ρ, μ = (64 - (D2.T (D2.at (K.hash k))).ld) * 200 + (128 - (D2.T (D2.at (K.hash k))).n) ∧ Know f [(0, .pointer (some ⟨bm, 0, none⟩)), (1, .pointer (some ⟨bty, 0, none⟩)), (2, .pointer (some ⟨bk, ok, none⟩)), (7, u64 (K.hash k))] ∧ Mem w0 w S1 ∧ After K S S1 bm db m1 D m2 db2 D2 ρ ∧ D2.Pot N ∧ D2.Cls K ∧ D2.gd ≤ 40 ∧
   ((S1 = S ∧ m2 = m1 ∧ db2 = db ∧ D2 = D) ∨ ∀ g s k' e, D.live g s k' e → K.eqk k k' = false)) _ ⟨S, m1, db, D, _, rfl, Know.of ⟨rfl, rfl, rfl, rfl, trivial⟩, hM, After.refl hDok hAt hmb hbS, hPot, hCls, hgd40, .inl ⟨rfl, rfl, rfl, rfl⟩⟩ ?_
  clear hM
  rintro μ f w ⟨S1, m2, db2, D2, ρ, rfl, ⟨g1, rfl⟩, hM, hA, hP2, hC2, hg2, hfirst⟩
  have hO2 := hA.ok
  have hB2 := hA.mb
  have hM2 := hA.mp
  have hi0 : dirIdx D2.gd (K.hash k) < 2 ^ D2.gd := dirIdx_lt (by omega) hh
  have hi0' : dirIdx m2.gd (K.hash k) < m2.dirLen := by rw [hB2.gd, hB2.len]; exact hi0
  have hat : D2.d (dirIdx D2.gd (K.hash k)) = D2.at (K.hash k) := rfl
  have hE1 : E.le S1 := fun x u hx => hA.rest x u (hES _ _ hx) ((hEP x u hx).ne (hES _ _ hx) hbS (.inl rfl)) ((hEP x u hx).ne (hES _ _ hx) hAt.dir (.inr (.inr (.inr rfl)))) (fun i hi => (hEP x u hx).ne (hES _ _ hx) (hAt.tabs i hi) (.inr (.inr (.inl rfl))))
  have hk1 : S1 bk = some obk := hA.rest _ _ hkS hkm (hkP.ne hkS hAt.dir (.inr (.inr (.inr rfl)))) (fun i hi => hkP.ne hkS (hAt.tabs i hi) (.inr (.inr (.inl rfl))))
  have hNear : Near K S1 bm db2 m2 D2.d D2.T (dirIdx D2.gd (K.hash k)) := ⟨hM2, by rw [hB2.gd]; exact hB2.len, by rw [hB2.gd]; exact hB2.gs, by rw [hB2.gd]; omega, hB2.dirp, by rw [hB2.len]; exact hA.at_.dir, by rw [hB2.gd]; exact hO2.dok, by rw [hB2.gd]; exact hA.at_.tabs, by rw [hB2.gd]; exact hi0, hA.at_.grs _ hi0, hO2.tok _ hi0⟩
  have hb1 := hA.at_.tabs _ hi0
  have hg1 := hA.at_.grs _ hi0
  have hE2 : ∀ x u, E x = some u → x ≠ D2.d (dirIdx D2.gd (K.hash k)) ∧ x ≠ (D2.T (D2.d (dirIdx D2.gd (K.hash k)))).gb := fun x u hx => ⟨(hEP x u hx).ne (hE1 _ _ hx) hb1 (.inr (.inr (.inl rfl))), (hEP x u hx).ne (hE1 _ _ hx) hg1 (.inr (.inl rfl))⟩
  have hkb1 : bk ≠ D2.d (dirIdx D2.gd (K.hash k)) := hkP.ne hk1 hb1 (.inr (.inr (.inl rfl)))
  have hkg1 : bk ≠ (D2.T (D2.d (dirIdx D2.gd (K.hash k)))).gb := hkP.ne hk1 hg1 (.inr (.inl rfl))
  have hu2 : m2.used + 1 < 2 ^ 64 := by have := hA.used.1; omega
  refine wp_block ?_
  refine rs hM ?_
  refine mv ?_
  refine mv ?_
  refine rw_callq (v := u64 (dirIdx D2.gd (K.hash k))) cr88 rfl rfl (fun H' w hle hM => hB2.gd ▸ c88 hM (hle _ _ hM2) (by rw [hB2.gd]; exact hB2.len) (by rw [hB2.gd]; exact hB2.gs) (by rw [hB2.gd]; omega) hh) rfl ?_
  refine asg ?_
  refine rw_nil ?_; intro w hM
  have hdir2 : S1 db2 = some (encD m2.dirLen (fun i => some ⟨D2.d i, 0, none⟩)) := by rw [hB2.len]; exact hA.at_.dir
  refine rs hM ?_
  refine mv ?_
  refine mv ?_
  refine rw_callq cr77 rfl rfl (fun H' w hle hM => c77 hM (hle _ _ hM2) hB2.dirp (hle _ _ hdir2) (by rw [hB2.len]; exact hi0)) rfl ?_
  refine mv ?_
  refine mv ?_
  refine mv ?_
  refine mv ?_
  refine rw_callE cr111 rfl rfl (fun w hM => c111 hM hDb hE1 Ty hNear hE2 hk1 hkc hkl hkb1 hkg1 hu2) rfl (by nofun) ?_; rintro v S18 hv; obtain ⟨pa, pb, rfl⟩ := hv.shape
  refine mv ?_
  refine rw_extract rfl rfl rfl rfl ?_
  refine rw_extract rfl rfl rfl rfl ?_
  refine asg ?_
  refine asg ?_
  refine rw_nil ?_; intro w hM
  refine wp_seq ?_
  refine rs hM ?_
  refine mv ?_
  refine rw_un rfl rfl rfl (u_not _) ?_
  refine rw_nil ?_; intro w hM
  have hbmg : bm ≠ (D2.tab (dirIdx D2.gd (K.hash k))).gb := ne_of_ty hM2 hg1 rfl rfl rfl
  have hbmb : bm ≠ D2.d (dirIdx D2.gd (K.hash k)) := ne_of_ty hM2 hb1 rfl rfl rfl
  have eT : D2.T (D2.d (dirIdx D2.gd (K.hash k))) = D2.tab (dirIdx D2.gd (K.hash k)) := rfl
  have nH : ∀ y, S y = none → H y = none := fun y hy => by
   cases e : H y with
   | none => rfl
   | some u =>
    by_cases h1 : y = bm
    ·rw [h1, hbS] at hy; cases hy
    ·rw [hrS y u e h1] at hy; cases hy
  refine wp_if (tmp_lt rfl) rfl (fun hc => ?_) (fun hc => ?_)
  ·have hpb : pb = false := by simpa using hc
   subst hpb
   unfold PutS at hv
   simp only [eT] at hv
   cases hf : find K (D2.tab (dirIdx D2.gd (K.hash k))).n (D2.tab (dirIdx D2.gd (K.hash k))).G k with
   | some s => rw [hf] at hv; simp at hv
   | none =>
    rw [hf] at hv
    rcases hv with ⟨s, t', h1, _⟩ | ⟨_, hgl, hR⟩
    ·simp at h1
    ·obtain ⟨m3, db3, D3, ρ3, hA3, hP3, hC3, hg3, hlt⟩ := rehashed_after hO2 hA.at_ hB2 hM2 hi0 hg2 hgl hR
     refine wp_exit ?_
     simp only [Exit.then, Exit.inBlock, if_true]
     have hno2 := hO2.look hi0 hat hf
     refine ⟨_, _, rfl, ?_, S18, m3, db3, D3, _, rfl, Know.of ⟨rfl, rfl, rfl, rfl, trivial⟩, hM, hA.trans hA3 hDok hAt, hP3 N hC2 hP2, hC3 hC2, ?_, .inr fun g s k' e hl => ?_⟩
     ·exact hlt _ hh rfl
     ·rcases hg3 with e | ⟨e, hn⟩
      ·rw [e]; exact hg2
      ·have a1 := hP2 _ hi0
       have a2 := (hO2.tok _ hi0).room
       rw [hgl, hn] at a2
       have a3 : psi (D2.tab (dirIdx D2.gd (K.hash k))) = (D2.tab (dirIdx D2.gd (K.hash k))).used + 2 * cnt (isDel (D2.tab (dirIdx D2.gd (K.hash k))).G) (8 * 128) := by unfold psi; rw [hn]
       omega
     ·obtain ⟨g', s', a, _⟩ := hA.evo.onto _ _ _ _ hl
      exact hno2 _ _ _ _ a
  ·have hpb : pb = true := by simpa using hc
   subst hpb
   refine wp_skip ?_
   have hM18 := hM
   have hPD : ∃ g s m' V', pa = some ⟨g, 17 * (s / 8) + 9 + s % 8, none⟩ ∧ PutDone K nu w0 H bm m (.big db D) k N g s m' V' w S18 := by
    unfold PutS at hv
    simp only [eT] at hv
    cases hf : find K (D2.tab (dirIdx D2.gd (K.hash k))).n (D2.tab (dirIdx D2.gd (K.hash k))).G k with
    | some s =>
     rw [hf] at hv
     obtain ⟨hv1, hv2, hv3⟩ := hv
     obtain ⟨q1, q2, q3⟩ := find_spec hf
     rcases hfirst with ⟨rfl, rfl, rfl, rfl⟩ | hno
     ·have hpa : pa = some ⟨(D2.tab (dirIdx D2.gd (K.hash k))).gb, 17 * (s / 8) + 9 + s % 8, none⟩ := by simpa using hv1
      have hs : SameTb (D2.tab (dirIdx D2.gd (K.hash k))) { D2.tab (dirIdx D2.gd (K.hash k)) with G := if nu then (D2.tab (dirIdx D2.gd (K.hash k))).G.setK s k else (D2.tab (dirIdx D2.gd (K.hash k))).G } := ⟨rfl, rfl, rfl, rfl⟩
      have htok := (hO2.tok _ hi0).change (e := (D2.tab (dirIdx D2.gd (K.hash k))).G.e s) hkl ((hO2.tok _ hi0).sl.ok.2.2 s) q3
      rw [Gr.setK_setE] at htok
      have htok2 : TOK K { D2.tab (dirIdx D2.gd (K.hash k)) with G := if nu then (D2.tab (dirIdx D2.gd (K.hash k))).G.setK s k else (D2.tab (dirIdx D2.gd (K.hash k))).G } := by
       cases nu
       ·exact hO2.tok _ hi0
       ·exact htok
      have hrt : ∀ u, u < 8 * (D2.tab (dirIdx D2.gd (K.hash k))).n → (if nu then (D2.tab (dirIdx D2.gd (K.hash k))).G.setK s k else (D2.tab (dirIdx D2.gd (K.hash k))).G).c u < 128 → D2.at (K.hash ((if nu then (D2.tab (dirIdx D2.gd (K.hash k))).G.setK s k else (D2.tab (dirIdx D2.gd (K.hash k))).G).k u)) = D2.d (dirIdx D2.gd (K.hash k)) := fun u hu hfu => by
       cases nu
       ·exact hO2.route _ u hi0 hu hfu
       ·show D2.at (K.hash (if u = s then k else (D2.tab (dirIdx D2.gd (K.hash k))).G.k u)) = _
        split
        ·rfl
        ·exact hO2.route _ u hi0 hu hfu
      refine ⟨_, s, m2, .big db2 (D2.setT (D2.d (dirIdx D2.gd (K.hash k))) { D2.tab (dirIdx D2.gd (K.hash k)) with G := if nu then (D2.tab (dirIdx D2.gd (K.hash k))).G.setK s k else (D2.tab (dirIdx D2.gd (K.hash k))).G }), hpa, ⟨hM18, ⟨hv3 _ _ hM2 hbmg, ⟨hB2.gd, hB2.len, hB2.gs, hB2.small, hB2.dirp⟩, hA.at_.setT hO2 hi0 hs (hv3 _ _ hb1 (ne_of_ty hb1 hg1 rfl rfl rfl)) hv2 (fun x u hx a _ _ => hv3 x u hx a), hO2.setT hi0 hs htok2 hrt, hg2⟩, .inl ⟨_, hi0, hat, hf, rfl, rfl, u1⟩, ⟨u2, u3, u4, u5⟩, Pot.setT hP2 hi0 rfl ?_, fun x u hx a b _ => hv3 x u (hrS x u hx a) b⟩⟩
      have : psi { D2.tab (dirIdx D2.gd (K.hash k)) with G := if nu then (D2.tab (dirIdx D2.gd (K.hash k))).G.setK s k else (D2.tab (dirIdx D2.gd (K.hash k))).G } = psi (D2.tab (dirIdx D2.gd (K.hash k))) := by cases nu <;> rfl
      omega
     ·exfalso
      have hl : D2.live (D2.tab (dirIdx D2.gd (K.hash k))).gb s _ _ := ⟨_, hi0, rfl, q1, q2, rfl, rfl⟩
      have := hno _ _ _ _ (hA.evo.back _ _ _ _ hl)
      rw [q3] at this; cases this
    | none =>
     rw [hf] at hv
     rcases hv with ⟨s, t', hv1, hP, hb18, hg18, hm18, hr18⟩ | ⟨h1, _⟩
     ·have hpa : pa = some ⟨t'.gb, 17 * (s / 8) + 9 + s % 8, none⟩ := by rw [hP.gb]; simpa using hv1
      have hno2 := hO2.look hi0 hat hf
      have hno : ∀ g s k' e, D.live g s k' e → K.eqk k k' = false := fun g s k' e hl => by
       obtain ⟨g', s', a, _⟩ := hA.evo.onto _ _ _ _ hl
       exact hno2 _ _ _ _ a
      have hfr : ∀ x u, S1 x = some u → x ≠ (D2.tab (dirIdx D2.gd (K.hash k))).gb → x ≠ D2.d (dirIdx D2.gd (K.hash k)) → x ≠ bm → S18 x = some u := hr18
      have hEvo : Evo H S18 D D2 ρ := by
       have h := hA.evo
       refine ⟨h.gd, h.back, h.inj, h.onto, h.same, fun i hi => ?_, fun j hj => ?_, h.deep, h.stay⟩
       ·rcases h.fate i hi with h1 | ⟨h1, h2⟩
        ·exact .inl h1
        ·exact .inr ⟨h1, hfr _ _ h2 (ne_of_ty h2 hg1 rfl rfl rfl) (fun e => (h1 _ hi0).1 e.symm) (ne_of_ty h2 hM2 rfl rfl rfl)⟩
       ·rcases h.fresh j hj with h1 | ⟨h1, h2⟩
        ·exact .inl h1
        ·exact .inr ⟨nH _ h1, nH _ h2⟩
      refine ⟨t'.gb, s, { m2 with used := m2.used + 1 }, .big db2 (D2.setT (D2.d (dirIdx D2.gd (K.hash k))) t'), hpa, ⟨hM, ⟨hm18, ⟨hB2.gd, hB2.len, hB2.gs, hB2.small, hB2.dirp⟩, hA.at_.setT hO2 hi0 hP.same hb18 (by rw [hP.gb]; exact hg18) (fun x u hx a b c => ?_), hO2.setT hi0 hP.same hP.ok (hP.route hO2 hi0 hat), hg2⟩, .inr ⟨hno, by show m2.used + 1 = _; rw [hA.used.1, u1], db2, D2, ρ, _, t', hEvo, hO2, hi0, hat, hP, rfl, rfl⟩,
       ⟨hA.used.2.1.trans u2, hA.used.2.2.1.trans u3, hA.used.2.2.2.1.trans u4, hA.used.2.2.2.2.trans u5⟩, Pot.setT hP2 hi0 hP.ld (hP.psi (hO2.tok _ hi0)), fun x u hx a b c => ?_⟩⟩
      ·rw [hP.gb] at a
       refine hfr x u hx a b fun e => ?_
       subst e; rw [hM2] at hx; cases hx
       rcases c with c | c | c
       ·exact absurd (show (132 : Nat) = 101 from c) (by decide)
       ·exact absurd (show (132 : Nat) = 149 from c) (by decide)
       ·exact absurd (show (132 : Nat) = 158 from c) (by decide)
      ·rw [hP.gb] at b
       have hxS := hrS x u hx a
       have hx1 := hA.rest x u hxS a (fun e => c (.inl e)) (fun i hi e => c (.inr ⟨i, hi, e⟩))
       refine hfr x u hx1 b (fun e => ?_) a
       rcases hA.evo.fresh _ hi0 with ⟨i, hi, e1⟩ | ⟨e1, _⟩
       ·exact c (.inr ⟨i, hi, e.trans e1⟩)
       ·rw [← e, hxS] at e1; cases e1
     ·simp at h1
   obtain ⟨g, s, m', V', rfl, hPD⟩ := hPD
   have hbS' : S18 bm = some (encM m') := by have := hPD.map; cases V' <;> exact this.1
   refine wp_seq ?_
   refine rs hM ?_
   refine mv ?_
   refine nck ?_
   refine fa fr132_7 ?_
   refine lo ld5 hbS' ?_
   refine rw_bin rfl rfl rfl rfl (b_false (b_eq _ _) (by rw [hPD.same.2.1]; rfl)) ?_
   refine rw_nil ?_; intro w hM
   refine wp_if (tmp_lt rfl) rfl (by nofun) (fun hc => ?_)
   refine wp_skip ?_
   refine rs hM ?_
   refine mv ?_
   refine nck ?_
   refine fa fr132_7 ?_
   refine lo ld5 hbS' ?_
   refine rw_bin (v := u8 0) rfl rfl rfl rfl (bin_eq (b_xor8 m'.wr 1 (by rw [hPD.same.2.1]; decide) (by decide)) (by rw [hPD.same.2.1]; rfl)) ?_
   refine nck ?_
   refine fa fr132_7 ?_
   refine rw_store1 (v := .int .u8 _) sz5 rfl rfl rfl rfl hbS' rfl rfl (by nofun) (fun S22 hS22 kS22 => ?_)
   refine rw_nil ?_; intro w hM
   refine rs hM ?_
   refine mv ?_
   refine asg ?_
   refine rw_nil ?_; intro w hM
   refine wp_ret ?_
   simp only [Exit.then, Exit.inBlock]
   exact post_tmp (v := .pointer _) rfl rfl rfl ⟨_, S22, rfl, hM, g, s, _, V', rfl, hPD.fin hV hwr (hS22.trans rfl) kS22⟩
end
section
variable {w0 w : World} {H : Heap}
/-- Where a key lies in a map. -/
def findM (K : KT) (k : Nat) : Mv → Option (Nat × Nat)
 | .nil => none
 | .small sg G => (find K 1 G k).map fun s => (sg, s)
 | .big _ D => (find K (D.tab (dirIdx D.gd (K.hash k))).n (D.tab (dirIdx D.gd (K.hash k))).G k).map fun s => ((D.tab (dirIdx D.gd (K.hash k))).gb, s)
def elemM : Option (Nat × Nat) → Value
 | none => .tuple #[.pointer none, .bool false]
 | some (g, s) => .tuple #[.pointer (some ⟨g, 17 * (s / 8) + 9 + s % 8, none⟩), .bool true]
def keyM : Option (Nat × Nat) → Value
 | none => .tuple #[.pointer none, .pointer none, .bool false]
 | some (g, s) => .tuple #[.pointer (some ⟨g, 17 * (s / 8) + 1 + s % 8, none⟩), .pointer (some ⟨g, 17 * (s / 8) + 9 + s % 8, none⟩), .bool true]
theorem findM_some {K : KT} {S : Heap} {bm : Nat} {m : Mp} {V : Mv} (hV : MapIs K S bm m V) {k g s : Nat} (h : findM K k V = some (g, s)) : ∃ k' e, V.live g s k' e ∧ K.eqk k k' = true := by
 cases V with
 | nil => cases h
 | small sg G =>
  cases hf : find K 1 G k with
  | none => simp [findM, hf] at h
  | some u =>
   simp only [findM, hf, Option.map_some, Option.some.injEq, Prod.mk.injEq] at h
   obtain ⟨rfl, rfl⟩ := h
   obtain ⟨a, b, c⟩ := find_spec hf
   exact ⟨_, _, ⟨rfl, by omega, b, rfl, rfl⟩, c⟩
 | big db D =>
  cases hf : find K (D.tab (dirIdx D.gd (K.hash k))).n (D.tab (dirIdx D.gd (K.hash k))).G k with
  | none => simp [findM, hf] at h
  | some u =>
   simp only [findM, hf, Option.map_some, Option.some.injEq, Prod.mk.injEq] at h
   obtain ⟨rfl, rfl⟩ := h
   obtain ⟨a, b, c⟩ := find_spec hf
   have hg := hV.2.2.2.1.gd64
   exact ⟨_, _, ⟨_, dirIdx_lt (by omega) (K.lt k), rfl, a, b, rfl, rfl⟩, c⟩
theorem findM_none {K : KT} {S : Heap} {bm : Nat} {m : Mp} {V : Mv} (hV : MapIs K S bm m V) {k : Nat} (h : findM K k V = none) : ∀ g s k' e, V.live g s k' e → K.eqk k k' = false := by
 cases V with
 | nil => exact fun _ _ _ _ h => h.elim
 | small sg G =>
  have hf : find K 1 G k = none := by simpa [findM] using h
  rintro g s k' e ⟨_, h2, h3, rfl, _⟩
  exact find_none_iff hf s (by omega) h3
 | big db D =>
  have hf : find K (D.tab (dirIdx D.gd (K.hash k))).n (D.tab (dirIdx D.gd (K.hash k))).G k = none := by simpa [findM] using h
  have hg := hV.2.2.2.1.gd64
  exact hV.2.2.2.1.look (dirIdx_lt (by omega) (K.lt k)) rfl hf
theorem findM_empty {K : KT} {S : Heap} {bm : Nat} {m : Mp} {V : Mv} (hV : MapIs K S bm m V) {k : Nat} (h : ∀ g s k e, ¬ V.live g s k e) : findM K k V = none := by
 cases hf : findM K k V with
 | none => rfl
 | some p => obtain ⟨k', e, a, _⟩ := findM_some hV (g := p.1) (s := p.2) hf; exact absurd a (h _ _ _ _)
theorem keyRes_map {gb : Nat} {o : Option Nat} : keyRes gb o = keyM (o.map fun s => (gb, s)) := by cases o <;> rfl
theorem elemRes_map {gb : Nat} {o : Option Nat} : elemRes gb o = elemM (o.map fun s => (gb, s)) := by cases o <;> rfl
theorem keyM_shape (o : Option (Nat × Nat)) : ∃ a b c, keyM o = .tuple #[.pointer a, .pointer b, .bool c] := by
 cases o with
 | none => exact ⟨_, _, _, rfl⟩
 | some p => exact ⟨_, _, _, rfl⟩
theorem elemM_shape (o : Option (Nat × Nat)) : ∃ a c, elemM o = .tuple #[.pointer a, .bool c] := by
 cases o with
 | none => exact ⟨_, _, rfl⟩
 | some p => exact ⟨_, _, rfl⟩
/-- The element's answer out of the key's. -/
theorem keyM_elem (o : Option (Nat × Nat)) {a b : Option Addr} {c : Bool} (h : keyM o = .tuple #[.pointer a, .pointer b, .bool c]) : elemM o = .tuple #[.pointer b, .bool c] := by
 cases o with
 | none => simp only [keyM, Value.tuple.injEq, Array.mk.injEq, List.cons.injEq, Value.pointer.injEq, Value.bool.injEq] at h; obtain ⟨_, rfl, rfl, _⟩ := h; rfl
 | some p => simp only [keyM, Value.tuple.injEq, Array.mk.injEq, List.cons.injEq, Value.pointer.injEq, Value.bool.injEq] at h; obtain ⟨_, rfl, rfl, _⟩ := h; rfl
theorem MapIs.cell {K : KT} {S : Heap} {bm : Nat} {m : Mp} {V : Mv} (h : MapIs K S bm m V) : S bm = some (encM m) := by cases V <;> exact h.1
set_option maxHeartbeats 1000000 in
theorem c97 (hM : Mem w0 w H) (hDb : HasDb w0) {K : KT} {E : Heap} {bty : Nat} {nu : Bool} (hE : E.le H) (Ty : TypOK K w0 E bty nu) {bm : Nat} {m : Mp} {V : Mv} (hV : MapIs K H bm m V) (hwr : m.wr = 0) (hU : m.used = 0 → ∀ g s k e, ¬ V.live g s k e)
  {bk ok k : Nat} {obk : Obj} (hk : H bk = some obk) (hkc : objCell obk ok = some (u64 k)) (hkl : k < 2 ^ 64) :
  Calls Tryz.prog 97 [.pointer (some ⟨bm, 0, none⟩), .pointer (some ⟨bty, 0, none⟩), .pointer (some ⟨bk, ok, none⟩)].toArray w (Keeps w0 H (keyM (findM K k V))) := by
 have hb := hV.cell
 have hh := K.lt k
 refine calls_start Tryz.func97 rfl Tryz.ntmps97 (Nat.le_of_ble_eq_true rfl) ?_
 refine rs hM ?_
 refine asg ?_
 refine asg ?_
 refine asg ?_
 refine rw_nil ?_; intro w hM
 refine wp_seq ?_
 refine rs hM ?_
 refine mv ?_
 refine rw_callq cr66 rfl rfl (fun H' w hle hM => c66 hM (hle _ _ hb)) rfl ?_
 refine rw_bin rfl rfl rfl rfl (b_eq _ _) ?_
 refine rw_nil ?_; intro w hM
 refine wp_if (tmp_lt rfl) rfl (fun hc => ?_) (fun hc => ?_)
 ·have h0 : m.used = 0 := by have : ((m.used : Nat) : Int) = 0 := beq_iff_eq.1 hc; omega
  refine rs hM ?_
  refine asg ?_
  refine asg ?_
  refine asg ?_
  refine rw_nil ?_; intro w hM
  refine wp_ret ?_
  refine post_tmp3 rfl rfl rfl rfl rfl rfl rfl (keep ?_ hM)
  rw [findM_empty hV (hU h0)]; rfl
 have hu0 := hc
 refine wp_skip ?_
 refine wp_seq ?_
 refine rs hM ?_
 refine mv ?_
 refine nck ?_
 refine fa fr132_7 ?_
 refine lo ld5 hb ?_
 refine rw_bin rfl rfl rfl rfl (b_false (b_ne _ _) (by rw [hwr]; rfl)) ?_
 refine rw_nil ?_; intro w hM
 refine wp_if (tmp_lt rfl) rfl (by nofun) (fun hc => ?_)
 refine wp_skip ?_
 refine wp_mix_seq [] [] [0, 1, 2, 3, 4, 5, 6, 7, 8, 9, 10] H mixed (by kernel_rfl) (Heap.le_refl _) hM ?_
 refine mv ?_
 refine nck ?_
 refine fa fr88_0 ?_
 refine lo ld85 (hE _ _ Ty.typ) ?_
 refine mv ?_
 refine mv ?_
 refine nck ?_
 refine fa fr132_1 ?_
 refine lo ld12 hb ?_
 refine rw_callvq (captured := Ty.ch) Ty.crh rfl rfl rfl (fun H' w hle2 hM => Ty.hasher hM (Heap.le_trans hE hle2) (hle2 _ _ hk) hkc hkl) rfl ?_
 refine asg ?_
 refine rw_nil ?_; intro w hM
 refine wp_seq ?_
 cases V with
 | nil =>
  exfalso
  have := hV.2.2.2.2
  rw [this] at hu0; simp at hu0
 | small sg G =>
  obtain ⟨_, h1, h2, h3, hg, ⟨hG, hGd⟩, hu⟩ := hV
  obtain ⟨pa, pb, pc, hp⟩ := keyM_shape (findM K k (.small sg G))
  have hp' : keyRes sg (find K 1 G k) = .tuple #[.pointer pa, .pointer pb, .bool pc] := keyRes_map.trans hp
  refine rs hM ?_
  refine mv ?_
  refine nck ?_
  refine fa fr132_4 ?_
  refine lo ld3 hb ?_
  refine rw_bin rfl rfl rfl rfl (b_true (b_eq _ _) (by rw [h1]; rfl)) ?_
  refine rw_nil ?_; intro w hM
  refine wp_if (tmp_lt rfl) rfl (fun hc => ?_) (by nofun)
  refine rs hM ?_
  refine mv ?_
  refine mv ?_
  refine mv ?_
  refine mv ?_
  refine rw_callq (v := .tuple #[.pointer pa, .pointer pb, .bool pc]) cr112 rfl rfl (fun H' w hle hM => hp' ▸ c112 hM hDb (Heap.le_trans hE hle) Ty (hle _ _ hb) h2 (hle _ _ hg) hG (hle _ _ hk) hkc hkl) rfl ?_
  refine rw_extract rfl rfl rfl rfl ?_
  refine rw_extract rfl rfl rfl rfl ?_
  refine rw_extract rfl rfl rfl rfl ?_
  refine asg ?_
  refine asg ?_
  refine asg ?_
  refine rw_nil ?_; intro w hM
  refine wp_ret ?_
  exact post_tmp3 (v := .pointer _) (v' := .pointer _) (v'' := .bool _) rfl rfl rfl rfl rfl rfl rfl (keep hp.symm hM)
 | big db D =>
  obtain ⟨_, hmb, hAt, hDok, hgd40⟩ := hV
  have hlen0 : ((m.dirLen : Int) == 0) = false := by rw [hmb.len]; exact nz (Nat.two_pow_pos _)
  have hi0 : dirIdx D.gd (K.hash k) < 2 ^ D.gd := dirIdx_lt (by omega) hh
  have hb1 := hAt.tabs _ hi0
  have hg1 := hAt.grs _ hi0
  have hdir : H db = some (encD m.dirLen (fun i => some ⟨D.d i, 0, none⟩)) := by rw [hmb.len]; exact hAt.dir
  obtain ⟨pa, pb, pc, hp⟩ := keyM_shape (findM K k (.big db D))
  have hp' : keyRes (D.tab (dirIdx D.gd (K.hash k))).gb (find K (D.tab (dirIdx D.gd (K.hash k))).n (D.tab (dirIdx D.gd (K.hash k))).G k) = .tuple #[.pointer pa, .pointer pb, .bool pc] := keyRes_map.trans hp
  refine rs hM ?_
  refine mv ?_
  refine nck ?_
  refine fa fr132_4 ?_
  refine lo ld3 hb ?_
  refine rw_bin rfl rfl rfl rfl (b_false (b_eq _ _) hlen0) ?_
  refine rw_nil ?_; intro w hM
  refine wp_if (tmp_lt rfl) rfl (by nofun) (fun hc => ?_)
  refine wp_skip ?_
  refine rs hM ?_
  refine mv ?_
  refine mv ?_
  refine rw_callq (v := u64 (dirIdx D.gd (K.hash k))) cr88 rfl rfl (fun H' w hle hM => hmb.gd ▸ c88 hM (hle _ _ hb) (by rw [hmb.gd]; exact hmb.len) (by rw [hmb.gd]; exact hmb.gs) (by rw [hmb.gd]; omega) hh) rfl ?_
  refine asg ?_
  refine rw_nil ?_; intro w hM
  refine rs hM ?_
  refine mv ?_
  refine mv ?_
  refine rw_callq cr77 rfl rfl (fun H' w hle hM => c77 hM (hle _ _ hb) hmb.dirp (hle _ _ hdir) (by rw [hmb.len]; exact hi0)) rfl ?_
  refine mv ?_
  refine mv ?_
  refine mv ?_
  refine rw_callq (v := .tuple #[.pointer pa, .pointer pb, .bool pc]) cr121 rfl rfl (fun H' w hle hM => hp' ▸ c121 hM hDb (Heap.le_trans hE hle) Ty (hle _ _ hb1) (hle _ _ hg1) (hDok.tok _ hi0) (hle _ _ hk) hkc hkl) rfl ?_
  refine rw_extract rfl rfl rfl rfl ?_
  refine rw_extract rfl rfl rfl rfl ?_
  refine rw_extract rfl rfl rfl rfl ?_
  refine asg ?_
  refine asg ?_
  refine asg ?_
  refine rw_nil ?_; intro w hM
  refine wp_ret ?_
  exact post_tmp3 (v := .pointer _) (v' := .pointer _) (v'' := .bool _) rfl rfl rfl rfl rfl rfl rfl (keep hp.symm hM)
set_option maxHeartbeats 1000000 in
theorem c86 (hM : Mem w0 w H) (hDb : HasDb w0) {K : KT} {E : Heap} {bty : Nat} {nu : Bool} (hE : E.le H) (Ty : TypOK K w0 E bty nu) {bm : Nat} {m : Mp} {V : Mv} (hV : MapIs K H bm m V) (hwr : m.wr = 0) (hU : m.used = 0 → ∀ g s k e, ¬ V.live g s k e)
  {bk ok k : Nat} {obk : Obj} (hk : H bk = some obk) (hkc : objCell obk ok = some (u64 k)) (hkl : k < 2 ^ 64) :
  Calls Tryz.prog 86 [.pointer (some ⟨bm, 0, none⟩), .pointer (some ⟨bty, 0, none⟩), .pointer (some ⟨bk, ok, none⟩)].toArray w (Keeps w0 H (elemM (findM K k V))) := by
 have hb := hV.cell
 have hh := K.lt k
 refine calls_start Tryz.func86 rfl Tryz.ntmps86 (Nat.le_of_ble_eq_true rfl) ?_
 refine rs hM ?_
 refine asg ?_
 refine asg ?_
 refine rw_nil ?_; intro w hM
 refine wp_seq ?_
 refine rs hM ?_
 refine mv ?_
 refine rw_callq cr66 rfl rfl (fun H' w hle hM => c66 hM (hle _ _ hb)) rfl ?_
 refine rw_bin rfl rfl rfl rfl (b_eq _ _) ?_
 refine rw_nil ?_; intro w hM
 refine wp_if (tmp_lt rfl) rfl (fun hc => ?_) (fun hc => ?_)
 ·have h0 : m.used = 0 := by have : ((m.used : Nat) : Int) = 0 := beq_iff_eq.1 hc; omega
  refine rs hM ?_
  refine asg ?_
  refine asg ?_
  refine rw_nil ?_; intro w hM
  refine wp_ret ?_
  refine post_tmp2 rfl rfl rfl rfl rfl (keep ?_ hM)
  rw [findM_empty hV (hU h0)]; rfl
 have hu0 := hc
 refine wp_skip ?_
 refine wp_seq ?_
 refine rs hM ?_
 refine mv ?_
 refine nck ?_
 refine fa fr132_7 ?_
 refine lo ld5 hb ?_
 refine rw_bin rfl rfl rfl rfl (b_false (b_ne _ _) (by rw [hwr]; rfl)) ?_
 refine rw_nil ?_; intro w hM
 refine wp_if (tmp_lt rfl) rfl (by nofun) (fun hc => ?_)
 refine wp_skip ?_
 refine wp_mix_seq [] [] [0, 1, 2, 3, 4, 5, 6, 7, 8, 9, 10] H mixed (by kernel_rfl) (Heap.le_refl _) hM ?_
 refine mv ?_
 refine nck ?_
 refine fa fr88_0 ?_
 refine lo ld85 (hE _ _ Ty.typ) ?_
 refine mv ?_
 refine mv ?_
 refine nck ?_
 refine fa fr132_1 ?_
 refine lo ld12 hb ?_
 refine rw_callvq (captured := Ty.ch) Ty.crh rfl rfl rfl (fun H' w hle2 hM => Ty.hasher hM (Heap.le_trans hE hle2) (hle2 _ _ hk) hkc hkl) rfl ?_
 refine asg ?_
 refine rw_nil ?_; intro w hM
 refine wp_seq ?_
 cases V with
 | nil =>
  exfalso
  have := hV.2.2.2.2
  rw [this] at hu0; simp at hu0
 | small sg G =>
  obtain ⟨_, h1, h2, h3, hg, ⟨hG, hGd⟩, hu⟩ := hV
  obtain ⟨pa, pb, pc, hp⟩ := keyM_shape (findM K k (.small sg G))
  have hp' : keyRes sg (find K 1 G k) = .tuple #[.pointer pa, .pointer pb, .bool pc] := keyRes_map.trans hp
  refine rs hM ?_
  refine mv ?_
  refine nck ?_
  refine fa fr132_4 ?_
  refine lo ld3 hb ?_
  refine rw_bin rfl rfl rfl rfl (b_true (b_eq _ _) (by rw [h1]; rfl)) ?_
  refine rw_nil ?_; intro w hM
  refine wp_if (tmp_lt rfl) rfl (fun hc => ?_) (by nofun)
  refine rs hM ?_
  refine mv ?_
  refine mv ?_
  refine mv ?_
  refine mv ?_
  refine rw_callq (v := .tuple #[.pointer pa, .pointer pb, .bool pc]) cr112 rfl rfl (fun H' w hle hM => hp' ▸ c112 hM hDb (Heap.le_trans hE hle) Ty (hle _ _ hb) h2 (hle _ _ hg) hG (hle _ _ hk) hkc hkl) rfl ?_
  refine mv ?_
  refine rw_extract rfl rfl rfl rfl ?_
  refine rw_extract rfl rfl rfl rfl ?_
  refine rw_extract rfl rfl rfl rfl ?_
  refine asg ?_
  refine asg ?_
  refine asg ?_
  refine rw_nil ?_; intro w hM
  refine rs hM ?_
  refine mv ?_
  refine mv ?_
  refine asg ?_
  refine asg ?_
  refine rw_nil ?_; intro w hM
  refine wp_ret ?_
  exact post_tmp2 (v := .pointer _) (v' := .bool _) rfl rfl rfl rfl rfl (keep (keyM_elem _ hp).symm hM)
 | big db D =>
  obtain ⟨_, hmb, hAt, hDok, hgd40⟩ := hV
  have hlen0 : ((m.dirLen : Int) == 0) = false := by rw [hmb.len]; exact nz (Nat.two_pow_pos _)
  have hi0 : dirIdx D.gd (K.hash k) < 2 ^ D.gd := dirIdx_lt (by omega) hh
  have hb1 := hAt.tabs _ hi0
  have hg1 := hAt.grs _ hi0
  have hdir : H db = some (encD m.dirLen (fun i => some ⟨D.d i, 0, none⟩)) := by rw [hmb.len]; exact hAt.dir
  obtain ⟨pa, pc, hp⟩ := elemM_shape (findM K k (.big db D))
  have hp' : elemRes (D.tab (dirIdx D.gd (K.hash k))).gb (find K (D.tab (dirIdx D.gd (K.hash k))).n (D.tab (dirIdx D.gd (K.hash k))).G k) = .tuple #[.pointer pa, .bool pc] := elemRes_map.trans hp
  refine rs hM ?_
  refine mv ?_
  refine nck ?_
  refine fa fr132_4 ?_
  refine lo ld3 hb ?_
  refine rw_bin rfl rfl rfl rfl (b_false (b_eq _ _) hlen0) ?_
  refine rw_nil ?_; intro w hM
  refine wp_if (tmp_lt rfl) rfl (by nofun) (fun hc => ?_)
  refine wp_skip ?_
  refine rs hM ?_
  refine mv ?_
  refine mv ?_
  refine rw_callq (v := u64 (dirIdx D.gd (K.hash k))) cr88 rfl rfl (fun H' w hle hM => hmb.gd ▸ c88 hM (hle _ _ hb) (by rw [hmb.gd]; exact hmb.len) (by rw [hmb.gd]; exact hmb.gs) (by rw [hmb.gd]; omega) hh) rfl ?_
  refine asg ?_
  refine rw_nil ?_; intro w hM
  refine rs hM ?_
  refine mv ?_
  refine mv ?_
  refine rw_callq cr77 rfl rfl (fun H' w hle hM => c77 hM (hle _ _ hb) hmb.dirp (hle _ _ hdir) (by rw [hmb.len]; exact hi0)) rfl ?_
  refine mv ?_
  refine mv ?_
  refine mv ?_
  refine rw_callq (v := .tuple #[.pointer pa, .bool pc]) cr113 rfl rfl (fun H' w hle hM => hp' ▸ c113 hM hDb (Heap.le_trans hE hle) Ty (hle _ _ hb1) (hle _ _ hg1) (hDok.tok _ hi0) (hle _ _ hk) hkc hkl) rfl ?_
  refine rw_extract rfl rfl rfl rfl ?_
  refine rw_extract rfl rfl rfl rfl ?_
  refine asg ?_
  refine asg ?_
  refine rw_nil ?_; intro w hM
  refine wp_ret ?_
  exact post_tmp2 (v := .pointer _) (v' := .bool _) rfl rfl rfl rfl rfl (keep hp.symm hM)
theorem c74 (hM : Mem w0 w H) (hDb : HasDb w0) {K : KT} {E : Heap} {bty : Nat} {nu : Bool} (hE : E.le H) (Ty : TypOK K w0 E bty nu) {bm : Nat} {m : Mp} {V : Mv} (hV : MapIs K H bm m V) (hwr : m.wr = 0) (hU : m.used = 0 → ∀ g s k e, ¬ V.live g s k e)
  {bk ok k : Nat} {obk : Obj} (hk : H bk = some obk) (hkc : objCell obk ok = some (u64 k)) (hkl : k < 2 ^ 64) :
  Calls Tryz.prog 74 [.pointer (some ⟨bm, 0, none⟩), .pointer (some ⟨bty, 0, none⟩), .pointer (some ⟨bk, ok, none⟩)].toArray w (Keeps w0 H (elemM (findM K k V))) := by
 obtain ⟨pa, pc, hp⟩ := elemM_shape (findM K k V)
 have hc := fun {w : World} (hM : Mem w0 w H) => c86 hM hDb hE Ty hV hwr hU hk hkc hkl
 rw [hp] at hc ⊢
 refine calls_start Tryz.func74 rfl Tryz.ntmps74 (Nat.le_of_ble_eq_true rfl) ?_
 refine rs hM ?_
 refine asg ?_
 refine asg ?_
 refine rw_nil ?_; intro w hM
 refine rs hM ?_
 refine mv ?_
 refine mv ?_
 refine mv ?_
 refine rw_call cr86 rfl rfl rfl (by nofun) (fun w hM => (hc hM).mono fun e w' ⟨he, hm⟩ => ⟨_, he, H, H, fun h => (by cases h), Heap.le_refl _, hm, ?_⟩)
 refine rw_extract rfl rfl rfl rfl ?_
 refine rw_extract rfl rfl rfl rfl ?_
 refine asg ?_
 refine asg ?_
 refine rw_nil ?_; intro w hM
 refine wp_ret ?_
 exact post_tmp2 (v := .pointer _) (v' := .bool _) rfl rfl rfl rfl rfl (keep rfl hM)
end
def encI (n : Nat) : Obj := .cells #[i64 (n : Nat)] 3 (0, 0)
/-- The numbers that a map draws: a function of the program that turns the counter in block cb alone. -/
structure Rnd (w0 : World) (E : Heap) (cb : Nat) (rand : Value) where
 fr : FuncId
 cr : List Value
 val : rand = .func (.func fr) #[] cr.toArray
 run : CallRun Tryz.prog fr
 call : ∀ {w : World} {H : Heap} {n : Nat}, Mem w0 w H → E.le H → H cb = some (encI n) → n < 2 ^ 62 → Calls Tryz.prog fr ([] ++ cr).toArray w (Gives w0 fun v S => ∃ r n', v = u64 r ∧ r < 2 ^ 64 ∧ n' ≤ n + 1 ∧ S cb = some (encI n') ∧ ∀ x, x ≠ cb → S x = H x)
theorem SmallOK.del {K : KT} {G : Gr} (h : SmallOK K G) {s : Nat} : SmallOK K ((G.setE s 0).setC s 128) := by
 have hc : ∀ t, ((G.setE s 0).setC s 128).c t = if t = s then 128 else G.c t := fun _ => rfl
 have pr0 : ∀ hh, pr 1 hh 0 = 0 := fun hh => by have := pr_lt (n := 1) (by decide) hh 0; omega
 refine ⟨⟨⟨fun t => ?_, h.1.ok.2.1, fun t => ?_⟩, fun t ht => ?_, fun t ht hft => ?_, fun t ht hft hself => ⟨0, by decide, by rw [pr0]; omega, fun j hj => by omega⟩, fun a c ha hc' hfa hfc hac => ?_, fun g q r hg hq hr h1 h2 => ?_⟩, fun t ht => ?_⟩
 ·rw [hc]; split
  ·omega
  ·exact h.1.ok.1 t
 ·show -_ ≤ (if t = s then (0 : Int) else G.e t) ∧ (if t = s then (0 : Int) else G.e t) < _
  split
  ·omega
  ·exact h.1.ok.2.2 t
 ·rw [hc]; split
  ·omega
  ·exact h.1.st t ht
 ·rw [hc] at hft ⊢
  split
  ·rename_i e1; rw [if_pos e1] at hft; omega
  ·rename_i hne; rw [if_neg hne] at hft; exact h.1.h2 t ht hft
 ·rw [hc] at hfa hfc
  have ha' : a ≠ s := fun e1 => by rw [if_pos e1] at hfa; omega
  have hc'' : c ≠ s := fun e1 => by rw [if_pos e1] at hfc; omega
  rw [if_neg ha'] at hfa; rw [if_neg hc''] at hfc
  exact h.1.uniq a c ha hc' hfa hfc hac
 ·rw [hc] at h2
  split at h2
  ·omega
  ·exact h.2 _ (by omega) h2
 ·rw [hc]; split
  ·omega
  ·exact h.2 t ht
theorem small_del_cnt {G : Gr} {s : Nat} (hs : s < 8) (hf : G.c s < 128) : cnt (isFull ((G.setE s 0).setC s 128)) 8 + 1 = cnt (isFull G) 8 := by
 have hc : ∀ t, ((G.setE s 0).setC s 128).c t = if t = s then 128 else G.c t := fun _ => rfl
 have h3 := cnt_set (q := isFull ((G.setE s 0).setC s 128)) (r := isFull G) (s := s) hs (fun u _ hne => by simp [isFull, hc, hne])
 have h1 : isFull ((G.setE s 0).setC s 128) s = false := by simp [isFull, hc]
 have h2 : isFull G s = true := by simp [isFull, hf]
 rw [h1, h2] at h3
 simpa using h3
theorem Tb.del_ok {K : KT} {t : Tb} (h : TOK K t) {s : Nat} (hs : s < 8 * t.n) (hf : t.G.c s < 128) : TOK K (t.del s) ∧ 0 < t.used ∧ psi (t.del s) ≤ psi t + 1 := by
 have hg := gone_ok h.sl (show s / 8 < t.n by omega)
 unfold Tb.del
 generalize gone t.G (s / 8) = b at hg ⊢
 have h1 := h.del hs hf hg
 have r1 := h.room
 have r2 := h1.1.room
 have h3 := h1.2
 refine ⟨h1.1, h1.2, ?_⟩
 unfold psi
 have e3 : t.gl ≤ if b = 128 then t.gl + 1 else t.gl := by split <;> omega
 simp only at r2 ⊢
 generalize (if b = 128 then t.gl + 1 else t.gl) = gl' at *
 generalize cnt (isDel ((t.G.setE s 0).setC s b)) (8 * t.n) = x at *
 generalize cnt (isDel t.G) (8 * t.n) = y at *
 omega
/-- What a deletion leaves. -/
def DelR (K : KT) (m : Mp) (k : Nat) (m' : Mp) : Mv → Mv → Prop
 | .nil, V' => V' = .nil ∧ m'.used = m.used
 | .small sg G, V' => (find K 1 G k = none ∧ V' = .small sg G ∧ m'.used = m.used) ∨ ∃ s, find K 1 G k = some s ∧ V' = .small sg ((G.setE s 0).setC s 128) ∧ m'.used + 1 = m.used
 | .big db D, V' => (findM K k (.big db D) = none ∧ V' = .big db D ∧ m'.used = m.used) ∨
   ∃ s, find K (D.tab (dirIdx D.gd (K.hash k))).n (D.tab (dirIdx D.gd (K.hash k))).G k = some s ∧ V' = .big db (D.setT (D.at (K.hash k)) ((D.tab (dirIdx D.gd (K.hash k))).del s)) ∧ m'.used + 1 = m.used
structure DelM (K : KT) (H : Heap) (bm cb : Nat) (m : Mp) (V : Mv) (k N : Nat) (m' : Mp) (V' : Mv) (n' : Nat) (S : Heap) : Prop where
 map : MapIs K S bm m' V'
 res : DelR K m k m' V V'
 same : m'.wr = m.wr ∧ m'.clr = m.clr ∧ (findM K k V = none → m' = m)
 tomb : m'.tomb = m.tomb ∨ ∃ db D, V = .big db D
 rnd : S cb = some (encI n')
 pot : V'.Pot (N + 1)
 rest : ∀ x u, H x = some u → x ≠ bm → x ≠ cb → (∀ g s, findM K k V = some (g, s) → x ≠ g) → ¬ V.tblk x → S x = some u
end Go.Proofs.YtddpfkcofmfmpaaGreatDoor
