/-
  Plain theory: what a deletion does to the map beside the reference's. Conditions stand in each lemma. Plain theory: iterators through all that happens to a map. Conditions stand in each lemma. Plain theory: an iterator begins, and goes on. Conditions stand in each lemma. Floats: when two are equal. Calls that have no body. Conditions stand in each lemma.
  Conditions stand in each lemma.
-/
import Derived.Test.YtddpfkcofmfmpaaGreatDoorQ19
namespace Go.Proofs.YtddpfkcofmfmpaaGreatDoor
open Go Go.RowKit
set_option maxRecDepth 20000
section
section
variable {K : KT} {H S : Heap} {bm cb n n' : Nat} {m m' : Mp} {k N : Nat} {id : Nat → Nat → Nat} {all : List Ent}
def DelOut (K : KT) (H S : Heap) (m m' : Mp) (V V' : Mv) (id : Nat → Nat → Nat) (all : List Ent) (k : Nat) : Prop := MChg K H S m m' V V' id id all (delE K all k) ∧ (m'.used = m.used ∧ lenE (delE K all k) = lenE all ∨ m'.used + 1 = m.used ∧ lenE (delE K all k) + 1 = lenE all)
theorem EChg.refl (hu : Uni K all) : EChg K all all := ⟨hu, hu, Nat.le_refl _, fun _ a' _ h1 h2 => ⟨a', h1, h2, rfl⟩, fun _ _ h1 _ _ => h1⟩
theorem gone_ge {G : Gr} {g : Nat} : 128 ≤ gone G g := by unfold gone; split <;> omega
theorem del_big {db : Nat} {D : Dir} {T : Nat → Tb} {all' : List Ent} (hV : MapIs K H bm m (.big db D)) (hcb : H cb = some (encI n)) (hM : MapIs K S bm m' (.big db { D with T := T })) (hE : EChg K all all') (hS' : Sim K (.big db { D with T := T }) id all')
  (hs : ∀ i, i < 2 ^ D.gd → SameTb (D.tab i) (T (D.d i)) ∧ Stay all all' id id (D.tab i).gb (D.tab i).n (D.tab i).G (T (D.d i)).G) (hrest : ∀ x u, H x = some u → x ≠ bm → x ≠ cb → (∀ i, i < 2 ^ D.gd → x ≠ (D.tab i).gb) → ¬ (Mv.big db D).tblk x → S x = some u) : MChg K H S m m' (.big db D) (.big db { D with T := T }) id id all all' := by
 have hVb := hV
 obtain ⟨_, hmb, hA, hD, hg40⟩ := hVb
 have hc : ∀ x t, H x = some (encT t) → x ≠ cb := fun x t h => ne_of_ty h hcb rfl rfl rfl
 have hc' : ∀ x n G, H x = some (encG n G) → x ≠ cb := fun x n G h => ne_of_ty h hcb rfl rfl rfl
 refine ⟨hE, hS', fun db0 D0 h0 => ?_, fun g0 G0 _ hd => absurd hd hV.big_len, fun g0 G0 h1 h2 _ => ⟨?_, hM.big_len, fun n' G' hr => ?_, fun _ => rfl⟩⟩
 ·cases h0
  refine ⟨db, _, rfl, dchg_place hs (fun b t h1 h2 h3 => ⟨hrest _ _ h1 (ne_of_ty h1 hV.cell rfl rfl rfl) (hc _ _ h1) (fun i hi => ne_of_ty h1 (hA.grs i hi) rfl rfl rfl) (fun ht => ?_), hrest _ _ h2 (ne_of_ty h2 hV.cell rfl rfl rfl) (hc' _ _ _ h2) (fun i hi e => (h3 i hi).2 e.symm) (fun ht => ?_), fun _ => rfl⟩) hD.gd64⟩
  ·rcases ht with rfl | ⟨i, hi, e1⟩
   ·exact ne_of_ty h1 hA.dir rfl rfl rfl rfl
   ·exact (h3 i hi).1 e1.symm
  ·rcases ht with e1 | ⟨i, hi, e1⟩
   ·exact ne_of_ty h2 hA.dir rfl rfl rfl e1
   ·exact ne_of_ty h2 (hA.tabs i hi) rfl rfl rfl e1
 ·refine hrest _ _ h1 (ne_of_ty h1 hV.cell rfl rfl rfl) (hc' _ _ _ h1) (fun i hi e => h2 _ _ ⟨i, hi, e, rfl, rfl⟩) (fun ht => ?_)
  rcases ht with e1 | ⟨i, hi, e1⟩
  ·exact ne_of_ty h1 hA.dir rfl rfl rfl e1
  ·exact ne_of_ty h1 (hA.tabs i hi) rfl rfl rfl e1
 ·obtain ⟨i, hi, hx, _⟩ := hr
  have hx' : g0 = (T (D.d i)).gb := hx
  rw [(hs i hi).1.gb] at hx'
  exact h2 _ _ ⟨i, hi, hx', rfl, rfl⟩
theorem del_none {V : Mv} (hS : Sim K V id all) (hV : MapIs K H bm m V) (h : findM K k V = none) : delE K all k = all := by
 have := hS.no_key (findM_none hV h)
 unfold delE; rw [this]
theorem Stay.refl {id : Nat → Nat → Nat} {g n : Nat} {G : Gr} : Stay all all id id g n G G := ⟨fun _ _ h _ => ⟨h, rfl⟩, fun _ _ h _ => ⟨h, rfl⟩⟩
/-- A deletion. -/
theorem del_out {V V' : Mv} (hV : MapIs K H bm m V) (hcb : H cb = some (encI n)) (hS : Sim K V id all) (h : DelM K H bm cb m V k N m' V' n' S) : DelOut K H S m m' V V' id all k := by
 have hM := h.map
 have hU := hS.uni hV
 cases V with
 | nil =>
  obtain ⟨rfl, hu⟩ := h.res
  have hd := del_none (k := k) hS hV rfl
  refine ⟨?_, .inl ⟨hu, by rw [hd]⟩⟩
  rw [hd]
  exact ⟨EChg.refl hU, hS, fun db D h => (by cases h), fun g G hr => hr.elim, fun g G _ _ hd => absurd hV.2.1 hd⟩
 | small sg G =>
  rcases h.res with ⟨hf, rfl, hu⟩ | ⟨s, hf, rfl, hu⟩
  ·have hd := del_none (k := k) hS hV (by simp [findM, hf])
   refine ⟨?_, .inl ⟨hu, by rw [hd]⟩⟩
   rw [hd]
   exact mchg_small hV hM (EChg.refl hU) hS Stay.refl
  ·obtain ⟨hs, hfu, hk⟩ := find_spec hf
   have hc : ∀ y, ((G.setE s 0).setC s 128).c y = if y = s then 128 else G.c y := fun _ => rfl
   have hR : DelRR K (.small sg G) (.small sg ((G.setE s 0).setC s 128)) sg s k := by
    refine ⟨⟨_, _, ⟨rfl, by omega, hfu, rfl, rfl⟩, hk⟩, fun x y k' e' => ⟨fun hl => ?_, fun ⟨hne, hl⟩ => ?_⟩⟩
    ·obtain ⟨rfl, hy, hcy, hky, hey⟩ := hl
     rw [hc] at hcy
     have e1 : y ≠ s := fun e1 => by rw [if_pos e1] at hcy; omega
     rw [if_neg e1] at hcy
     refine ⟨fun h => e1 h.2, rfl, hy, hcy, hky, ?_⟩
     have : (if y = s then (0 : Int) else G.e y) = e' := hey
     rw [if_neg e1] at this; exact this
    ·obtain ⟨rfl, hy, hcy, hky, hey⟩ := hl
     have e1 : y ≠ s := fun e1 => hne ⟨rfl, e1⟩
     refine ⟨rfl, hy, by rw [hc, if_neg e1]; exact hcy, hky, ?_⟩
     show (if y = s then (0 : Int) else G.e y) = e'
     rw [if_neg e1]; exact hey
   obtain ⟨hfe, hS', a, a1, a2, a3⟩ := hS.del hV hR
   have hd : delE K all k = goneAt all (id sg s) := by unfold delE; rw [hfe]
   refine ⟨?_, .inr ⟨hu, by rw [hd]; exact lenE_goneAt (liv_iff.2 ⟨a, a1, a2⟩)⟩⟩
   rw [hd]
   refine mchg_small hV hM (EChg.del hU a1 a3) hS' ⟨fun y _ hy _ => ⟨?_, rfl⟩, fun y _ hy hl => ⟨?_, rfl⟩⟩
   ·rw [hc] at hy
    split at hy
    ·omega
    ·exact hy
   ·have e1 : y ≠ s := fun e1 => by rw [e1, liv_goneAt, decide_eq_true rfl] at hl; simp at hl
    rw [hc, if_neg e1]; exact hy
 | big db D =>
  have hVb := hV
  obtain ⟨_, hmb, hA, hD, hg40⟩ := hVb
  rcases h.res with ⟨hf, rfl, hu⟩ | ⟨s, hf, rfl, hu⟩
  ·have hd := del_none (k := k) hS hV hf
   refine ⟨?_, .inl ⟨hu, by rw [hd]⟩⟩
   rw [hd]
   exact del_big (T := D.T) hV hcb hM (EChg.refl hU) hS (fun i hi => ⟨⟨rfl, rfl, rfl, rfl⟩, Stay.refl⟩) fun x u h1 h2 h3 h4 h5 => h.rest x u h1 h2 h3 (fun g s e => by rw [hf] at e; cases e) h5
  ·obtain ⟨hs, hfu, hk⟩ := find_spec hf
   obtain ⟨j, hj'⟩ : ∃ j, j = dirIdx D.gd (K.hash k) := ⟨_, rfl⟩
   have hj : j < 2 ^ D.gd := by rw [hj']; exact dirIdx_lt (by omega) (K.lt k)
   have hat : D.at (K.hash k) = D.d j := by rw [hj']; rfl
   have hfm : findM K k (.big db D) = some ((D.tab j).gb, s) := by rw [hj']; simp [findM, hf]
   rw [← hj'] at hs hfu hk hM ⊢
   rw [hat] at hM ⊢
   obtain ⟨b, hb⟩ : ∃ b, b = gone (D.tab j).G (s / 8) := ⟨_, rfl⟩
   have hb128 : 128 ≤ b := by rw [hb]; exact gone_ge
   have hc : ∀ y, ((D.tab j).del s).G.c y = if y = s then b else (D.tab j).G.c y := fun y => by rw [hb]; rfl
   have htab : ∀ i, (D.setT (D.d j) ((D.tab j).del s)).tab i = if D.d i = D.d j then (D.tab j).del s else D.tab i := fun i => D.setT_tab _ _ i
   have eqt : ∀ i, D.d i = D.d j → D.tab i = D.tab j := fun i h => by unfold Dir.tab; rw [h]
   have hR : DelRR K (.big db D) (.big db (D.setT (D.d j) ((D.tab j).del s))) (D.tab j).gb s k := by
    refine ⟨⟨_, _, ⟨j, hj, rfl, hs, hfu, rfl, rfl⟩, hk⟩, fun x y k' e' => ⟨fun hl => ?_, fun ⟨hne, hl⟩ => ?_⟩⟩
    ·obtain ⟨i, hi, hx, hy, hcy, hky, hey⟩ := hl
     rw [htab] at hx hy hcy hky hey
     by_cases hij : D.d i = D.d j
     ·rw [if_pos hij] at hx hy hcy hky hey
      rw [hc] at hcy
      have e1 : y ≠ s := fun e1 => by rw [if_pos e1] at hcy; omega
      rw [if_neg e1] at hcy
      refine ⟨fun h => e1 h.2, j, hj, hx, hy, hcy, hky, ?_⟩
      have : (if y = s then (0 : Int) else (D.tab j).G.e y) = e' := hey
      rw [if_neg e1] at this; exact this
     ·rw [if_neg hij] at hx hy hcy hky hey
      exact ⟨fun h => hij (hD.gbs i j hi hj (hx.symm.trans h.1)), i, hi, hx, hy, hcy, hky, hey⟩
    ·obtain ⟨i, hi, hx, hy, hcy, hky, hey⟩ := hl
     refine ⟨i, hi, ?_, ?_, ?_, ?_, ?_⟩ <;> rw [htab] <;> by_cases hij : D.d i = D.d j
     ·rw [if_pos hij]; show x = (D.tab j).gb; rw [← eqt i hij]; exact hx
     ·rw [if_neg hij]; exact hx
     ·rw [if_pos hij]; show y < 8 * (D.tab j).n; rw [← eqt i hij]; exact hy
     ·rw [if_neg hij]; exact hy
     ·have e1 : y ≠ s := fun e1 => hne ⟨by rw [hx, eqt i hij], e1⟩
      rw [if_pos hij, hc, if_neg e1, ← eqt i hij]; exact hcy
     ·rw [if_neg hij]; exact hcy
     ·rw [if_pos hij]; show (D.tab j).G.k y = k'; rw [← eqt i hij]; exact hky
     ·rw [if_neg hij]; exact hky
     ·have e1 : y ≠ s := fun e1 => hne ⟨by rw [hx, eqt i hij], e1⟩
      rw [if_pos hij]
      show (if y = s then (0 : Int) else (D.tab j).G.e y) = e'
      rw [if_neg e1, ← eqt i hij]; exact hey
     ·rw [if_neg hij]; exact hey
   obtain ⟨hfe, hS', a, a1, a2, a3⟩ := hS.del hV hR
   have hd : delE K all k = goneAt all (id (D.tab j).gb s) := by unfold delE; rw [hfe]
   refine ⟨?_, .inr ⟨hu, by rw [hd]; exact lenE_goneAt (liv_iff.2 ⟨a, a1, a2⟩)⟩⟩
   rw [hd]
   refine del_big hV hcb hM (EChg.del hU a1 a3) hS' (fun i hi => ?_) fun x u h1 h2 h3 h4 h5 => h.rest x u h1 h2 h3 (fun g' s' e => by rw [hfm] at e; cases e; exact h4 j hj) h5
   have hti : (D.setT (D.d j) ((D.tab j).del s)).T (D.d i) = _ := htab i
   have hti' : (if D.d i = D.d j then (D.tab j).del s else D.T (D.d i)) = if D.d i = D.d j then (D.tab j).del s else D.tab i := rfl
   show SameTb (D.tab i) (if D.d i = D.d j then (D.tab j).del s else D.T (D.d i)) ∧ Stay all (goneAt all (id (D.tab j).gb s)) id id (D.tab i).gb (D.tab i).n (D.tab i).G (if D.d i = D.d j then (D.tab j).del s else D.T (D.d i)).G
   rw [hti']
   by_cases hij : D.d i = D.d j
   ·rw [if_pos hij, eqt i hij]
    refine ⟨⟨rfl, rfl, rfl, rfl⟩, fun y _ hy _ => ⟨?_, rfl⟩, fun y _ hy hl => ⟨?_, rfl⟩⟩
    ·rw [hc] at hy
     split at hy
     ·omega
     ·exact hy
    ·have e1 : y ≠ s := fun e1 => by rw [e1, liv_goneAt, decide_eq_true rfl] at hl; simp at hl
     rw [hc, if_neg e1]; exact hy
   ·rw [if_neg hij]
    exact ⟨⟨rfl, rfl, rfl, rfl⟩, fun y _ hy _ => ⟨hy, rfl⟩, fun y _ hy _ => ⟨hy, rfl⟩⟩
end
end
section
/-- An iterator: what she has before her. gs: what she has produced; was: what was there when she began. -/
structure ItI (K : KT) (m : Mp) (V : Mv) (H : Heap) (id : Nat → Nat → Nat) (all : List Ent) (bm bty b : Nat) (it : ItV) (gs : Nat → Bool) (was : List Nat) : Prop where
 blk : H b = some (encIt it)
 typ : it.typ = some ⟨bty, 0, none⟩
 eo : it.eo < 2 ^ 64
 off : it.off < 2 ^ 64
 body : (it.m = none ∧ was = []) ∨ (it.m = some ⟨bm, 0, none⟩ ∧ it.clr ≤ m.clr ∧ (it.clr ≠ m.clr → ∀ j, j ∈ was → liv all j = false) ∧
  ((it.di < 0 ∧ ∃ g G, it.grp = some ⟨g, 0, none⟩ ∧ H g = some (encG 1 G) ∧ it.ei ≤ 8 ∧ RowI K V id all (decide (it.clr = m.clr)) (decide (m.dirLen ≠ 0)) g 1 G ∧ CurI K all id (decide (it.clr = m.clr)) (decide (m.dirLen ≠ 0)) g 1 G it.eo it.ei gs was (fun _ => True)) ∨
   (∃ db D d tab T, V = .big db D ∧ it.di = (d : Nat) ∧ it.tab = tab.map (fun b => ⟨b, 0, none⟩) ∧ it.gd ≤ D.gd ∧ BigI K D V H T id all (decide (it.clr = m.clr)) it.eo gs was (it.off * 2 ^ (64 - it.gd) % 2 ^ 64) (d * 2 ^ (64 - it.gd)) tab it.ei ∧ (tab = none → it.grp = none) ∧ (∀ b, tab = some b → GrpOK (T b) it.eo it.ei it.grp) ∧ it.ei ≤ 2000)))
section
variable {K : KT} {H S : Heap} {bm bty b : Nat} {m m' : Mp} {V V' : Mv} {id id' : Nat → Nat → Nat} {all all' : List Ent} {it : ItV} {gs : Nat → Bool} {was : List Nat}
theorem BTab.heap {D : Dir} {same : Bool} {eo O Di c ei x : Nat} {t : Tb} (hS : ∀ x u, H x = some u → ¬ Plain u → S x = some u) (h : BTab K D V H id all same eo gs was O Di x t c ei) : BTab K D V S id all same eo gs was O Di x t c ei :=
 { h with mt := hS _ _ h.mt (fun hp => hp.2.2.1 rfl), mg := hS _ _ h.mg (fun hp => hp.2.1 rfl) }
theorem BigI.heap {D : Dir} {T : Nat → Tb} {same : Bool} {eo O Di ei : Nat} {tab : Option Nat} (hS : ∀ x u, H x = some u → ¬ Plain u → S x = some u) (h : BigI K D V H T id all same eo gs was O Di tab ei) : BigI K D V S T id all same eo gs was O Di tab ei := by
 obtain ⟨h1, h2, h3⟩ := h
 refine ⟨h1, h2, ?_⟩
 rcases h3 with h3 | h3 | ⟨b, c, h4, h5⟩
 ·exact .inl h3
 ·exact .inr (.inl h3)
 ·exact .inr (.inr ⟨b, c, h4, h5.heap hS⟩)
/-- Other blocks changed. -/
theorem ItI.heap (hS : ∀ x u, H x = some u → ¬ Plain u → S x = some u) (hb : S b = H b) (h : ItI K m V H id all bm bty b it gs was) : ItI K m V S id all bm bty b it gs was := by
 refine ⟨hb.trans h.blk, h.typ, h.eo, h.off, ?_⟩
 rcases h.body with h1 | ⟨h1, h2, h3, h4⟩
 ·exact .inl h1
 ·refine .inr ⟨h1, h2, h3, ?_⟩
  rcases h4 with ⟨h4, g, G, h5, h6, h7⟩ | ⟨db, D, d, tab, T, h5, h6, h7, h8, h9, h10⟩
  ·exact .inl ⟨h4, g, G, h5, hS _ _ h6 (fun hp => hp.2.1 rfl), h7⟩
  ·exact .inr ⟨db, D, d, tab, T, h5, h6, h7, h8, h9.heap hS, h10⟩
/-- A put or a deletion. -/
theorem ItI.chg (hV : MapIs K H bm m V) (hS : Sim K V id all) (hV' : MapIs K S bm m' V') (h : MChg K H S m m' V V' id id' all all') (hclr : m'.clr = m.clr) (hb : S b = H b) (hg : ∀ j, all.length ≤ j → gs j = false) (hw : ∀ j, j ∈ was → j < all.length) (hI : ItI K m V H id all bm bty b it gs was) : ItI K m' V' S id' all' bm bty b it gs was := by
 refine ⟨hb.trans hI.blk, hI.typ, hI.eo, hI.off, ?_⟩
 rcases hI.body with h1 | ⟨h1, h2, h3, h4⟩
 ·exact .inl h1
 ·have hsw : decide (it.clr = m.clr) = false → ∀ j, j ∈ was → liv all j = false := fun e => h3 (of_decide_eq_false e)
  refine .inr ⟨h1, by rw [hclr]; exact h2, fun hne j hj => ?_, ?_⟩
  ·cases hl : liv all' j with
   | false => rfl
   | true => rw [← h3 (by rw [← hclr]; exact hne) j hj]; exact (h.e.liv (hw j hj) hl).symm
  ·rw [hclr]
   rcases h4 with ⟨h4, g, G, h5, h6, h7, h8, h9⟩ | ⟨db, D, d, tab, T, h5, h6, h7, h8, h9, h10, h11, h12⟩
   ·refine .inl ⟨h4, g, ?_⟩
    by_cases hd : m.dirLen = 0
    ·have hdf : decide (m.dirLen ≠ 0) = false := decide_eq_false fun e => e hd
     rw [hdf] at h8 h9
     obtain ⟨G', s1, s2, s3, s4⟩ := h.sm g G (h8.now rfl) hd
     exact ⟨G', h5, s1, h7, h8.chg h.e hS s2 (fun e => s3 (Classical.byContradiction fun hc => by rw [decide_eq_true hc] at e; cases e)) (fun e => s4 (of_decide_eq_true e)), h9.chg h.e hS h8 s2 (by decide) hg hw hsw⟩
    ·have hdt : decide (m.dirLen ≠ 0) = true := decide_eq_true hd
     rw [hdt] at h8 h9
     obtain ⟨s1, s2, s3, s4⟩ := h.st g G h6 (h8.old rfl) hd
     have hdt' : decide (m'.dirLen ≠ 0) = true := decide_eq_true s2
     rw [hdt']
     exact ⟨G, h5, s1, h7, h8.chg h.e hS (.old s4) (by nofun) (fun _ => s3), h9.chg h.e hS h8 (.old s4) (by decide) hg hw hsw⟩
   ·obtain ⟨db', D', e1, hD⟩ := h.dir db D h5
    subst h5
    subst e1
    obtain ⟨T', hB, hT⟩ := h9.chg h.e hS hV.2.2.2.1 hV'.2.2.2.1 hV'.2.2.1 hD hg hw hsw
    refine .inr ⟨db', D', d, tab, T', rfl, h6, h7, Nat.le_trans h8 hD.gd, hB, h10, fun x hx => ?_, h12⟩
    have := h11 x hx
    unfold GrpOK at this ⊢
    rw [(hT x hx).1, (hT x hx).2]; exact this
/-- What is left of a row when no entry is. -/
theorem RowI.dead {same same' grown : Bool} {g n : Nat} {G G' : Gr} (h : RowI K V id all same grown g n G) (hS : SlotsOK K n G') (h1 : grown = false → V'.row g n G' ∧ ∀ s, s < 8 * n → 128 ≤ G'.c s) (h2 : grown = true → G' = G ∧ (∀ n' G'', ¬ V'.row g n' G'') ∧ (same' = true → same = true ∧ ∀ j, liv all j = false)) (ha : ∀ j, liv all' j = false) :
  RowI K V' id all' same' grown g n G' ∧ ∀ s, s < 8 * n → ∀ j, ¬ Tgt K all' id same' grown g G' s j := by
 have hnan : grown = true → same' = true → ∀ s, s < 8 * n → G'.c s < 128 → K.nan (G'.k s) = true → False := fun e1 e2 s hs hf hn => by
  obtain ⟨rfl, _, h3⟩ := h2 e1
  obtain ⟨h4, h5⟩ := h3 e2
  obtain ⟨a, a1, a2, _⟩ := h.nan e1 h4 s hs hf hn
  have := h5 (id g s)
  rw [liv_iff.2 ⟨a, a1, a2⟩] at this; cases this
 refine ⟨⟨hS, fun e => (h1 e).1, fun e => (h2 e).2.1, fun e1 e2 s hs hf hn => (hnan e1 e2 s hs hf hn).elim, fun e1 e2 s t hs _ hf _ hn _ _ => (hnan e1 e2 s hs hf hn).elim⟩, fun s hs j ht => ?_⟩
 obtain ⟨hf, ht⟩ := ht
 rcases ht with ⟨e1, _⟩ | ⟨_, e2⟩ | ⟨e1, e2, e3, _⟩
 ·have := (h1 e1).2 s hs; omega
 ·obtain ⟨a, a1, a2, _⟩ := findE_some e2
  have := ha j
  rw [liv_iff.2 ⟨a, a1, a2⟩] at this; cases this
 ·exact hnan e1 e2 s hs hf e3
theorem CurI.dead {same grown : Bool} {g n : Nat} {G : Gr} {eo ei : Nat} {zone : Nat → Prop} (hn : 0 < n) (h : ∀ s, s < 8 * n → ∀ j, ¬ Tgt K all id same grown g G s j) (ha : ∀ j, liv all j = false) : CurI K all id same grown g n G eo ei gs was zone :=
 ⟨fun y j _ _ ht => absurd ht (h _ (Nat.mod_lt _ (by omega)) j), fun j a h1 h2 _ _ _ => by have := ha j; rw [liv_iff.2 ⟨a, h1, h2⟩] at this; cases this⟩
theorem no_live_of (hS : Sim K V id all) (hno : ∀ g s k e, ¬ V.live g s k e) : ∀ j, liv all j = false := fun j => by
 cases h : liv all j with
 | false => rfl
 | true => obtain ⟨g, s, k, e, l, _⟩ := hS.onto j h; exact absurd l (hno g s k e)
/-- The map cleared. -/
theorem ItI.clear {cb n n' : Nat} (hV : MapIs K H bm m V) (hS : Sim K V id all) (hcb : H cb = some (encI n)) (h : ClearM K H bm cb m V m' V' n' S) (hm : m.clr + 1 < 2 ^ 64) (hb : S b = H b) (ha : ∀ j, liv all' j = false) (hI : ItI K m V H id all bm bty b it gs was) : ItI K m' V' S id all' bm bty b it gs was := by
 have hV' := h.map
 refine ⟨hb.trans hI.blk, hI.typ, hI.eo, hI.off, ?_⟩
 rcases hI.body with h1 | ⟨h1, h2, h3, h4⟩
 ·exact .inl h1
 rcases h.res with ⟨rfl, rfl, rfl, hno⟩ | ⟨hclr, hR⟩
 ·have hdead := no_live_of hS hno
  refine .inr ⟨h1, h2, fun _ j _ => ha j, ?_⟩
  rcases h4 with ⟨h4, g, G, h5, h6, h7, h8, h9⟩ | ⟨db, D, d, tab, T, rfl, h6, h7, h8, ⟨hO, hDi, h9⟩, h10⟩
  ·obtain ⟨x1, x2⟩ := h8.dead (G' := G) (V' := V') (same' := decide (it.clr = m'.clr)) (all' := all') h8.sl (fun e => ⟨h8.now e, fun s hs => Nat.le_of_not_lt fun hf => hno _ _ _ _ (row_live (h8.now e) hs hf)⟩) (fun e => ⟨rfl, h8.old e, fun e2 => ⟨e2, hdead⟩⟩) ha
   exact .inl ⟨h4, g, G, h5, h6, h7, x1, CurI.dead (by decide) x2 ha⟩
  ·refine .inr ⟨db, D, d, tab, T, rfl, h6, h7, h8, ⟨hO, hDi, ?_⟩, h10⟩
   have nb : ∀ (j : Nat) (a : Ent), all'[j]? = some a → a.gone = false → False := fun j a e1 e2 => by have := ha j; rw [liv_iff.2 ⟨a, e1, e2⟩] at this; cases this
   rcases h9 with h9 | ⟨h9, h9', h9''⟩ | ⟨x, c, rfl, hT⟩
   ·exact .inl h9
   ·exact .inr (.inl ⟨h9, h9', h9''.bO, h9''.bp, fun j a e1 e2 => (nb j a e1 e2).elim, fun j a e1 e2 => (nb j a e1 e2).elim⟩)
   ·obtain ⟨p, hp7, hnp⟩ := hT.pow
    have hn0 : 0 < (T x).n := by rw [hnp]; exact Nat.two_pow_pos _
    obtain ⟨x1, x2⟩ := hT.row.dead (G' := (T x).G) (V' := .big db D) (same' := decide (it.clr = m'.clr)) (all' := all') hT.row.sl (fun e => ⟨hT.row.now e, fun s hs => Nat.le_of_not_lt fun hf => hno _ _ _ _ (row_live (hT.row.now e) hs hf)⟩) (fun e => ⟨rfl, hT.row.old e, fun e2 => ⟨e2, hdead⟩⟩) ha
    exact .inr (.inr ⟨x, c, rfl, { hT with row := x1, cur := CurI.dead hn0 x2 ha, b1 := fun j a e1 e2 => (nb j a e1 e2).elim, b2 := fun j a e1 e2 => (nb j a e1 e2).elim }⟩)
 ·have hne : it.clr ≠ m'.clr := by rw [hclr]; omega
  have hsf : decide (it.clr = m'.clr) = false := decide_eq_false hne
  refine .inr ⟨h1, by rw [hclr]; omega, fun _ j _ => ha j, ?_⟩
  rw [hsf]
  have hc : ∀ x n G, H x = some (encG n G) → x ≠ cb := fun x n G h => ne_of_ty h hcb rfl rfl rfl
  rcases h4 with ⟨h4, g, G, h5, h6, h7, h8, h9⟩ | ⟨db, D, d, tab, T, rfl, h6, h7, h8, ⟨hO, hDi, h9⟩, h10, h11, h12⟩
  ·refine .inl ⟨h4, g, ?_⟩
   by_cases hd : m.dirLen = 0
   ·have hdf : decide (m.dirLen ≠ 0) = false := decide_eq_false fun e => e hd
    rw [hdf] at h8
    have hrow := h8.now rfl
    cases V with
    | nil => exact hrow.elim
    | big db D => exact absurd hd hV.big_len
    | small sg G0 =>
     obtain ⟨rfl, _, rfl⟩ := hrow
     obtain ⟨G', rfl, hG'⟩ := hR
     rw [decide_eq_false (fun e => e hV'.small_len)]
     obtain ⟨x1, x2⟩ := h8.dead (G' := G') (V' := .small g G') (same' := false) (all' := all') hV'.2.2.2.2.2.1.1 (fun _ => ⟨⟨rfl, rfl, rfl⟩, fun s hs => Nat.le_of_eq (hG' s (by omega)).symm⟩) (by nofun) ha
     exact ⟨G', h5, hV'.2.2.2.2.1, h7, x1, CurI.dead (by decide) x2 ha⟩
   ·have hdt : decide (m.dirLen ≠ 0) = true := decide_eq_true hd
    rw [hdt] at h8
    have hold := h8.old rfl
    cases V with
    | nil => exact absurd hV.2.1 hd
    | small sg G0 => exact absurd hV.small_len hd
    | big db D =>
     obtain ⟨T, rfl, hT⟩ := hR
     have hA := hV.2.2.1
     rw [decide_eq_true hV'.big_len]
     obtain ⟨x1, x2⟩ := h8.dead (G' := G) (V' := .big db { D with T := T }) (same' := false) (all' := all') h8.sl (by nofun) (fun _ => ⟨rfl, fun n' G'' hr => by
      obtain ⟨i, hi, e1, _⟩ := hr
      have e2 : g = (T (D.d i)).gb := e1
      rw [(hT i hi).1.gb] at e2
      exact hold _ _ ⟨i, hi, e2, rfl, rfl⟩, fun e => by cases e⟩) ha
     refine ⟨G, h5, h.rest _ _ h6 (ne_of_ty h6 hV.cell rfl rfl rfl) (hc _ _ _ h6) (fun g' n' G' hr e => hold _ _ (by rw [e]; exact hr)) (fun ht => ?_), h7, x1, CurI.dead (by decide) x2 ha⟩
     rcases ht with e1 | ⟨i, hi, e1⟩
     ·exact ne_of_ty h6 hA.dir rfl rfl rfl e1
     ·exact ne_of_ty h6 (hA.tabs i hi) rfl rfl rfl e1
  ·obtain ⟨T', rfl, hT'⟩ := hR
   have hA := hV.2.2.1
   have hD := hV.2.2.2.1
   have hD' := hV'.2.2.2.1
   have hA' := hV'.2.2.1
   have nb : ∀ (j : Nat) (a : Ent), all'[j]? = some a → a.gone = false → False := fun j a e1 e2 => by have := ha j; rw [liv_iff.2 ⟨a, e1, e2⟩] at this; cases this
   have hld : ∀ x, x < 2 ^ 64 → (D.T (D.at x)).ld = (T' (D.at x)).ld := fun x hx => ((hT' _ (dirIdx_lt (by have := hD.gd64; omega) hx)).1.ld).symm
   have hbnd : ∀ x, x < 2 ^ 64 → D.bnd x → Dir.bnd { D with T := T' } x := fun x hx h => h.deep (Nat.le_of_eq (hld x hx))
   have hdeep : ∀ ld c : Nat, (∀ x, x < 2 ^ 64 → x / 2 ^ (64 - ld) = c → ld ≤ (D.T (D.at x)).ld) → ∀ x, x < 2 ^ 64 → x / 2 ^ (64 - ld) = c → ld ≤ (T' (D.at x)).ld := fun ld c h x hx hz => by rw [← hld x hx]; exact h x hx hz
   rcases h9 with h9 | ⟨h9, h9', h9''⟩ | ⟨x, c, rfl, hT⟩
   ·exact .inr ⟨db, _, d, tab, T, rfl, h6, h7, h8, ⟨hO, hDi, .inl h9⟩, h10, h11, h12⟩
   ·exact .inr ⟨db, _, d, tab, T, rfl, h6, h7, h8, ⟨hO, hDi, .inr (.inl ⟨h9, h9', hbnd _ hO h9''.bO, fun hl => hbnd _ (Nat.mod_lt _ (by decide)) (h9''.bp hl), fun j a e1 e2 => (nb j a e1 e2).elim, fun j a e1 e2 => (nb j a e1 e2).elim⟩)⟩, h10, h11, h12⟩
   ·obtain ⟨p, hp7, hnp⟩ := hT.pow
    have hn0 : 0 < (T x).n := by rw [hnp]; exact Nat.two_pow_pos _
    by_cases hix : (T x).index = -1
    ·have hdx : decide ((T x).index = -1) = true := decide_eq_true hix
     have hrow := hT.row
     rw [hdx] at hrow
     have hold := hrow.old rfl
     have hmt := hT.mt
     have hmg := hT.mg
     obtain ⟨x1, x2⟩ := hrow.dead (G' := (T x).G) (V' := .big db { D with T := T' }) (same' := false) (all' := all') hrow.sl (by nofun) (fun _ => ⟨rfl, fun n' G'' hr => by
      obtain ⟨i, hi, e1, _⟩ := hr
      have e2 : (T x).gb = (T' (D.d i)).gb := e1
      rw [(hT' i hi).1.gb] at e2
      exact hold _ _ ⟨i, hi, e2, rfl, rfl⟩, fun e => by cases e⟩) ha
     have r1 : S x = some (encT (T x)) := h.rest _ _ hmt (ne_of_ty hmt hV.cell rfl rfl rfl) (ne_of_ty hmt hcb rfl rfl rfl) (fun g' n' G' hr e => ne_of_ty hmt (hV.grs hr) rfl rfl rfl e) (fun ht => by
      rcases ht with e1 | ⟨i, hi, e1⟩
      ·exact ne_of_ty hmt hA.dir rfl rfl rfl e1
      ·exact hT.out hix i hi e1.symm)
     have r2 : S (T x).gb = some (encG (T x).n (T x).G) := h.rest _ _ hmg (ne_of_ty hmg hV.cell rfl rfl rfl) (hc _ _ _ hmg) (fun g' n' G' hr e => hold _ _ (by rw [e]; exact hr)) (fun ht => by
      rcases ht with e1 | ⟨i, hi, e1⟩
      ·exact ne_of_ty hmg hA.dir rfl rfl rfl e1
      ·exact ne_of_ty hmg (hA.tabs i hi) rfl rfl rfl e1)
     exact .inr ⟨db, _, d, _, T, rfl, h6, h7, h8, ⟨hO, hDi, .inr (.inr ⟨x, c, rfl, hbnd _ hO hT.bO, r1, r2, by rw [hdx]; exact x1, hT.pow, hT.cap, fun e => absurd hix e, fun _ => hT.out hix, hT.ld, hT.cl, hT.at_, hT.fit, hT.pre, hdeep _ _ hT.deep, fun e => absurd hix e, by rw [hdx]; exact CurI.dead hn0 x2 ha, fun j a e1 e2 => (nb j a e1 e2).elim, fun j a e1 e2 => (nb j a e1 e2).elim⟩)⟩, h10, h11, h12⟩
    ·obtain ⟨i, hi, e1, e2⟩ := hT.inD hix
     obtain ⟨hs, hemp⟩ := hT' i hi
     rw [e2, e1] at hs
     rw [e1] at hemp
     have hix' : (T' x).index ≠ -1 := by rw [hs.index]; exact hix
     have hdx : decide ((T x).index = -1) = false := decide_eq_false hix
     have hdx' : decide ((T' x).index = -1) = false := decide_eq_false hix'
     have hok := hD'.tok i hi
     have htab : Dir.tab { D with T := T' } i = T' x := by show T' (D.d i) = _; rw [e1]
     rw [htab] at hok
     have hrow := hT.row
     rw [hdx] at hrow
     obtain ⟨x1, x2⟩ := hrow.dead (G' := (T' x).G) (V' := .big db { D with T := T' }) (same' := false) (all' := all') (by rw [← hs.n]; exact hok.sl) (fun _ => ⟨⟨i, hi, by rw [htab, hs.gb], by rw [htab, hs.n], by rw [htab]⟩, fun s hs' => Nat.le_of_eq (hemp s (by rw [hs.n]; exact hs')).symm⟩) (by nofun) ha
     have r1 := hA'.tabs i hi
     have r2 := hA'.grs i hi
     rw [htab] at r1 r2
     have r1' : S x = some (encT (T' x)) := by have r3 : S (D.d i) = some (encT (T' x)) := r1; rw [e1] at r3; exact r3
     refine .inr ⟨db, _, d, _, T', rfl, h6, h7, h8, ⟨hO, hDi, .inr (.inr ⟨x, c, rfl, hbnd _ hO hT.bO, r1', r2, by rw [hdx', hs.gb, hs.n]; exact x1, by rw [hs.n]; exact hT.pow, hok.cap, fun _ => ⟨i, hi, e1, htab⟩, fun e => absurd e hix', by rw [hs.ld]; exact hT.ld, by rw [hs.ld]; exact hT.cl, by rw [hs.ld]; exact hT.at_, by rw [hs.ld]; exact hT.fit, fun s hs' hf => ?_, by rw [hs.ld]; exact hdeep _ _ hT.deep, by rw [hs.ld]; exact fun _ => hT.run hix, by rw [hdx', hs.gb, hs.n, hs.ld]; exact CurI.dead hn0 x2 ha, fun j a e1 e2 => (nb j a e1 e2).elim, fun j a e1 e2 => (nb j a e1 e2).elim⟩)⟩, h10, fun y hy => ?_, h12⟩
     ·have := hemp s hs'; omega
     ·cases hy
      have := h11 x rfl
      unfold GrpOK at this ⊢
      rw [hs.n, hs.gb]; exact this
end
end
section
section
variable {K : KT} {H S : Heap} {bm bty b : Nat} {m : Mp} {V : Mv} {id : Nat → Nat → Nat} {all : List Ent} {it it' : ItV} {gs : Nat → Bool} {was : List Nat}
theorem ItI.init0 (hb : S b = some (encIt { zeroIt with typ := some ⟨bty, 0, none⟩ })) : ItI K m V S id all bm bty b { zeroIt with typ := some ⟨bty, 0, none⟩ } (fun _ => false) [] :=
 ⟨hb, rfl, (by decide : 0 < 2 ^ 64), (by decide : 0 < 2 ^ 64), .inl ⟨rfl, rfl⟩⟩
theorem ItI.init1 (hV : MapIs K S bm m V) (hS : Sim K V id all) (hu : m.used ≠ 0) {r1 r2 : Nat} (h1 : r1 < 2 ^ 64) (h2 : r2 < 2 ^ 64) (hb : S b = some (encIt (initIt bty bm m r1 r2))) : ItI K m V S id all bm bty b (initIt bty bm m r1 r2) (fun _ => false) (wasE all) := by
 refine ⟨hb, rfl, h1, h2, .inr ⟨rfl, Nat.le_refl _, fun h => absurd rfl h, ?_⟩⟩
 have hsame : decide ((initIt bty bm m r1 r2).clr = m.clr) = true := decide_eq_true rfl
 rw [hsame]
 cases V with
 | nil => exact absurd hV.2.2.2.2 hu
 | small sg G =>
  have hd := hV.small_len
  refine .inl ⟨?_, sg, G, ?_, hV.2.2.2.2.1, Nat.zero_le _, ?_, ?_⟩
  ·show (if m.dirLen = 0 then (-1 : Int) else 0) < 0; rw [if_pos hd]; decide
  ·show (if m.dirLen = 0 then m.small else none) = _; rw [if_pos hd]; exact hV.2.2.1
  ·rw [decide_eq_false (fun h => h hd)]
   exact ⟨hV.2.2.2.2.2.1.1, fun _ => ⟨rfl, rfl, rfl⟩, fun e => (by cases e), fun e => (by cases e), fun e => (by cases e)⟩
  ·rw [decide_eq_false (fun h => h hd)]
   refine ⟨fun _ _ _ _ _ => rfl, fun j a ha hg _ _ _ => ?_⟩
   obtain ⟨g, s, k, e, l1, l2⟩ := hS.onto j (liv_iff.2 ⟨a, ha, hg⟩)
   obtain ⟨rfl, hs, hf, _, _⟩ := l1
   obtain ⟨y, y1, y2⟩ := slot_onto (o := r1) (show s < 8 * 1 by omega)
   exact ⟨y, Nat.zero_le _, y1, by show Tgt K all id true false g G ((y + r1) % (8 * 1)) j; rw [y2]; exact ⟨hf, .inl ⟨rfl, l2.symm⟩⟩⟩
 | big db D =>
  have hd := hV.big_len
  have hgd := hV.2.1.gd
  refine .inr ⟨db, D, 0, none, D.T, rfl, ?_, rfl, Nat.le_of_eq hgd, ⟨Nat.mod_lt _ (by decide), by omega, .inl ⟨by omega, rfl, rfl, fun _ => rfl⟩⟩, fun _ => ?_, fun _ h => (by cases h), Nat.zero_le _⟩
  ·show (if m.dirLen = 0 then (-1 : Int) else 0) = _; rw [if_neg hd]; rfl
  ·show (if m.dirLen = 0 then m.small else none) = none; rw [if_neg hd]
/-- What is told of an entry. -/
def TellsE (K : KT) (S : Heap) (all : List Ent) (j : Nat) (ka ea : Addr) : Prop := ∃ g' n' G' s' a, S g' = some (encG n' G') ∧ s' < 8 * n' ∧ G'.ok ∧ ka = ⟨g', 17 * (s' / 8) + 1 + s' % 8, none⟩ ∧ ea = ⟨g', 17 * (s' / 8) + 9 + s' % 8, none⟩ ∧ all[j]? = some a ∧ a.gone = false ∧ a.elem = G'.e s' ∧ K.alike a.key (G'.k s') = true
/-- What an iterator comes to. -/
def NextOut (K : KT) (m : Mp) (V : Mv) (S : Heap) (id : Nat → Nat → Nat) (all : List Ent) (bm bty b : Nat) (it' : ItV) (gs : Nat → Bool) (was : List Nat) : Prop :=
 (it'.key = none ∧ ∀ j, j ∈ was → liv all j = true → gs j = true) ∨
 ∃ ka ea j, it'.key = some ka ∧ it'.elem = some ea ∧ gs j = false ∧ ItI K m V S id all bm bty b it' (flip1 gs j) was ∧ TellsE K S all j ka ea
theorem ItI.nextS (T : Nat → Tb) (hV : MapIs K H bm m V) (hS : Sim K V id all) (hI : ItI K m V H id all bm bty b it gs was) (him : it.m = some ⟨bm, 0, none⟩) (hclr : it.clr ≤ m.clr) (hold : it.clr ≠ m.clr → ∀ j, j ∈ was → liv all j = false) (hdi : it.di < 0) {g : Nat} {G : Gr} (hgr : it.grp = some ⟨g, 0, none⟩) (hg : H g = some (encG 1 G))
  (hR : RowI K V id all (decide (it.clr = m.clr)) (decide (m.dirLen ≠ 0)) g 1 G) (hC : CurI K all id (decide (it.clr = m.clr)) (decide (m.dirLen ≠ 0)) g 1 G it.eo it.ei gs was (fun _ => True)) (hN : NextSmall ⟨K, m, V, H, T⟩ it g G it') (hSb : S b = some (encIt it')) (hrest : ∀ x u, H x = some u → x ≠ b → S x = some u) : NextOut K m V S id all bm bty b it' gs was := by
 obtain ⟨x, hdead, hN⟩ := hN
 have hV' : MapIs K (⟨K, m, V, H, T⟩ : Scene).H bm m V := hV
 have dno : ∀ y, it.ei ≤ y → y < x → ∀ j, ¬ Tgt K all id (decide (it.clr = m.clr)) (decide (m.dirLen ≠ 0)) g G ((y + it.eo) % (8 * 1)) j := fun y h1 h2 j => dead_no (X := ⟨K, m, V, H, T⟩) hV hS hR (hdead y h1 h2) j
 rcases hN with ⟨h8, hle, rfl⟩ | ⟨hlt, hle, ka, ea, htold, rfl⟩
 ·refine .inl ⟨rfl, fun j hj hl => ?_⟩
  cases hgj : gs j with
  | true => rfl
  | false =>
   obtain ⟨a, a1, a2⟩ := liv_iff.1 hl
   obtain ⟨y, y1, y2, y3⟩ := hC.c2 j a a1 a2 hj hgj trivial
   exact absurd y3 (dno y y1 (by omega) j)
 ·have hCx : CurI K all id (decide (it.clr = m.clr)) (decide (m.dirLen ≠ 0)) g 1 G it.eo x gs was (fun _ => True) := by
   refine ⟨fun y j h1 h2 h3 => hC.c1 y j (by omega) h2 h3, fun j a h1 h2 h3 h4 h5 => ?_⟩
   obtain ⟨y, y1, y2, y3⟩ := hC.c2 j a h1 h2 h3 h4 h5
   exact ⟨y, Nat.le_of_not_lt fun hc => dno y y1 hc j y3, y2, y3⟩
  have hm : (x + it.eo) % (8 * 1) < 8 * 1 := Nat.mod_lt _ (by decide)
  obtain ⟨j, hj, g', n', G', s', a, t1, t2, t3, t4, t5, t6, t7, t8, t9⟩ := told_tgt (X := ⟨K, m, V, H, T⟩) hV hS hR hg hm htold
  obtain ⟨q1, q2⟩ := hCx.told hS hR (by omega) hj
  have hS8 : ∀ x u, H x = some u → objTy u ≠ 108 → S x = some u := fun x u hx hu => hrest x u hx fun e => by
   rw [e, hI.blk] at hx; cases hx; exact hu rfl
  exact .inr ⟨ka, ea, j, rfl, rfl, q1, ⟨hSb, hI.typ, hI.eo, hI.off, .inr ⟨him, hclr, hold, .inl ⟨hdi, g, G, hgr, hS8 _ _ hg (by show (149 : Nat) ≠ 108; decide), by show x + 1 ≤ 8; omega, hR, q2⟩⟩⟩, g', n', G', s', a, hS8 _ _ t1 (by show (149 : Nat) ≠ 108; decide), t2, t3, t4, t5, t6, t7, t8, t9⟩
theorem Scene.Steps.off {X : Scene} {same : Bool} {eo : Nat} {p q : Pos} (h : X.Steps same eo p q) (hp : p.off < 2 ^ 64) : q.off < 2 ^ 64 := by
 induction h with
 | refl => exact hp
 | step _ h ih =>
  cases h with
  | resolve => exact Nat.mod_lt _ (by decide)
  | skip => exact ih
  | next => exact ih
  | over => exact ih
theorem BigI.congrT {D : Dir} {T T' : Nat → Tb} {same : Bool} {eo O Di ei : Nat} {tab : Option Nat} (hT : ∀ b, tab = some b → T' b = T b) (h : BigI K D V H T id all same eo gs was O Di tab ei) : BigI K D V H T' id all same eo gs was O Di tab ei := by
 obtain ⟨h1, h2, h3⟩ := h
 refine ⟨h1, h2, ?_⟩
 rcases h3 with h3 | h3 | ⟨b, c, h4, h5⟩
 ·exact .inl h3
 ·exact .inr (.inl h3)
 ·exact .inr (.inr ⟨b, c, h4, by rw [hT b h4]; exact h5⟩)
/-- The tables by their blocks: the map's, and the iterator's own. -/
def scT (D : Dir) (T : Nat → Tb) (tab : Option Nat) : Nat → Tb := fun x => if tab = some x then T x else D.T x
theorem ItI.big {db : Nat} {D : Dir} {d : Nat} {tab : Option Nat} {T : Nat → Tb} (hV : MapIs K H bm m (.big db D)) (hgd : it.gd ≤ D.gd) (hB : BigI K D (.big db D) H T id all (decide (it.clr = m.clr)) it.eo gs was (it.off * 2 ^ (64 - it.gd) % 2 ^ 64) (d * 2 ^ (64 - it.gd)) tab it.ei) (h1 : tab = none → it.grp = none) (h2 : ∀ b, tab = some b → GrpOK (T b) it.eo it.ei it.grp) (h3 : it.ei ≤ 2000) :
  (⟨K, m, .big db D, H, scT D T tab⟩ : Scene).OK ∧ BigP ⟨K, m, .big db D, H, scT D T tab⟩ D id all (decide (it.clr = m.clr)) it.eo gs was (it.pos d D.gd tab) ∧ d ≤ 2 ^ it.gd ∧ (tab ≠ none → d < 2 ^ it.gd) ∧
   ((tab = none ∧ it.ei = 0 ∧ it.grp = none) ∨ ∃ tb, tab = some tb ∧ TabIs ⟨K, m, .big db D, H, scT D T tab⟩ tb ∧ GrpOK (scT D T tab tb) it.eo it.ei it.grp ∧ it.ei ≤ 2000) := by
 have hg40 := hV.2.2.2.2
 have hmb := hV.2.1
 have hg64 : it.gd ≤ 64 := by omega
 have hTt : ∀ b, tab = some b → scT D T tab b = T b := fun b e => if_pos e
 have hp := pow_gd hg64
 have hpos : 0 < 2 ^ (64 - it.gd) := Nat.two_pow_pos _
 have e1 : d * 2 ^ (D.gd - it.gd) * 2 ^ (64 - D.gd) = d * 2 ^ (64 - it.gd) := by rw [Nat.mul_assoc, pow_split hgd (by omega)]
 have e2 : it.off * 2 ^ (D.gd - it.gd) % 2 ^ 64 * 2 ^ (64 - D.gd) % 2 ^ 64 = it.off * 2 ^ (64 - it.gd) % 2 ^ 64 := by
  rw [Nat.mod_mul_mod, Nat.mul_assoc, pow_split hgd (by omega)]
 refine ⟨fun db' D' i hx hi => ?_, ?_, ?_, fun hne => ?_, ?_⟩
 ·cases hx
  show scT D T tab (D.d i) = D.tab i
  by_cases ht : tab = some (D.d i)
  ·rw [hTt _ ht]
   obtain ⟨_, _, hB⟩ := hB
   rcases hB with ⟨_, h, _⟩ | ⟨h, _⟩ | ⟨b, c, h, hT⟩
   ·rw [ht] at h; cases h
   ·rw [ht] at h; cases h
   ·rw [ht] at h; cases h
    by_cases hix : (T (D.d i)).index = -1
    ·exact absurd rfl (hT.out hix i hi)
    ·obtain ⟨i', hi', a, b⟩ := hT.inD hix
     rw [← b]; unfold Dir.tab; rw [a]
  ·exact if_neg ht
 ·show BigI K D (.big db D) H (scT D T tab) id all _ it.eo gs was (it.off * 2 ^ (D.gd - it.gd) % 2 ^ 64 * 2 ^ (64 - D.gd) % 2 ^ 64) (d * 2 ^ (D.gd - it.gd) * 2 ^ (64 - D.gd)) tab it.ei
  rw [e1, e2]
  exact hB.congrT hTt
 ·have := hB.2.1
  rw [← hp] at this
  exact Nat.le_of_mul_le_mul_right this hpos
 ·obtain ⟨_, _, hB⟩ := hB
  rcases hB with ⟨_, h, _⟩ | ⟨h, _⟩ | ⟨b, c, h, hT⟩
  ·exact absurd h hne
  ·exact absurd h hne
  ·have h4 := hT.fit
   have h5 := run_len (ld := (T b).ld)
   have : d * 2 ^ (64 - it.gd) < 2 ^ it.gd * 2 ^ (64 - it.gd) := by omega
   exact Nat.lt_of_mul_lt_mul_right this
 ·obtain ⟨_, _, hB⟩ := hB
  rcases hB with ⟨_, h, h', _⟩ | ⟨h, h', _⟩ | ⟨b, c, h, hT⟩
  ·exact .inl ⟨h, h', h1 h⟩
  ·exact .inl ⟨h, h', h1 h⟩
  ·refine .inr ⟨b, h, ⟨?_, ?_, ?_, ?_, ?_, ?_⟩, by rw [hTt b h]; exact h2 b h, h3⟩ <;> simp only <;> rw [hTt b h]
   ·exact hT.mt
   ·exact hT.mg
   ·exact hT.row.sl
   ·exact hT.pow
   ·exact hT.cap
   ·rw [hmb.gd]; exact hT.ld
theorem ItI.nextB {db : Nat} {D : Dir} {d : Nat} {tab : Option Nat} {T : Nat → Tb} (hV : MapIs K H bm m (.big db D)) (hS : Sim K (.big db D) id all) (hI : ItI K m (.big db D) H id all bm bty b it gs was) (him : it.m = some ⟨bm, 0, none⟩) (hclr : it.clr ≤ m.clr) (hold : it.clr ≠ m.clr → ∀ j, j ∈ was → liv all j = false) (_ : it.gd ≤ D.gd)
  (hok : (⟨K, m, .big db D, H, scT D T tab⟩ : Scene).OK) (hP : BigP ⟨K, m, .big db D, H, scT D T tab⟩ D id all (decide (it.clr = m.clr)) it.eo gs was (it.pos d D.gd tab)) (hN : NextBig ⟨K, m, .big db D, H, scT D T tab⟩ it (it.pos d D.gd tab) it') (hSb : S b = some (encIt it')) (hrest : ∀ x u, H x = some u → x ≠ b → S x = some u) : NextOut K m (.big db D) S id all bm bty b it' gs was := by
 have hg40 := hV.2.2.2.2
 have hmb := hV.2.1
 have hS8 : ∀ x u, H x = some u → objTy u ≠ 108 → S x = some u := fun x u hx hu => hrest x u hx fun e => by
  rw [e, hI.blk] at hx; cases hx; exact hu rfl
 rcases hN with ⟨di, off, grp, hst, hge, rfl⟩ | ⟨di, off, x, ei, ei2, grp, ka, ea, hst, hei, htold, hst2, hgrp, hei2, rfl⟩
 ·refine .inl ⟨rfl, ?_⟩
  have h1 := hP.steps rfl hV hok hS hst
  exact h1.fin (by omega) (by rw [← hmb.gd]; exact hge)
 ·have h1 := hP.steps rfl hV hok hS hst
  obtain ⟨j, hj, h2, g', n', G', s', a, t1, t2, t3, t4, t5, t6⟩ := h1.told (by omega) hV hS hei htold
  have h3 := h2.steps rfl hV hok hS hst2
  have hoff : off < 2 ^ 64 := hst.off (Nat.mod_lt _ (by decide))
  refine .inr ⟨ka, ea, j, rfl, rfl, hj, ⟨hSb, hI.typ, hI.eo, hoff, .inr ⟨him, hclr, hold, .inr ⟨db, D, di, some x, scT D T tab, rfl, rfl, rfl, Nat.le_of_eq hmb.gd, ?_, fun e => (by cases e), fun y e => ?_, hei2⟩⟩⟩, g', n', G', s', a, hS8 _ _ t1 (by show (149 : Nat) ≠ 108; decide), t2, t3, t4, t5, t6⟩
  ·have h4 : BigI K D (.big db D) H (scT D T tab) id all (decide (it.clr = m.clr)) it.eo (flip1 gs j) was (off * 2 ^ (64 - D.gd) % 2 ^ 64) (di * 2 ^ (64 - D.gd)) (some x) ei2 := h3
   show BigI K D (.big db D) S (scT D T tab) id all (decide (it.clr = m.clr)) it.eo (flip1 gs j) was (off * 2 ^ (64 - m.gd) % 2 ^ 64) (di * 2 ^ (64 - m.gd)) (some x) ei2
   rw [hmb.gd]
   exact h4.heap fun x u hx hnp => hS8 x u hx fun e => hnp ⟨by rw [e]; decide, by rw [e]; decide, by rw [e]; decide, by rw [e]; decide⟩
  ·cases e; exact hgrp
end
end
section
/-! ### Calls without a body -/
theorem ext33 (k : Nat) (w : World) : (callFunc 33 #[.int .u64 k]).run Tryz.prog w = .ok (.value (.float .f64 k)) w := by kernel_rfl
theorem ext55 (k : Nat) (w : World) : (callFunc 55 #[.float .f64 k]).run Tryz.prog w = .ok (.value (.int .u64 k)) w := by kernel_rfl
section
variable {P : Program} {ops : Array Oper} {sp br : List Nat} {d : Bool} {w0 : World} {K : Slots → World → Prop} {i : Nat} {rest : List Nat} {Hq H : Heap} {f : Slots}
variable {dst : Tmp} {ty : TypeId} {pos : String} {aft : Array Edge} {g : Option (Nat × Bool)}
theorem rw_ext {k : FuncId} {args : Array Operand} {ats : Array TypeId} {vs : List Value} {v : Value} (ho : ops[i]? = some ⟨some dst, .call ⟨.value (.func k), args, ats⟩, ty, pos, aft, g⟩) (hw : wantedS ops f ⟨some dst, .call ⟨.value (.func k), args, ats⟩, ty, pos, aft, g⟩ = true)
  (hr : ∀ w, (callFunc k vs.toArray).run P w = .ok (.value v) w) (ha : args.toList.map (ev f) = vs) (h : RW P ops sp br d w0 K rest Hq H (f.set dst v)) : RW P ops sp br d w0 K (i :: rest) Hq H f :=
 rw_q ho hw (v := v) (fun _ w _ _ => by
  have e : args.map (ev f) = vs.toArray := by apply Array.toList_inj.1; rw [Array.toList_map, ha]
  simp only [execOp, resolve, ev, Deferred.ofValue, e, bind, pure, Sem.bind, invoke]
  have e2 : #[] ++ vs.toArray ++ #[] = vs.toArray := by simp
  rw [e2]; exact hr w) h
end
/-! ### Equality -/
def feq (a b : Nat) : Bool := FloatKind.f64.format.order a b == some .eq
def fnan (a : Nat) : Bool := decide (9218868437227405312 < a % 9223372036854775808)
def fzero (a : Nat) : Bool := decide (a % 9223372036854775808 = 0)
theorem read_double (a : Nat) : Ieee.double.read a =
  if a % 9223372036854775808 < 4503599627370496 then .number (a / 9223372036854775808 % 2 == 1) (a % 9223372036854775808) (-1074)
  else if a % 9223372036854775808 < 9218868437227405312 then .number (a / 9223372036854775808 % 2 == 1) (4503599627370496 + a % 9223372036854775808 % 4503599627370496) (-1074 + (a % 9223372036854775808 / 4503599627370496 - 1 : Nat))
  else if a % 9223372036854775808 = 9218868437227405312 then .infinity (a / 9223372036854775808 % 2 == 1)
  else .nan (a / 9223372036854775808 % 2 == 1) (a % 9223372036854775808 - 9218868437227405312) := rfl
theorem int_cmp (x y : Int) : (compare x y == Ordering.eq) = decide (x = y) := by
 show (compareOfLessAndEq x y == Ordering.eq) = _
 unfold compareOfLessAndEq
 by_cases h1 : x < y
 ·rw [if_pos h1, decide_eq_false (by omega)]; rfl
 ·rw [if_neg h1]
  by_cases h2 : x = y
  ·rw [if_pos h2, decide_eq_true h2]; rfl
  ·rw [if_neg h2, decide_eq_false h2]; rfl
theorem signed_iff {s t : Bool} {m n u v : Nat} : Ieee.signed s m u = Ieee.signed t n v ↔ m * 2 ^ u = n * 2 ^ v ∧ (s = t ∨ m * 2 ^ u = 0) := by
 unfold Ieee.signed
 rw [Nat.shiftLeft_eq, Nat.shiftLeft_eq]
 generalize m * 2 ^ u = x
 generalize n * 2 ^ v = y
 cases s <;> cases t <;> simp <;> omega
/-- A finite number's parts. -/
def NumOK (r m : Nat) (i : Int) : Prop := (r < 4503599627370496 ∧ m = r ∧ i = -1074) ∨ (4503599627370496 ≤ r ∧ r < 9218868437227405312 ∧ m = 4503599627370496 + r % 4503599627370496 ∧ i = -1074 + ((r / 4503599627370496 - 1 : Nat) : Int))
theorem num_inj {r q m n : Nat} {i j : Int} (h1 : NumOK r m i) (h2 : NumOK q n j) (hij : i ≤ j) (h : m * 2 ^ (i - min i j).toNat = n * 2 ^ (j - min i j).toNat) : r = q := by
 have e1 : (i - min i j).toNat = 0 := by omega
 rw [e1, Nat.pow_zero, Nat.mul_one] at h
 obtain ⟨v, hv⟩ : ∃ v, v = (j - min i j).toNat := ⟨_, rfl⟩
 rw [← hv] at h
 have hvj : (v : Int) = j - i := by omega
 rcases Nat.eq_zero_or_pos v with h0 | h0
 ·subst h0
  rw [Nat.pow_zero, Nat.mul_one] at h
  unfold NumOK at h1 h2
  omega
 ·exfalso
  have h3 : 2 ≤ 2 ^ v := by
   have : 2 ^ 1 ≤ 2 ^ v := Nat.pow_le_pow_right (by decide) h0
   simpa using this
  have h4 : n * 2 ≤ n * 2 ^ v := Nat.mul_le_mul_left n h3
  unfold NumOK at h1 h2
  omega
theorem num_eq {s t : Bool} {r q m n : Nat} {i j : Int} (h1 : NumOK r m i) (h2 : NumOK q n j) : (Ieee.Datum.order (.number s m i) (.number t n j) == some .eq) = true ↔ r = q ∧ (s = t ∨ r = 0) := by
 have e : (Ieee.Datum.order (.number s m i) (.number t n j) == some .eq) = (compare (Ieee.signed s m (i - min i j).toNat) (Ieee.signed t n (j - min i j).toNat) == Ordering.eq) := rfl
 rw [e, int_cmp, decide_eq_true_eq, signed_iff]
 constructor
 ·rintro ⟨h, hs⟩
  have hrq : r = q := by
   rcases Int.le_total i j with hij | hij
   ·exact num_inj h1 h2 hij h
   ·exact (num_inj h2 h1 hij (by rw [Int.min_comm]; exact h.symm)).symm
  refine ⟨hrq, ?_⟩
  rcases hs with hs | hs
  ·exact .inl hs
  ·right
   have hm : m = 0 := by
    rcases Nat.mul_eq_zero.1 hs with h | h
    ·exact h
    ·have := Nat.two_pow_pos (i - min i j).toNat; omega
   unfold NumOK at h1; omega
 ·rintro ⟨rfl, hs⟩
  have hmn : m = n ∧ i = j := by unfold NumOK at h1 h2; omega
  obtain ⟨rfl, rfl⟩ := hmn
  refine ⟨rfl, ?_⟩
  rcases hs with hs | hs
  ·exact .inl hs
  ·right
   have : m = 0 := by unfold NumOK at h1; omega
   rw [this, Nat.zero_mul]
theorem feq_iff (a b : Nat) : feq a b = true ↔ fnan a = false ∧ fnan b = false ∧ (a % 18446744073709551616 = b % 18446744073709551616 ∨ (fzero a = true ∧ fzero b = true)) := by
 have e : feq a b = (Ieee.Datum.order (Ieee.double.read a) (Ieee.double.read b) == some .eq) := rfl
 rw [e, read_double, read_double]
 unfold fnan fzero
 simp only [decide_eq_false_iff_not, decide_eq_true_eq]
 have hsa : ∀ x : Nat, (x / 9223372036854775808 % 2 == 1) = decide (x / 9223372036854775808 % 2 = 1) := fun x => by
  by_cases h : x / 9223372036854775808 % 2 = 1
  ·rw [h]; rfl
  ·rw [decide_eq_false h]; exact beq_false_of_ne h
 by_cases a1 : a % 9223372036854775808 < 4503599627370496
 ·rw [if_pos a1]
  by_cases b1 : b % 9223372036854775808 < 4503599627370496
  ·rw [if_pos b1, num_eq (.inl ⟨a1, rfl, rfl⟩) (.inl ⟨b1, rfl, rfl⟩), hsa, hsa, decide_eq_decide]; omega
  ·rw [if_neg b1]
   by_cases b2 : b % 9223372036854775808 < 9218868437227405312
   ·rw [if_pos b2, num_eq (.inl ⟨a1, rfl, rfl⟩) (.inr ⟨by omega, b2, rfl, rfl⟩), hsa, hsa, decide_eq_decide]; omega
   ·rw [if_neg b2]
    by_cases b3 : b % 9223372036854775808 = 9218868437227405312
    ·rw [if_pos b3]
     constructor
     ·intro h; simp [Ieee.Datum.order] at h; split at h <;> simp at h
     ·intro h; omega
    ·rw [if_neg b3]
     constructor
     ·intro h; simp [Ieee.Datum.order] at h
     ·intro h; omega
 ·rw [if_neg a1]
  by_cases a2 : a % 9223372036854775808 < 9218868437227405312
  ·rw [if_pos a2]
   by_cases b1 : b % 9223372036854775808 < 4503599627370496
   ·rw [if_pos b1, num_eq (.inr ⟨by omega, a2, rfl, rfl⟩) (.inl ⟨b1, rfl, rfl⟩), hsa, hsa, decide_eq_decide]; omega
   ·rw [if_neg b1]
    by_cases b2 : b % 9223372036854775808 < 9218868437227405312
    ·rw [if_pos b2, num_eq (.inr ⟨by omega, a2, rfl, rfl⟩) (.inr ⟨by omega, b2, rfl, rfl⟩), hsa, hsa, decide_eq_decide]; omega
    ·rw [if_neg b2]
     by_cases b3 : b % 9223372036854775808 = 9218868437227405312
     ·rw [if_pos b3]
      constructor
      ·intro h; simp [Ieee.Datum.order] at h; split at h <;> simp at h
      ·intro h; omega
     ·rw [if_neg b3]
      constructor
      ·intro h; simp [Ieee.Datum.order] at h
      ·intro h; omega
  ·rw [if_neg a2]
   by_cases a3 : a % 9223372036854775808 = 9218868437227405312
   ·rw [if_pos a3]
    by_cases b1 : b % 9223372036854775808 < 4503599627370496
    ·rw [if_pos b1]
     constructor
     ·intro h; simp [Ieee.Datum.order] at h; split at h <;> simp at h
     ·intro h; omega
    ·rw [if_neg b1]
     by_cases b2 : b % 9223372036854775808 < 9218868437227405312
     ·rw [if_pos b2]
      constructor
      ·intro h; simp [Ieee.Datum.order] at h; split at h <;> simp at h
      ·intro h; omega
     ·rw [if_neg b2]
      by_cases b3 : b % 9223372036854775808 = 9218868437227405312
      ·rw [if_pos b3, hsa, hsa]
       have h5 : ∀ s t : Bool, (Ieee.Datum.order (.infinity s) (.infinity t) == some .eq) = decide (s = t) := fun s t => by cases s <;> cases t <;> rfl
       rw [h5, decide_eq_true_eq, decide_eq_decide]; omega
      ·rw [if_neg b3]
       constructor
       ·intro h; simp [Ieee.Datum.order] at h
       ·intro h; omega
   ·rw [if_neg a3]
    constructor
    ·intro h; simp [Ieee.Datum.order] at h
    ·intro h; omega
end
end Go.Proofs.YtddpfkcofmfmpaaGreatDoor
