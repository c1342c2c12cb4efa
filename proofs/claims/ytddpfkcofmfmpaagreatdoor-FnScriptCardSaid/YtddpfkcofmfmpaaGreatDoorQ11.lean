/-
  Plain theory: one table of a map is replaced by new ones. Conditions stand in each lemma. Plain theory: what growth and split make of a map's directory. Conditions stand in each lemma. Plain theory: what a split makes of a map's directory. Conditions stand in each lemma. Plain theory: replacements one after the other. Conditions stand in each lemma. A map's states; one table of a map changed in place. Conditions stand in each lemma.
  Conditions stand in each lemma.
-/
import Derived.Test.YtddpfkcofmfmpaaGreatDoorQ10
namespace Go.Proofs.YtddpfkcofmfmpaaGreatDoor
open Go Go.RowKit
set_option maxRecDepth 20000
section
theorem Moved.inv {n : Nat} {G : Gr} {sel : Nat → Bool} {t : Tb} {σ : Nat → Nat} (h : Moved n G sel t σ) : ∃ iv : Nat → Nat, ∀ v, v < 8 * t.n → t.G.c v < 128 → iv v < 8 * n ∧ G.c (iv v) < 128 ∧ sel (iv v) = true ∧ σ (iv v) = v ∧ t.G.k v = G.k (iv v) ∧ t.G.e v = G.e (iv v) := by
 have : ∀ v, ∃ s, v < 8 * t.n → t.G.c v < 128 → s < 8 * n ∧ G.c s < 128 ∧ sel s = true ∧ σ s = v ∧ t.G.k v = G.k s ∧ t.G.e v = G.e s := fun v => by
  by_cases h1 : v < 8 * t.n ∧ t.G.c v < 128
  ·obtain ⟨s, a, b, c, d⟩ := h.onto v h1.1 h1.2
   have := h.into s a b c
   rw [d] at this
   exact ⟨s, fun _ _ => ⟨a, b, c, d, this.2.2.1, this.2.2.2⟩⟩
  ·exact ⟨0, fun a b => absurd ⟨a, b⟩ h1⟩
 exact ⟨fun v => Classical.choose (this v), fun v => Classical.choose_spec (this v)⟩
/-- The entry of the old directory under a new one's. -/
def oldIdx (gd gd' j : Nat) : Nat := j / 2 ^ (gd' - gd)
theorem oldIdx_lt {gd gd' j : Nat} (h : gd ≤ gd') (hj : j < 2 ^ gd') : oldIdx gd gd' j < 2 ^ gd := by
 unfold oldIdx
 rw [Nat.div_lt_iff_lt_mul (Nat.two_pow_pos _), ← Nat.pow_add, show gd + (gd' - gd) = gd' by omega]; exact hj
theorem oldIdx_hash {gd gd' h : Nat} (hg : gd ≤ gd') (h64 : gd' ≤ 64) : oldIdx gd gd' (dirIdx gd' h) = dirIdx gd h := by
 unfold oldIdx dirIdx
 rw [Nat.div_div_eq_div_mul, ← Nat.pow_add, show 64 - gd' + (gd' - gd) = 64 - gd by omega]
theorem oldIdx_onto {gd gd' i : Nat} (h : gd ≤ gd') (hi : i < 2 ^ gd) : i * 2 ^ (gd' - gd) < 2 ^ gd' ∧ oldIdx gd gd' (i * 2 ^ (gd' - gd)) = i := by
 constructor
 ·have : 2 ^ gd' = 2 ^ gd * 2 ^ (gd' - gd) := by rw [← Nat.pow_add, show gd + (gd' - gd) = gd' by omega]
  rw [this]; exact Nat.mul_lt_mul_of_pos_right hi (Nat.two_pow_pos _)
 ·unfold oldIdx; exact Nat.mul_div_cancel _ (Nat.two_pow_pos _)
/-- How a new directory stands to an old one of which table i0 is replaced; iv: where an entry of a new table lay in the old one. -/
structure Repl (H S : Heap) (D D' : Dir) (i0 : Nat) (iv : Nat → Nat → Nat) : Prop where
 lt : i0 < 2 ^ D.gd
 gd : D.gd ≤ D'.gd
 gd64 : D'.gd ≤ 60
 old : ∀ j, j < 2 ^ D'.gd → D.d (oldIdx D.gd D'.gd j) ≠ D.d i0 → D'.d j = D.d (oldIdx D.gd D'.gd j)
 T : ∀ i, i < 2 ^ D.gd → D.d i ≠ D.d i0 → ∃ x : Int, D'.T (D.d i) = { D.T (D.d i) with index := x }
 new : ∀ j, j < 2 ^ D'.gd → D.d (oldIdx D.gd D'.gd j) = D.d i0 → H (D'.d j) = none ∧ H (D'.tab j).gb = none ∧ (D.tab i0).ld ≤ (D'.tab j).ld
 gbs : ∀ j j', j < 2 ^ D'.gd → j' < 2 ^ D'.gd → D.d (oldIdx D.gd D'.gd j) = D.d i0 → D.d (oldIdx D.gd D'.gd j') = D.d i0 → (D'.tab j).gb = (D'.tab j').gb → D'.d j = D'.d j'
 into : ∀ j s, j < 2 ^ D'.gd → D.d (oldIdx D.gd D'.gd j) = D.d i0 → s < 8 * (D'.tab j).n → (D'.tab j).G.c s < 128 → iv (D'.tab j).gb s < 8 * (D.tab i0).n ∧ (D.tab i0).G.c (iv (D'.tab j).gb s) < 128 ∧ (D'.tab j).G.k s = (D.tab i0).G.k (iv (D'.tab j).gb s) ∧ (D'.tab j).G.e s = (D.tab i0).G.e (iv (D'.tab j).gb s)
 inj : ∀ j j' s s', j < 2 ^ D'.gd → j' < 2 ^ D'.gd → D.d (oldIdx D.gd D'.gd j) = D.d i0 → D.d (oldIdx D.gd D'.gd j') = D.d i0 → s < 8 * (D'.tab j).n → s' < 8 * (D'.tab j').n → (D'.tab j).G.c s < 128 → (D'.tab j').G.c s' < 128 → iv (D'.tab j).gb s = iv (D'.tab j').gb s' → (D'.tab j).gb = (D'.tab j').gb ∧ s = s'
 onto : ∀ s, s < 8 * (D.tab i0).n → (D.tab i0).G.c s < 128 → ∃ j s', j < 2 ^ D'.gd ∧ D.d (oldIdx D.gd D'.gd j) = D.d i0 ∧ s' < 8 * (D'.tab j).n ∧ (D'.tab j).G.c s' < 128 ∧ iv (D'.tab j).gb s' = s
 stale : S (D.d i0) = some (encT { D.tab i0 with index := -1 })
open Classical in
/-- Where an entry lay before. -/
noncomputable def Repl.ρ (H : Heap) (D : Dir) (i0 : Nat) (iv : Nat → Nat → Nat) : Nat → Nat → Nat × Nat := fun g s => if H g = none then ((D.tab i0).gb, iv g s) else (g, s)
theorem Repl.tab_old {H S : Heap} {D D' : Dir} {i0 : Nat} {iv : Nat → Nat → Nat} (h : Repl H S D D' i0 iv) {j : Nat} (hj : j < 2 ^ D'.gd) (hne : D.d (oldIdx D.gd D'.gd j) ≠ D.d i0) : ∃ x : Int, D'.tab j = { D.tab (oldIdx D.gd D'.gd j) with index := x } := by
 obtain ⟨x, hx⟩ := h.T _ (oldIdx_lt h.gd hj) hne
 exact ⟨x, by unfold Dir.tab; rw [h.old j hj hne, hx]⟩
theorem Repl.evo {K : KT} {H S : Heap} {D D' : Dir} {i0 : Nat} {iv : Nat → Nat → Nat} (h : Repl H S D D' i0 iv) (hD : D.OK K) (hT : ∀ i, i < 2 ^ D.gd → ∃ u, H (D.d i) = some u) (hG : ∀ i, i < 2 ^ D.gd → ∃ u, H (D.tab i).gb = some u) : Evo H S D D' (Repl.ρ H D i0 iv) := by
 have hgold : ∀ i, i < 2 ^ D.gd → ∀ s, Repl.ρ H D i0 iv (D.tab i).gb s = ((D.tab i).gb, s) := fun i hi s => by
  obtain ⟨u, hu⟩ := hG i hi
  unfold Repl.ρ; rw [if_neg (by rw [hu]; simp)]
 have hgnew : ∀ j, j < 2 ^ D'.gd → D.d (oldIdx D.gd D'.gd j) = D.d i0 → ∀ s, Repl.ρ H D i0 iv (D'.tab j).gb s = ((D.tab i0).gb, iv (D'.tab j).gb s) := fun j hj he s => by
  unfold Repl.ρ; rw [if_pos (h.new j hj he).2.1]
 have hgb0 : ∀ i, i < 2 ^ D.gd → D.d i ≠ D.d i0 → (D.tab i).gb ≠ (D.tab i0).gb := fun i hi hne e => hne (hD.gbs i i0 hi h.lt e)
 refine ⟨h.gd, fun g s k e hl => ?_, fun g s k e g2 s2 k2 e2 ha hb he => ?_, fun g s k e hl => ?_, fun i j s hi hj he => hgold i hi s, fun i hi => ?_, fun j hj => ?_, fun hh hlt => ?_, fun hh hlt hj => ?_⟩
 ·obtain ⟨j, hj, rfl, hs, hf, rfl, rfl⟩ := hl
  by_cases he : D.d (oldIdx D.gd D'.gd j) = D.d i0
  ·rw [hgnew j hj he]
   obtain ⟨a, b, c, d⟩ := h.into j s hj he hs hf
   exact ⟨i0, h.lt, rfl, a, b, c.symm, d.symm⟩
  ·obtain ⟨x, hx⟩ := h.tab_old hj he
   rw [hx] at hs hf ⊢
   rw [hgold _ (oldIdx_lt h.gd hj)]
   exact ⟨_, oldIdx_lt h.gd hj, rfl, hs, hf, rfl, rfl⟩
 ·obtain ⟨j, hj, rfl, hs, hf, _, _⟩ := ha
  obtain ⟨j2, hj2, rfl, hs2, hf2, _, _⟩ := hb
  by_cases h1 : D.d (oldIdx D.gd D'.gd j) = D.d i0 <;> by_cases h2 : D.d (oldIdx D.gd D'.gd j2) = D.d i0
  ·rw [hgnew j hj h1, hgnew j2 hj2 h2] at he
   exact h.inj j j2 s s2 hj hj2 h1 h2 hs hs2 hf hf2 (congrArg Prod.snd he)
  ·obtain ⟨x, hx⟩ := h.tab_old hj2 h2
   rw [hgnew j hj h1, show (D'.tab j2).gb = (D.tab (oldIdx D.gd D'.gd j2)).gb by rw [hx], hgold _ (oldIdx_lt h.gd hj2)] at he
   exact absurd (congrArg Prod.fst he).symm (hgb0 _ (oldIdx_lt h.gd hj2) h2)
  ·obtain ⟨x, hx⟩ := h.tab_old hj h1
   rw [hgnew j2 hj2 h2, show (D'.tab j).gb = (D.tab (oldIdx D.gd D'.gd j)).gb by rw [hx], hgold _ (oldIdx_lt h.gd hj)] at he
   exact absurd (congrArg Prod.fst he) (hgb0 _ (oldIdx_lt h.gd hj) h1)
  ·obtain ⟨x, hx⟩ := h.tab_old hj h1
   obtain ⟨y, hy⟩ := h.tab_old hj2 h2
   have e1 : (D'.tab j).gb = (D.tab (oldIdx D.gd D'.gd j)).gb := by rw [hx]
   have e2 : (D'.tab j2).gb = (D.tab (oldIdx D.gd D'.gd j2)).gb := by rw [hy]
   rw [e1, e2, hgold _ (oldIdx_lt h.gd hj), hgold _ (oldIdx_lt h.gd hj2)] at he
   exact ⟨by rw [e1, e2]; exact congrArg Prod.fst he, congrArg Prod.snd he⟩
 ·obtain ⟨i, hi, rfl, hs, hf, rfl, rfl⟩ := hl
  by_cases he : D.d i = D.d i0
  ·have et : D.tab i = D.tab i0 := by unfold Dir.tab; rw [he]
   rw [et] at hs hf ⊢
   obtain ⟨j, s', hj, hje, hs', hf', hiv⟩ := h.onto s hs hf
   obtain ⟨_, _, hk, hel⟩ := h.into j s' hj hje hs' hf'
   rw [hiv] at hk hel
   exact ⟨_, s', ⟨j, hj, rfl, hs', hf', hk, hel⟩, by rw [hgnew j hj hje, hiv]⟩
  ·obtain ⟨hj, hji⟩ := oldIdx_onto h.gd hi
   have hne : D.d (oldIdx D.gd D'.gd (i * 2 ^ (D'.gd - D.gd))) ≠ D.d i0 := by rw [hji]; exact he
   obtain ⟨x, hx⟩ := h.tab_old hj hne
   rw [hji] at hx
   exact ⟨(D.tab i).gb, s, ⟨_, hj, by rw [hx], by rw [hx]; exact hs, by rw [hx]; exact hf, by rw [hx], by rw [hx]⟩, hgold i hi s⟩
 ·by_cases he : D.d i = D.d i0
  ·have et : D.tab i = D.tab i0 := by unfold Dir.tab; rw [he]
   refine .inr ⟨fun j hj => ?_, by rw [he, et]; exact h.stale⟩
   by_cases h2 : D.d (oldIdx D.gd D'.gd j) = D.d i0
   ·obtain ⟨a, b, _⟩ := h.new j hj h2
    obtain ⟨u, hu⟩ := hT i hi
    obtain ⟨v, hv⟩ := hG i hi
    exact ⟨(fun e => by rw [e, hu] at a; cases a), (fun e => by rw [e, hv] at b; cases b)⟩
   ·obtain ⟨x, hx⟩ := h.tab_old hj h2
    refine ⟨fun e => h2 (by rw [← h.old j hj h2, e, he]), fun e => hgb0 _ (oldIdx_lt h.gd hj) h2 ?_⟩
    rw [hx] at e
    rw [← et]; exact e
  ·obtain ⟨hj, hji⟩ := oldIdx_onto h.gd hi
   have hne : D.d (oldIdx D.gd D'.gd (i * 2 ^ (D'.gd - D.gd))) ≠ D.d i0 := by rw [hji]; exact he
   exact .inl ⟨⟨_, hj, by rw [h.old _ hj hne, hji]⟩, h.T i hi he⟩
 ·by_cases h2 : D.d (oldIdx D.gd D'.gd j) = D.d i0
  ·exact .inr ⟨(h.new j hj h2).1, (h.new j hj h2).2.1⟩
  ·exact .inl ⟨_, oldIdx_lt h.gd hj, h.old j hj h2⟩
 ·have hj := dirIdx_lt (gd := D'.gd) (Nat.le_trans h.gd64 (by decide)) hlt
  have ho := oldIdx_hash (h := hh) h.gd (Nat.le_trans h.gd64 (by decide))
  unfold Dir.at
  by_cases h2 : D.d (oldIdx D.gd D'.gd (dirIdx D'.gd hh)) = D.d i0
  ·have := (h.new _ hj h2).2.2
   rw [ho] at h2
   rw [h2]; exact this
  ·obtain ⟨x, hx⟩ := h.tab_old hj h2
   have : D'.T (D'.d (dirIdx D'.gd hh)) = _ := hx
   rw [this, ho]; exact Nat.le_refl _
 ·obtain ⟨j, hj, ej⟩ := hj
  have hjx := dirIdx_lt (gd := D'.gd) (Nat.le_trans h.gd64 (by decide)) hlt
  have ho := oldIdx_hash (h := hh) h.gd (Nat.le_trans h.gd64 (by decide))
  unfold Dir.at at ej ⊢
  by_cases h2 : D.d (oldIdx D.gd D'.gd (dirIdx D'.gd hh)) = D.d i0
  ·exfalso
   rw [ho] at h2
   rw [h2] at ej
   by_cases h3 : D.d (oldIdx D.gd D'.gd j) = D.d i0
   ·obtain ⟨a, _⟩ := h.new j hj h3
    obtain ⟨u, hu⟩ := hT i0 h.lt
    rw [ej, hu] at a; cases a
   ·exact h3 ((h.old j hj h3).symm.trans ej)
  ·rw [h.old _ hjx h2, ho]
end
theorem cnt_inj {m : Nat} (f : Nat → Nat) : ∀ {n : Nat} {q r : Nat → Bool}, (∀ s, s < n → q s = true → f s < m ∧ r (f s) = true) → (∀ s u, s < n → u < n → q s = true → q u = true → f s = f u → s = u) → cnt q n ≤ cnt r m
 | 0, _, _, _, _ => Nat.zero_le _
 | n + 1, q, r, h, hi => by
  simp only [cnt]
  cases hq : q n with
  | false =>
   have := cnt_inj f (n := n) (q := q) (r := r) (fun s hs => h s (by omega)) (fun s u hs hu => hi s u (by omega) (by omega))
   simp only [Bool.toNat_false]; omega
  | true =>
   obtain ⟨h1, h2⟩ := h n (by omega) hq
   have := cnt_inj f (n := n) (q := q) (r := fun u => r u && !decide (u = f n)) (fun s hs hqs => by
    obtain ⟨a, b⟩ := h s (by omega) hqs
    refine ⟨a, ?_⟩
    have : f s ≠ f n := fun e => by have := hi s n (by omega) (by omega) hqs hq e; omega
    simp [b, this]) (fun s u hs hu => hi s u (by omega) (by omega))
   have h3 := cnt_set (q := fun u => r u && !decide (u = f n)) (r := r) (s := f n) h1 (fun t _ hne => by simp [hne])
   simp [h2] at h3
   simp only [Bool.toNat_true]; omega
theorem run_iff {D : Dir} (h : DirOK D.gd D.d D.T) {i0 j : Nat} (hi : i0 < 2 ^ D.gd) (hj : j < 2 ^ D.gd) : (base D.gd (D.tab i0).ld i0 ≤ j ∧ j < base D.gd (D.tab i0).ld i0 + 2 ^ (D.gd - (D.tab i0).ld)) ↔ D.d j = D.d i0 := by
 constructor
 ·rintro ⟨h1, h2⟩
  exact h.same i0 j hi hj (base_eq h1 h2).symm
 ·intro e
  have h1 := h.inj hj hi e
  have e2 : D.T (D.d j) = D.tab i0 := by unfold Dir.tab; rw [e]
  rw [e2] at h1
  have h2 := base_le D.gd (D.tab i0).ld j
  have h3 := base_lt D.gd (D.tab i0).ld j
  rw [h1] at h2 h3
  exact ⟨h2, h3⟩
theorem Filling.psi {K : KT} {t0 : Tb} {sel : Nat → Bool} {t : Tb} {σ : Nat → Nat} (h : Filling K t0.n t0.G sel t σ) (h0 : TOK K t0) : psi t = t.used ∧ t.used ≤ t0.used := by
 have h2 : cnt (isDel t.G) (8 * t.n) = 0 := cnt_zero fun s hs => by simp [isDel, h.noDel s hs]
 refine ⟨by unfold Go.Proofs.YtddpfkcofmfmpaaGreatDoor.psi; rw [h2]; rfl, ?_⟩
 rw [h.used, h0.used]
 exact cnt_mono fun s _ hs => by simp only [Bool.and_eq_true] at hs; exact hs.1
theorem Filling.cls {K : KT} {n : Nat} {G : Gr} {sel : Nat → Bool} {t : Tb} {σ : Nat → Nat} (h : Filling K n G sel t σ) (c : Nat) : cnt (fun s => isFull t.G s && Nat.beq (K.hash (t.G.k s) / 2 ^ 52) c) (8 * t.n) ≤ cnt (fun s => isFull G s && Nat.beq (K.hash (G.k s) / 2 ^ 52) c) (8 * n) := by
 obtain ⟨iv, hiv⟩ := h.moved.inv
 refine cnt_inj iv (fun s hs hq => ?_) (fun s u hs hu hq hq' e => ?_)
 ·simp only [Bool.and_eq_true, isFull, decide_eq_true_eq] at hq ⊢
  obtain ⟨a, b, _, _, e, _⟩ := hiv s hs hq.1
  refine ⟨a, b, ?_⟩
  rw [← e]; exact hq.2
 ·simp only [Bool.and_eq_true, isFull, decide_eq_true_eq] at hq hq'
  obtain ⟨_, _, _, e1, _⟩ := hiv s hs hq.1
  obtain ⟨_, _, _, e2, _⟩ := hiv u hu hq'.1
  rw [← e1, ← e2, e]
/-- What a replacement makes of the map. -/
structure After (K : KT) (H S : Heap) (bm db : Nat) (m : Mp) (D : Dir) (m' : Mp) (db' : Nat) (D' : Dir) (ρ : Nat → Nat → Nat × Nat) : Prop where
 ok : D'.OK K
 at_ : D'.At S db'
 mb : MpBig m' D' db'
 mp : S bm = some (encM m')
 used : m'.used = m.used ∧ m'.seed = m.seed ∧ m'.wr = m.wr ∧ m'.tomb = m.tomb ∧ m'.clr = m.clr
 evo : Evo H S D D' ρ
 dbn : db' = db ∨ H db' = none
 dbk : ∃ v, S db = some v
 rest : ∀ x u, H x = some u → x ≠ bm → x ≠ db → (∀ i, i < 2 ^ D.gd → x ≠ D.d i) → S x = some u
theorem grown_after {K : KT} {H S : Heap} {bm db i0 : Nat} {m : Mp} {D : Dir} {v : Value} (hD : D.OK K) (hA : D.At H db) (hm : MpBig m D db) (hmp : H bm = some (encM m)) (hi0 : i0 < 2 ^ D.gd)
  (hG : Grown K H (D.d i0) db m (D.tab i0) (fun i => some ⟨D.d i, 0, none⟩) (base m.gd (D.tab i0).ld i0) v S) :
  ∃ D' ρ, After K H S bm db m D m db D' ρ ∧ (∀ N, D.Pot N → D'.Pot N) ∧ (D.Cls K → D'.Cls K) ∧ D'.gd = D.gd ∧ (D'.T (D'.at (0))).n = (D'.T (D'.at 0)).n ∧
   (∀ h, h < 2 ^ 64 → D.at h = D.d i0 → (D'.T (D'.at h)).n = 2 * (D.tab i0).n ∧ (D'.T (D'.at h)).ld = (D.tab i0).ld) ∧ ∀ h, h < 2 ^ 64 → D.at h ≠ D.d i0 → D'.at h = D.at h := by
 obtain ⟨nb, t', σ, _, nnb, nng, hF, hn, hld, hix, hnb, hng, hst, hdb, hrest⟩ := hG
 rw [hm.gd] at hdb
 have hne : ∀ i, i < 2 ^ D.gd → D.d i ≠ nb := fun i hi => ne_of_none nnb (hA.tabs i hi)
 have hgne : ∀ i, i < 2 ^ D.gd → (D.tab i).gb ≠ t'.gb := fun i hi => ne_of_none nng (hA.grs i hi)
 let D' : Dir := ⟨D.gd, fun j => if D.d j = D.d i0 then nb else D.d j, fun b => if b = nb then t' else D.T b⟩
 have dn : ∀ j, D.d j = D.d i0 → D'.d j = nb := fun j e => if_pos e
 have do_ : ∀ j, D.d j ≠ D.d i0 → D'.d j = D.d j := fun j e => if_neg e
 have tn : ∀ j, D.d j = D.d i0 → D'.tab j = t' := fun j e => by unfold Dir.tab; rw [dn j e]; exact if_pos rfl
 have to_ : ∀ j, j < 2 ^ D.gd → D.d j ≠ D.d i0 → D'.tab j = D.tab j := fun j hj e => by unfold Dir.tab; rw [do_ j e]; exact if_neg (hne j hj)
 have hold : ∀ j, oldIdx D.gd D'.gd j = j := fun j => by unfold oldIdx; rw [show D'.gd - D.gd = 0 from Nat.sub_self _]; simp
 obtain ⟨iv, hiv⟩ := hF.moved.inv
 have hR : Repl H S D D' i0 (fun _ s => iv s) := by
  refine ⟨hi0, Nat.le_refl _, hD.gd64, fun j hj he => ?_, fun i hi he => ⟨(D.T (D.d i)).index, if_neg (hne i hi)⟩, fun j hj he => ?_, fun j j' hj hj' he he' _ => ?_, fun j s hj he hs hf => ?_, fun j j' s s' hj hj' he he' hs hs' hf hf' e => ?_, fun s hs hf => ?_, hst⟩
  ·rw [hold] at he ⊢; exact do_ j he
  ·rw [hold] at he; rw [dn j he, tn j he]; exact ⟨nnb, nng, Nat.le_of_eq hld.symm⟩
  ·rw [hold] at he he'; rw [dn j he, dn j' he']
  ·rw [hold] at he; rw [tn j he] at hs hf ⊢
   obtain ⟨a, b, _, _, c, d⟩ := hiv s hs hf
   exact ⟨a, b, c, d⟩
  ·rw [hold] at he he'; rw [tn j he] at hs hf ⊢; rw [tn j' he'] at hs' hf' ⊢
   obtain ⟨_, _, _, a, _⟩ := hiv s hs hf
   obtain ⟨_, _, _, b, _⟩ := hiv s' hs' hf'
   exact ⟨rfl, by rw [← a, ← b, show iv s = iv s' from e]⟩
  ·obtain ⟨a, b, _, _⟩ := hF.moved.into s hs hf rfl
   obtain ⟨c, d, _, e, _⟩ := hiv _ a b
   refine ⟨i0, σ s, hi0, by rw [hold], by rw [tn i0 rfl]; exact a, by rw [tn i0 rfl]; exact b, ?_⟩
   exact hF.moved.inj _ _ c hs d hf rfl rfl e
 have hDO : DirOK D'.gd D'.d D'.T := by
  refine ⟨fun j hj => ?_, fun j hj => ?_, fun i j hi hj e => ?_⟩
  ·show (D'.tab j).ld ≤ D.gd
   by_cases he : D.d j = D.d i0
   ·rw [tn j he, hld]; exact hD.dok.ld i0 hi0
   ·rw [to_ j hj he]; exact hD.dok.ld j hj
  ·show (D'.tab j).index = ((base D.gd (D'.tab j).ld j : Nat) : Int)
   by_cases he : D.d j = D.d i0
   ·rw [tn j he, hix, hld]
    have h1 := hD.dok.idx j hj
    have : D.T (D.d j) = D.tab i0 := by unfold Dir.tab; rw [he]
    rw [this] at h1; exact h1
   ·rw [to_ j hj he]; exact hD.dok.idx j hj
  ·have e' : base D.gd (D'.tab i).ld i = base D.gd (D'.tab i).ld j := e
   by_cases he : D.d i = D.d i0
   ·rw [tn i he, hld] at e'
    have h1 : D.d j = D.d i := hD.dok.same i j hi hj (by
     have : D.T (D.d i) = D.tab i0 := by unfold Dir.tab; rw [he]
     rw [this]; exact e')
    rw [dn i he, dn j (h1.trans he)]
   ·rw [to_ i hi he] at e'
    have h1 : D.d j = D.d i := hD.dok.same i j hi hj e'
    rw [do_ i he, do_ j (by rw [h1]; exact he), h1]
 have hatn : ∀ h, D.at h = D.d i0 → D'.T (D'.at h) = t' := fun h e => tn (dirIdx D.gd h) e
 refine ⟨D', Repl.ρ H D i0 (fun _ s => iv s), ⟨⟨hDO, fun j hj => ?_, fun i j hi hj e => ?_, fun j s hj hs hf => ?_, hD.gd64⟩, ⟨?_, fun j hj => ?_, fun j hj => ?_⟩, ⟨hm.gd, hm.len, hm.gs, hm.small, hm.dirp⟩, ?_, ⟨rfl, rfl, rfl, rfl, rfl⟩, hR.evo hD (fun i hi => ⟨_, hA.tabs i hi⟩) (fun i hi => ⟨_, hA.grs i hi⟩), .inl rfl, ⟨_, hdb⟩, fun x u hx _ h2 h3 => hrest x u hx (h3 i0 hi0) h2⟩, fun N hN j hj => ?_, fun hC j c hj => ?_, rfl, rfl, fun h hh e => ?_, fun h hh e => do_ _ e⟩
 ·by_cases he : D.d j = D.d i0
  ·rw [tn j he]; exact hF.ok
  ·rw [to_ j hj he]; exact hD.tok j hj
 ·by_cases h1 : D.d i = D.d i0 <;> by_cases h2 : D.d j = D.d i0
  ·rw [dn i h1, dn j h2]
  ·rw [tn i h1, to_ j hj h2] at e; exact absurd e.symm (hgne j hj)
  ·rw [tn j h2, to_ i hi h1] at e; exact absurd e (hgne i hi)
  ·rw [to_ i hi h1, to_ j hj h2] at e
   rw [do_ i h1, do_ j h2]; exact hD.gbs i j hi hj e
 ·show D'.d (dirIdx D.gd _) = _
  by_cases he : D.d j = D.d i0
  ·rw [tn j he] at hs hf ⊢
   obtain ⟨a, b, _, _, c, _⟩ := hiv s hs hf
   have h1 := hD.route i0 _ hi0 a b
   rw [c, dn j he, dn _ h1]
  ·rw [to_ j hj he] at hs hf ⊢
   have h1 := hD.route j s hj hs hf
   rw [do_ j he, do_ _ (by rw [h1]; exact he), h1]
 ·rw [hdb, hm.len]
  refine congrArg some (encD_congr fun j hj => ?_)
  have h1 := run_iff hD.dok hi0 hj
  unfold dirSet
  by_cases he : D.d j = D.d i0
  ·rw [dn j he, if_pos (h1.2 he)]
  ·rw [do_ j he, if_neg (fun h => he (h1.1 h))]
 ·by_cases he : D.d j = D.d i0
  ·rw [dn j he, tn j he]; exact hnb
  ·rw [do_ j he, to_ j hj he]
   exact hrest _ _ (hA.tabs j hj) he (ne_of_ty (hA.tabs j hj) hA.dir rfl rfl rfl)
 ·by_cases he : D.d j = D.d i0
  ·rw [tn j he]; exact hng
  ·rw [to_ j hj he]
   exact hrest _ _ (hA.grs j hj) (ne_of_ty (hA.grs j hj) (hA.tabs i0 hi0) rfl rfl rfl) (ne_of_ty (hA.grs j hj) hA.dir rfl rfl rfl)
 ·exact hrest _ _ hmp (ne_of_ty hmp (hA.tabs i0 hi0) rfl rfl rfl) (ne_of_ty hmp hA.dir rfl rfl rfl)
 ·by_cases he : D.d j = D.d i0
  ·rw [tn j he, hld]
   have h1 := hF.psi (hD.tok i0 hi0)
   have h2 := hN i0 hi0
   have h3 : (D.tab i0).used ≤ psi (D.tab i0) := Nat.le_add_right _ _
   omega
  ·rw [to_ j hj he]; exact hN j hj
 ·by_cases he : D.d j = D.d i0
  ·rw [tn j he]; exact Nat.le_trans (hF.cls c) (hC i0 c hi0)
  ·rw [to_ j hj he]; exact hC j c hj
 ·rw [hatn h e]; exact ⟨hn, hld⟩
theorem and_pow0 (x b : Nat) : x &&& 2 ^ b = 0 ↔ x / 2 ^ b % 2 = 0 := by
 have hd := Nat.testBit_eq_decide_div_mod_eq (x := x) (i := b)
 constructor
 ·intro h
  have h1 : (x &&& 2 ^ b).testBit b = false := by rw [h]; simp
  rw [Nat.testBit_and, Nat.testBit_two_pow, decide_eq_true rfl, Bool.and_true] at h1
  rw [h1] at hd
  have := of_decide_eq_false hd.symm
  omega
 ·intro h
  have h1 : x.testBit b = false := by rw [hd]; exact decide_eq_false (by omega)
  apply Nat.eq_of_testBit_eq
  intro k
  rw [Nat.testBit_and, Nat.testBit_two_pow]
  by_cases e : b = k
  ·subst e; rw [h1]; simp
  ·rw [decide_eq_false e]; simp
theorem leftB_iff {K : KT} {ld : Nat} {G : Gr} {s : Nat} (_h : ld ≤ 64) : leftB K ld G s = true ↔ K.hash (G.k s) / 2 ^ (64 - ld) % 2 = 0 := by
 unfold leftB
 rw [nat_beq]; exact and_pow0 _ _
/-- All the hashes in a table have the same first bits. -/
theorem Dir.OK.highbits {K : KT} {D : Dir} (h : D.OK K) {i s : Nat} (hi : i < 2 ^ D.gd) (hs : s < 8 * (D.tab i).n) (hf : (D.tab i).G.c s < 128) : K.hash ((D.tab i).G.k s) / 2 ^ (64 - (D.tab i).ld) = i / 2 ^ (D.gd - (D.tab i).ld) := by
 have h1 := h.route i s hi hs hf
 have hg := h.gd64
 have hl := h.dok.ld i hi
 have hlt := dirIdx_lt (gd := D.gd) (by omega) (K.lt ((D.tab i).G.k s))
 have h2 := h.dok.inj hlt hi h1
 have e : D.T (D.d (dirIdx D.gd (K.hash ((D.tab i).G.k s)))) = D.tab i := by rw [h1]; rfl
 rw [e] at h2
 unfold base at h2
 have h3 := Nat.eq_of_mul_eq_mul_right (Nat.two_pow_pos _) h2
 have h4 : D.T (D.d i) = D.tab i := rfl
 rw [h4] at h3
 rw [← h3]
 unfold dirIdx
 rw [Nat.div_div_eq_div_mul, ← Nat.pow_add, show 64 - D.gd + (D.gd - (D.tab i).ld) = 64 - (D.tab i).ld from by have : (D.tab i).ld ≤ D.gd := hl; omega]
theorem Dir.OK.crowd {K : KT} {D : Dir} (h : D.OK K) (hC : D.Cls K) {i : Nat} (hi : i < 2 ^ D.gd) (hl : 12 ≤ (D.tab i).ld) : (D.tab i).used ≤ 800 := by
 rw [(h.tok i hi).used]
 refine Nat.le_trans (Nat.le_of_eq ?_) (hC i (i / 2 ^ (D.gd - (D.tab i).ld) / 2 ^ ((D.tab i).ld - 12)) hi)
 refine cnt_congr fun s hs => ?_
 by_cases hf : (D.tab i).G.c s < 128
 ·have h1 := h.highbits hi hs hf
  have hg := h.gd64
  have hle : (D.tab i).ld ≤ D.gd := h.dok.ld i hi
  have : K.hash ((D.tab i).G.k s) / 2 ^ 52 = i / 2 ^ (D.gd - (D.tab i).ld) / 2 ^ ((D.tab i).ld - 12) := by
   rw [← h1, Nat.div_div_eq_div_mul, ← Nat.pow_add, show 64 - (D.tab i).ld + ((D.tab i).ld - 12) = 52 by omega]
  simp only [isFull, hf, decide_true, Bool.true_and]
  exact (nat_beq.2 this).symm
 ·simp [isFull, hf]
theorem split_after {K : KT} {H S : Heap} {bm db i0 : Nat} {m : Mp} {D : Dir} {v : Value} (hD : D.OK K) (hA : D.At H db) (hm : MpBig m D db) (hmp : H bm = some (encM m)) (hi0 : i0 < 2 ^ D.gd) (hgd : D.gd ≤ 40) (hgl : (D.tab i0).gl = 0) (h128 : (D.tab i0).n = 128)
  (hS : SplitS K H bm db m D.d D.T i0 v S) :
  ∃ m' db' D' ρ, After K H S bm db m D m' db' D' ρ ∧ (∀ N, D.Cls K → D.Pot N → D'.Pot N) ∧ (D.Cls K → D'.Cls K) ∧ (D'.gd = D.gd ∨ D'.gd = (D.tab i0).ld + 1) ∧
   (∀ h, h < 2 ^ 64 → D.at h = D.d i0 → (D'.T (D'.at h)).n = 128 ∧ (D'.T (D'.at h)).ld = (D.tab i0).ld + 1) ∧ ∀ h, h < 2 ^ 64 → D.at h ≠ D.d i0 → D'.at h = D.at h := by
 obtain ⟨n1, n2, t1, t2, σ1, σ2, db', hS⟩ := hS
 have eT : D.T (D.d i0) = D.tab i0 := rfl
 simp only [eT, hm.gd] at hS
 obtain ⟨_, hn12, hg12, nn1, nn2, ng1, ng2, hF1, hF2, z1, z2, l1, l2, x1, x2, o1, q1, o2, q2, hdp, hdbn, hmp', hdir, htabs, hst, hrest⟩ := hS
 have hld : (D.tab i0).ld ≤ D.gd := hD.dok.ld i0 hi0
 generalize hcc : Nat.beq (D.tab i0).ld D.gd = c at *
 have hcl : c = true → (D.tab i0).ld = D.gd := fun e => nat_beq.1 (hcc.trans e)
 have hcf : c = false → (D.tab i0).ld < D.gd := fun e => by have := nat_beq_f.1 (hcc.trans e); omega
 -- the new depth
 have hgd' : (dblM m db' c).gd = if c then D.gd + 1 else D.gd := by cases c <;> simp [dblM, hm.gd]
 have hlen' : (dblM m db' c).dirLen = 2 ^ (dblM m db' c).gd := by
  cases c
  ·show m.dirLen = 2 ^ m.gd; rw [hm.gd, hm.len]
  ·show 2 * m.dirLen = 2 ^ (m.gd + 1); rw [hm.gd, hm.len, Nat.pow_succ]; omega
 have hgs' : (dblM m db' c).gs = 64 - (dblM m db' c).gd := by
  cases c
  ·show m.gs = 64 - m.gd; rw [hm.gs, hm.gd]
  ·show m.gs - 1 = 64 - (m.gd + 1); rw [hm.gs, hm.gd]; omega
 have hsm' : (dblM m db' c).small = none := by cases c <;> first | exact hm.small | rfl
 generalize hM' : dblM m db' c = m' at *
 have hle : D.gd ≤ m'.gd := by rw [hgd']; split <;> omega
 have hlt' : (D.tab i0).ld + 1 ≤ m'.gd := by
  rw [hgd']
  cases c
  ·have := hcf rfl; simp; omega
  ·simp; omega
 have hgd60 : m'.gd ≤ 60 := by rw [hgd']; split <;> omega
 have hold : ∀ j, oldIdx D.gd m'.gd j = if c then j / 2 else j := fun j => by
  unfold oldIdx; rw [hgd']
  cases c
  ·simp
  ·simp only [if_true]; rw [show D.gd + 1 - D.gd = 1 by omega]
 have hdD : ∀ j, dblD D.d c j = some ⟨D.d (oldIdx D.gd m'.gd j), 0, none⟩ := fun j => by unfold dblD; rw [hold]
 -- the run of the table
 generalize hhalf : 2 ^ (m'.gd - ((D.tab i0).ld + 1)) = half at *
 have hhalf0 : 0 < half := hhalf ▸ Nat.two_pow_pos _
 have hrun2 : 2 ^ (m'.gd - (D.tab i0).ld) = 2 * half := by rw [← hhalf, show m'.gd - (D.tab i0).ld = m'.gd - ((D.tab i0).ld + 1) + 1 by omega, Nat.pow_succ]; omega
 have hbase : ∀ ld j, ld ≤ D.gd → base m'.gd ld j = (if c then 2 * base D.gd ld (j / 2) else base D.gd ld j) := fun ld j hl => by
  rw [hgd']
  cases c
  ·rfl
  ·simp only [if_true]
   unfold base
   rw [show D.gd + 1 - ld = D.gd - ld + 1 by omega, Nat.pow_succ, ← Nat.div_div_eq_div_mul, Nat.div_div_eq_div_mul, Nat.mul_comm (2 ^ (D.gd - ld)) 2, ← Nat.div_div_eq_div_mul, Nat.mul_left_comm]
 have hbaseo : ∀ ld j, ld ≤ D.gd → base m'.gd ld j = (if c then 2 * base D.gd ld (oldIdx D.gd m'.gd j) else base D.gd ld (oldIdx D.gd m'.gd j)) := fun ld j hl => by
  rw [hbase ld j hl, hold]; cases c <;> rfl
 generalize hidx : base m'.gd (D.tab i0).ld (if c then 2 * i0 else i0) = idx at *
 have hidx' : idx = if c then 2 * base D.gd (D.tab i0).ld i0 else base D.gd (D.tab i0).ld i0 := by
  rw [← hidx, hbase _ _ hld]
  cases c
  ·rfl
  ·simp only [if_true]; rw [show 2 * i0 / 2 = i0 by omega]
 have hrun : ∀ j, j < 2 ^ m'.gd → (D.d (oldIdx D.gd m'.gd j) = D.d i0 ↔ base m'.gd (D.tab i0).ld j = idx) := fun j hj => by
  have hoj := oldIdx_lt hle hj
  rw [hbaseo _ _ hld, hidx']
  constructor
  ·intro e
   have h1 := hD.dok.inj hoj hi0 e
   have e2 : D.T (D.d (oldIdx D.gd m'.gd j)) = D.tab i0 := by rw [e]; rfl
   rw [e2, eT] at h1
   rw [h1]
  ·intro e
   refine hD.dok.same i0 _ hi0 hoj ?_
   rw [eT]
   cases c
   ·exact e.symm
   ·simp only [if_true] at e; omega
 have hrunb : ∀ j, j < 2 ^ m'.gd → D.d (oldIdx D.gd m'.gd j) = D.d i0 → idx ≤ j ∧ j < idx + 2 * half := fun j hj e => by
  have h1 := (hrun j hj).1 e
  have h2 := base_le m'.gd (D.tab i0).ld j
  have h3 := base_lt m'.gd (D.tab i0).ld j
  rw [hrun2] at h3; omega
 have hrunc : ∀ j, j < 2 ^ m'.gd → idx ≤ j → j < idx + 2 * half → D.d (oldIdx D.gd m'.gd j) = D.d i0 := fun j hj h1 h2 => by
  refine (hrun j hj).2 ?_
  rw [← hidx] at h1 h2 ⊢
  exact base_eq h1 (by rw [hrun2]; exact h2)
 have hmul : ∃ q, idx = q * (2 * half) := ⟨_, by rw [← hidx, ← hrun2]; rfl⟩
 have hb1 : ∀ j, idx ≤ j → j < idx + half → base m'.gd ((D.tab i0).ld + 1) j = idx := fun j h1 h2 => by
  obtain ⟨q, hq⟩ := hmul
  have e : base m'.gd ((D.tab i0).ld + 1) idx = idx := by
   unfold base; rw [hhalf, hq, show q * (2 * half) = (q * 2) * half by rw [Nat.mul_assoc], Nat.mul_div_cancel _ hhalf0]
  rw [← e] at h1 h2
  have := base_eq h1 (by rw [hhalf]; exact h2)
  rw [this, e]
 have hb2 : ∀ j, idx + half ≤ j → j < idx + 2 * half → base m'.gd ((D.tab i0).ld + 1) j = idx + half := fun j h1 h2 => by
  obtain ⟨q, hq⟩ := hmul
  have e : base m'.gd ((D.tab i0).ld + 1) (idx + half) = idx + half := by
   unfold base; rw [hhalf, hq, show q * (2 * half) + half = (q * 2 + 1) * half by rw [Nat.add_mul, Nat.mul_assoc, Nat.one_mul], Nat.mul_div_cancel _ hhalf0]
  have := base_eq (gd := m'.gd) (ld := (D.tab i0).ld + 1) (i := idx + half) (j := j) (by rw [e]; exact h1) (by rw [e, hhalf]; omega)
  rw [this, e]
 -- the new directory
 let D' : Dir := ⟨m'.gd, fun j => if D.d (oldIdx D.gd m'.gd j) = D.d i0 then (if j < idx + half then n1 else n2) else D.d (oldIdx D.gd m'.gd j), fun b => if b = n1 then t1 else if b = n2 then t2 else dblT (D.T b) c⟩
 have hne1 : ∀ i, i < 2 ^ D.gd → D.d i ≠ n1 := fun i hi => ne_of_none nn1 (hA.tabs i hi)
 have hne2 : ∀ i, i < 2 ^ D.gd → D.d i ≠ n2 := fun i hi => ne_of_none nn2 (hA.tabs i hi)
 have hgne1 : ∀ i, i < 2 ^ D.gd → (D.tab i).gb ≠ t1.gb := fun i hi => ne_of_none ng1 (hA.grs i hi)
 have hgne2 : ∀ i, i < 2 ^ D.gd → (D.tab i).gb ≠ t2.gb := fun i hi => ne_of_none ng2 (hA.grs i hi)
 have d1 : ∀ j, D.d (oldIdx D.gd m'.gd j) = D.d i0 → j < idx + half → D'.d j = n1 := fun j e h => by show (if _ then _ else _) = _; rw [if_pos e, if_pos h]
 have d2 : ∀ j, D.d (oldIdx D.gd m'.gd j) = D.d i0 → ¬ j < idx + half → D'.d j = n2 := fun j e h => by show (if _ then _ else _) = _; rw [if_pos e, if_neg h]
 have do_ : ∀ j, D.d (oldIdx D.gd m'.gd j) ≠ D.d i0 → D'.d j = D.d (oldIdx D.gd m'.gd j) := fun j e => if_neg e
 have tt1 : D'.T n1 = t1 := if_pos rfl
 have tt2 : D'.T n2 = t2 := by show (if _ then _ else _) = _; rw [if_neg hn12.symm, if_pos rfl]
 have tto : ∀ i, i < 2 ^ D.gd → D'.T (D.d i) = dblT (D.T (D.d i)) c := fun i hi => by show (if _ then _ else _) = _; rw [if_neg (hne1 i hi), if_neg (hne2 i hi)]
 have tb1 : ∀ j, D.d (oldIdx D.gd m'.gd j) = D.d i0 → j < idx + half → D'.tab j = t1 := fun j e h => by unfold Dir.tab; rw [d1 j e h, tt1]
 have tb2 : ∀ j, D.d (oldIdx D.gd m'.gd j) = D.d i0 → ¬ j < idx + half → D'.tab j = t2 := fun j e h => by unfold Dir.tab; rw [d2 j e h, tt2]
 have tbo : ∀ j, j < 2 ^ m'.gd → D.d (oldIdx D.gd m'.gd j) ≠ D.d i0 → D'.tab j = dblT (D.tab (oldIdx D.gd m'.gd j)) c := fun j hj e => by unfold Dir.tab; rw [do_ j e, tto _ (oldIdx_lt hle hj)]
 obtain ⟨iv1, hiv1⟩ := hF1.moved.inv
 obtain ⟨iv2, hiv2⟩ := hF2.moved.inv
 -- where a hash of the old table goes
 have hside : ∀ h, h < 2 ^ 64 → D.d (oldIdx D.gd m'.gd (dirIdx m'.gd h)) = D.d i0 → (dirIdx m'.gd h < idx + half ↔ h / 2 ^ (64 - ((D.tab i0).ld + 1)) % 2 = 0) := fun h hh e => by
  have hj := dirIdx_lt (gd := m'.gd) (by omega) hh
  have hb := (hrun _ hj).1 e
  have hu : dirIdx m'.gd h / half = h / 2 ^ (64 - ((D.tab i0).ld + 1)) := by
   unfold dirIdx; rw [← hhalf, Nat.div_div_eq_div_mul, ← Nat.pow_add, show 64 - m'.gd + (m'.gd - ((D.tab i0).ld + 1)) = 64 - ((D.tab i0).ld + 1) by omega]
  rw [← hu]
  have hq : idx = dirIdx m'.gd h / half / 2 * (2 * half) := by
   rw [← hb]; unfold base; rw [hrun2, Nat.div_div_eq_div_mul, Nat.mul_comm half 2]
  generalize dirIdx m'.gd h = j at *
  have h1 := Nat.div_add_mod j half
  have h2 := Nat.mod_lt j hhalf0
  have h3 := Nat.div_add_mod (j / half) 2
  rw [hq]
  generalize j / half = u at *
  have h4 : u / 2 * (2 * half) = half * (2 * (u / 2)) := by rw [Nat.mul_comm, Nat.mul_assoc, Nat.mul_left_comm]
  rw [h4]
  rcases Nat.mod_two_eq_zero_or_one u with hm2 | hm2
  ·refine ⟨fun _ => hm2, fun _ => ?_⟩
   have : u = 2 * (u / 2) := by omega
   rw [← this]; omega
  ·refine ⟨fun hlt => ?_, fun h => by omega⟩
   have : half * u = half * (2 * (u / 2)) + half := by
    have : u = 2 * (u / 2) + 1 := by omega
    calc half * u = half * (2 * (u / 2) + 1) := by rw [← this]
     _ = _ := by rw [Nat.mul_add, Nat.mul_one]
   omega
 have hold0 : ∀ s, s < 8 * (D.tab i0).n → (D.tab i0).G.c s < 128 → D.d (oldIdx D.gd m'.gd (dirIdx m'.gd (K.hash ((D.tab i0).G.k s)))) = D.d i0 := fun s hs hf => by
  rw [oldIdx_hash hle (by omega)]; exact hD.route i0 s hi0 hs hf
 have hR : Repl H S D D' i0 (fun g s => if g = t1.gb then iv1 s else iv2 s) := by
  have i1 : ∀ s, (if t1.gb = t1.gb then iv1 s else iv2 s) = iv1 s := fun s => if_pos rfl
  have i2 : ∀ s, (if t2.gb = t1.gb then iv1 s else iv2 s) = iv2 s := fun s => if_neg hg12.symm
  refine ⟨hi0, hle, hgd60, fun j hj he => do_ j he, fun i hi he => ⟨_, tto i hi⟩, fun j hj he => ?_, fun j j' hj hj' he he' hgg => ?_, fun j s hj he hs hf => ?_, fun j j' s s' hj hj' he he' hs hs' hf hf' e => ?_, fun s hs hf => ?_, hst⟩
  ·by_cases hh : j < idx + half
   ·rw [d1 j he hh, tb1 j he hh]; exact ⟨nn1, ng1, by omega⟩
   ·rw [d2 j he hh, tb2 j he hh]; exact ⟨nn2, ng2, by omega⟩
  ·by_cases hh : j < idx + half <;> by_cases hh' : j' < idx + half
   ·rw [d1 j he hh, d1 j' he' hh']
   ·rw [tb1 j he hh, tb2 j' he' hh'] at hgg; exact absurd hgg hg12
   ·rw [tb2 j he hh, tb1 j' he' hh'] at hgg; exact absurd hgg.symm hg12
   ·rw [d2 j he hh, d2 j' he' hh']
  ·by_cases hh : j < idx + half
   ·rw [tb1 j he hh] at hs hf ⊢
    obtain ⟨a, b, _, _, c, d⟩ := hiv1 s hs hf
    rw [i1]; exact ⟨a, b, c, d⟩
   ·rw [tb2 j he hh] at hs hf ⊢
    obtain ⟨a, b, _, _, c, d⟩ := hiv2 s hs hf
    rw [i2]; exact ⟨a, b, c, d⟩
  ·by_cases hh : j < idx + half <;> by_cases hh' : j' < idx + half
   ·rw [tb1 j he hh] at hs hf e ⊢; rw [tb1 j' he' hh'] at hs' hf' e ⊢
    rw [i1, i1] at e
    obtain ⟨_, _, _, a, _⟩ := hiv1 s hs hf
    obtain ⟨_, _, _, b, _⟩ := hiv1 s' hs' hf'
    exact ⟨rfl, by rw [← a, ← b, e]⟩
   ·rw [tb1 j he hh] at hs hf e; rw [tb2 j' he' hh'] at hs' hf' e
    rw [i1, i2] at e
    obtain ⟨_, _, a, _⟩ := hiv1 s hs hf
    obtain ⟨_, _, b, _⟩ := hiv2 s' hs' hf'
    rw [e] at a; rw [a] at b; cases b
   ·rw [tb2 j he hh] at hs hf e; rw [tb1 j' he' hh'] at hs' hf' e
    rw [i1, i2] at e
    obtain ⟨_, _, a, _⟩ := hiv2 s hs hf
    obtain ⟨_, _, b, _⟩ := hiv1 s' hs' hf'
    rw [← e] at b; rw [b] at a; cases a
   ·rw [tb2 j he hh] at hs hf e ⊢; rw [tb2 j' he' hh'] at hs' hf' e ⊢
    rw [i2, i2] at e
    obtain ⟨_, _, _, a, _⟩ := hiv2 s hs hf
    obtain ⟨_, _, _, b, _⟩ := hiv2 s' hs' hf'
    exact ⟨rfl, by rw [← a, ← b, e]⟩
  ·have hj := dirIdx_lt (gd := m'.gd) (by omega) (K.lt ((D.tab i0).G.k s))
   have he := hold0 s hs hf
   have hsd := hside _ (K.lt _) he
   cases hlb : leftB K ((D.tab i0).ld + 1) (D.tab i0).G s with
   | true =>
    obtain ⟨a, b, _⟩ := hF1.moved.into s hs hf hlb
    obtain ⟨c1, d1', e1, f1, _⟩ := hiv1 _ a b
    have hh := hsd.2 ((leftB_iff (by omega)).1 hlb)
    refine ⟨_, σ1 s, hj, he, by rw [tb1 _ he hh]; exact a, by rw [tb1 _ he hh]; exact b, ?_⟩
    rw [tb1 _ he hh, i1]
    exact hF1.moved.inj _ _ c1 hs d1' hf e1 hlb f1
   | false =>
    obtain ⟨a, b, _⟩ := hF2.moved.into s hs hf (by rw [hlb]; rfl)
    obtain ⟨c1, d1', e1, f1, _⟩ := hiv2 _ a b
    have hh : ¬ _ := fun h => by rw [(leftB_iff (K := K) (G := (D.tab i0).G) (s := s) (ld := (D.tab i0).ld + 1) (by omega)).2 (hsd.1 h)] at hlb; cases hlb
    refine ⟨_, σ2 s, hj, he, by rw [tb2 _ he hh]; exact a, by rw [tb2 _ he hh]; exact b, ?_⟩
    rw [tb2 _ he hh, i2]
    exact hF2.moved.inj _ _ c1 hs d1' hf e1 (by rw [hlb]; rfl) f1
 have hDO : DirOK D'.gd D'.d D'.T := by
  refine ⟨fun j hj => ?_, fun j hj => ?_, fun i j hi hj e => ?_⟩
  ·show (D'.tab j).ld ≤ m'.gd
   by_cases he : D.d (oldIdx D.gd m'.gd j) = D.d i0
   ·by_cases hh : j < idx + half
    ·rw [tb1 j he hh, l1]; exact hlt'
    ·rw [tb2 j he hh, l2]; exact hlt'
   ·rw [tbo j hj he]; exact Nat.le_trans (hD.dok.ld _ (oldIdx_lt hle hj)) hle
  ·show (D'.tab j).index = ((base m'.gd (D'.tab j).ld j : Nat) : Int)
   by_cases he : D.d (oldIdx D.gd m'.gd j) = D.d i0
   ·obtain ⟨r1, r2⟩ := hrunb j hj he
    by_cases hh : j < idx + half
    ·rw [tb1 j he hh, l1, x1, hb1 j r1 hh]
    ·rw [tb2 j he hh, l2, x2, hb2 j (by omega) r2]
   ·rw [tbo j hj he]
    have h1 := hD.dok.idx _ (oldIdx_lt hle hj)
    have h2 : (D.tab (oldIdx D.gd m'.gd j)).ld ≤ D.gd := hD.dok.ld _ (oldIdx_lt hle hj)
    show (if c then 2 * (D.tab (oldIdx D.gd m'.gd j)).index else (D.tab (oldIdx D.gd m'.gd j)).index) = ((base m'.gd (D.tab (oldIdx D.gd m'.gd j)).ld j : Nat) : Int)
    have h3 : (D.tab (oldIdx D.gd m'.gd j)).index = ((base D.gd (D.tab (oldIdx D.gd m'.gd j)).ld (oldIdx D.gd m'.gd j) : Nat) : Int) := h1
    rw [h3, hbaseo _ j h2]
    cases c
    ·rfl
    ·simp only [if_true]; omega
  ·have e' : base m'.gd (D'.tab i).ld i = base m'.gd (D'.tab i).ld j := e
   by_cases he : D.d (oldIdx D.gd m'.gd i) = D.d i0
   ·obtain ⟨r1, r2⟩ := hrunb i hi he
    have b1 := base_le m'.gd ((D.tab i0).ld + 1) j
    have b2 := base_lt m'.gd ((D.tab i0).ld + 1) j
    rw [hhalf] at b2
    by_cases hh : i < idx + half
    ·rw [tb1 i he hh, l1, hb1 i r1 hh] at e'
     rw [← e'] at b1 b2
     rw [d1 i he hh, d1 j (hrunc j hj b1 (by omega)) b2]
    ·rw [tb2 i he hh, l2, hb2 i (by omega) r2] at e'
     rw [← e'] at b1 b2
     rw [d2 i he hh, d2 j (hrunc j hj (by omega) (by omega)) (by omega)]
   ·have h2 : (D.tab (oldIdx D.gd m'.gd i)).ld ≤ D.gd := hD.dok.ld _ (oldIdx_lt hle hi)
    rw [tbo i hi he] at e'
    have e2 : base m'.gd (D.tab (oldIdx D.gd m'.gd i)).ld i = base m'.gd (D.tab (oldIdx D.gd m'.gd i)).ld j := e'
    rw [hbaseo _ i h2, hbaseo _ j h2] at e2
    have h3 := hD.dok.same _ _ (oldIdx_lt hle hi) (oldIdx_lt hle hj) (show base D.gd (D.tab (oldIdx D.gd m'.gd i)).ld (oldIdx D.gd m'.gd i) = base D.gd (D.tab (oldIdx D.gd m'.gd i)).ld (oldIdx D.gd m'.gd j) by
     cases c
     ·exact e2
     ·simp only [if_true] at e2; omega)
    rw [do_ i he, do_ j (by rw [h3]; exact he), h3]
 have hdt : ∀ t : Tb, TOK K t → TOK K (dblT t c) := fun t h => ⟨h.pow, h.cap, h.sl, h.used, h.room⟩
 have hxt : ∀ x u, H x = some u → objTy u = 149 → x ≠ bm ∧ x ≠ db ∧ ∀ i, i < 2 ^ D.gd → x ≠ D.d i := fun x u hx ht => ⟨ne_of_ty hx hmp ht rfl rfl, ne_of_ty hx hA.dir ht rfl rfl, fun i hi => ne_of_ty hx (hA.tabs i hi) ht rfl rfl⟩
 refine ⟨m', db', D', Repl.ρ H D i0 _, ⟨⟨hDO, fun j hj => ?_, fun i j hi hj e => ?_, fun j s hj hs hf => ?_, hgd60⟩, ⟨?_, fun j hj => ?_, fun j hj => ?_⟩, ⟨rfl, hlen', hgs', hsm', hdp⟩, hmp', ?_, hR.evo hD (fun i hi => ⟨_, hA.tabs i hi⟩) (fun i hi => ⟨_, hA.grs i hi⟩), hdbn, ?_, fun x u hx a1 a2 a3 => hrest x u hx a1 (by
   rcases hdbn with h | h
   ·rw [h]; exact a2
   ·exact ne_of_none h hx) a3⟩, fun N hC hN j hj => ?_, fun hC j cc hj => ?_, ?_, fun h hh e => ?_, fun h hh e => ?_⟩
 ·by_cases he : D.d (oldIdx D.gd m'.gd j) = D.d i0
  ·by_cases hh : j < idx + half
   ·rw [tb1 j he hh]; exact hF1.ok
   ·rw [tb2 j he hh]; exact hF2.ok
  ·rw [tbo j hj he]; exact hdt _ (hD.tok _ (oldIdx_lt hle hj))
 ·by_cases h1 : D.d (oldIdx D.gd m'.gd i) = D.d i0 <;> by_cases h2 : D.d (oldIdx D.gd m'.gd j) = D.d i0
  ·exact hR.gbs i j hi hj h1 h2 e
  ·rw [tbo j hj h2] at e
   have e2 : (D'.tab i).gb = (D.tab (oldIdx D.gd m'.gd j)).gb := e
   by_cases hh : i < idx + half
   ·rw [tb1 i h1 hh] at e2; exact absurd e2.symm (hgne1 _ (oldIdx_lt hle hj))
   ·rw [tb2 i h1 hh] at e2; exact absurd e2.symm (hgne2 _ (oldIdx_lt hle hj))
  ·rw [tbo i hi h1] at e
   have e2 : (D.tab (oldIdx D.gd m'.gd i)).gb = (D'.tab j).gb := e
   by_cases hh : j < idx + half
   ·rw [tb1 j h2 hh] at e2; exact absurd e2 (hgne1 _ (oldIdx_lt hle hi))
   ·rw [tb2 j h2 hh] at e2; exact absurd e2 (hgne2 _ (oldIdx_lt hle hi))
  ·rw [tbo i hi h1, tbo j hj h2] at e
   have h3 := hD.gbs _ _ (oldIdx_lt hle hi) (oldIdx_lt hle hj) e
   rw [do_ i h1, do_ j h2, h3]
 ·show D'.d (dirIdx m'.gd _) = _
  by_cases he : D.d (oldIdx D.gd m'.gd j) = D.d i0
  ·by_cases hh : j < idx + half
   ·rw [tb1 j he hh] at hs hf ⊢
    obtain ⟨a, b, hlb, _, k1, _⟩ := hiv1 s hs hf
    have ho := hold0 _ a b
    rw [k1, d1 j he hh, d1 _ ho ((hside _ (K.lt _) ho).2 ((leftB_iff (by omega)).1 hlb))]
   ·rw [tb2 j he hh] at hs hf ⊢
    obtain ⟨a, b, hlb, _, k1, _⟩ := hiv2 s hs hf
    have ho := hold0 _ a b
    rw [k1, d2 j he hh, d2 _ ho (fun h => by
     have := (leftB_iff (K := K) (G := (D.tab i0).G) (s := iv2 s) (ld := (D.tab i0).ld + 1) (by omega)).2 ((hside _ (K.lt _) ho).1 h)
     rw [this] at hlb; cases hlb)]
  ·rw [tbo j hj he] at hs hf ⊢
   have h1 := hD.route _ s (oldIdx_lt hle hj) hs hf
   have h2 : D.d (oldIdx D.gd m'.gd (dirIdx m'.gd (K.hash ((dblT (D.tab (oldIdx D.gd m'.gd j)) c).G.k s)))) = D.d (oldIdx D.gd m'.gd j) := by
    rw [oldIdx_hash hle (by omega)]; exact h1
   rw [do_ j he, do_ _ (by rw [h2]; exact he), h2]
 ·rw [hdir, hlen']
  refine congrArg some (encD_congr fun j hj => ?_)
  unfold dirSet
  by_cases he : D.d (oldIdx D.gd m'.gd j) = D.d i0
  ·obtain ⟨r1, r2⟩ := hrunb j hj he
   by_cases hh : j < idx + half
   ·rw [if_neg (by omega), if_pos ⟨r1, hh⟩, d1 j he hh]
   ·rw [if_pos ⟨by omega, by omega⟩, d2 j he hh]
  ·have hnr : ¬ (idx ≤ j ∧ j < idx + 2 * half) := fun h => he (hrunc j hj h.1 h.2)
   rw [if_neg (by omega), if_neg (by omega), hdD, do_ j he]
 ·by_cases he : D.d (oldIdx D.gd m'.gd j) = D.d i0
  ·by_cases hh : j < idx + half
   ·rw [d1 j he hh, tb1 j he hh]; exact o1
   ·rw [d2 j he hh, tb2 j he hh]; exact o2
  ·rw [do_ j he, tbo j hj he]
   exact htabs _ (oldIdx_lt hle hj) he
 ·by_cases he : D.d (oldIdx D.gd m'.gd j) = D.d i0
  ·by_cases hh : j < idx + half
   ·rw [tb1 j he hh]; exact q1
   ·rw [tb2 j he hh]; exact q2
  ·rw [tbo j hj he]
   have h1 := hA.grs _ (oldIdx_lt hle hj)
   obtain ⟨a1, a2, a3⟩ := hxt _ _ h1 rfl
   have a2 : (D.tab (oldIdx D.gd m'.gd j)).gb ≠ db' := by
    rcases hdbn with h | h
    ·rw [h]; exact a2
    ·exact ne_of_none h h1
   exact hrest _ _ h1 a1 a2 a3
 ·rw [← hM']; cases c <;> exact ⟨rfl, rfl, rfl, rfl, rfl⟩
 ·by_cases h : db = db'
  ·rw [h]; exact ⟨_, hdir⟩
  ·exact ⟨_, hrest _ _ hA.dir (ne_of_ty hA.dir hmp rfl rfl rfl) h (fun i hi => ne_of_ty hA.dir (hA.tabs i hi) rfl rfl rfl)⟩
 ·have h1 := hF1.psi (hD.tok i0 hi0)
  have h2 := hF2.psi (hD.tok i0 hi0)
  have h3 := hN i0 hi0
  have h4 := (hD.tok i0 hi0).room
  rw [hgl, h128] at h4
  have h5 : psi (D.tab i0) = (D.tab i0).used + 2 * cnt (isDel (D.tab i0).G) (8 * 128) := by unfold psi; rw [h128]
  have h6 : 12 ≤ (D.tab i0).ld → (D.tab i0).used ≤ 800 := fun h => hD.crowd hC hi0 h
  by_cases he : D.d (oldIdx D.gd m'.gd j) = D.d i0
  ·by_cases hh : j < idx + half
   ·rw [tb1 j he hh, l1]
    rcases Nat.lt_or_ge (D.tab i0).ld 12 with h | h
    ·omega
    ·have := h6 h; omega
   ·rw [tb2 j he hh, l2]
    rcases Nat.lt_or_ge (D.tab i0).ld 12 with h | h
    ·omega
    ·have := h6 h; omega
  ·rw [tbo j hj he]; exact hN _ (oldIdx_lt hle hj)
 ·by_cases he : D.d (oldIdx D.gd m'.gd j) = D.d i0
  ·by_cases hh : j < idx + half
   ·rw [tb1 j he hh]; exact Nat.le_trans (hF1.cls cc) (hC i0 cc hi0)
   ·rw [tb2 j he hh]; exact Nat.le_trans (hF2.cls cc) (hC i0 cc hi0)
  ·rw [tbo j hj he]; exact hC _ cc (oldIdx_lt hle hj)
 ·show m'.gd = D.gd ∨ m'.gd = (D.tab i0).ld + 1
  rw [hgd']
  cases c
  ·exact .inl rfl
  ·right; rw [hcl rfl]; rfl
 ·have he : D.d (oldIdx D.gd m'.gd (dirIdx m'.gd h)) = D.d i0 := by rw [oldIdx_hash hle (by omega)]; exact e
  have : D'.T (D'.at h) = D'.tab (dirIdx m'.gd h) := rfl
  rw [this]
  by_cases hh : dirIdx m'.gd h < idx + half
  ·rw [tb1 _ he hh]; exact ⟨z1, l1⟩
  ·rw [tb2 _ he hh]; exact ⟨z2, l2⟩
 ·have he : D.d (oldIdx D.gd m'.gd (dirIdx m'.gd h)) = D.at h := by rw [oldIdx_hash hle (by omega)]; rfl
  exact (do_ (dirIdx m'.gd h) (by rw [he]; exact e)).trans he
theorem After.dom {K : KT} {H S : Heap} {bm db : Nat} {m : Mp} {D : Dir} {m' : Mp} {db' : Nat} {D' : Dir} {ρ : Nat → Nat → Nat × Nat} (h : After K H S bm db m D m' db' D' ρ) : ∀ x u, H x = some u → ∃ v, S x = some v := fun x u hx => by
 by_cases h1 : x = bm
 ·subst h1; exact ⟨_, h.mp⟩
 ·by_cases h2 : x = db
  ·subst h2; exact h.dbk
  ·by_cases h3 : ∃ i, i < 2 ^ D.gd ∧ x = D.d i
   ·obtain ⟨i, hi, rfl⟩ := h3
    rcases h.evo.fate i hi with ⟨⟨j, hj, e⟩, _⟩ | ⟨_, hs⟩
    ·have := h.at_.tabs j hj; rw [e] at this; exact ⟨_, this⟩
    ·exact ⟨_, hs⟩
   ·exact ⟨u, h.rest x u hx h1 h2 fun i hi e => h3 ⟨i, hi, e⟩⟩
theorem After.trans {K : KT} {H S S' : Heap} {bm db : Nat} {m : Mp} {D : Dir} {m1 : Mp} {db1 : Nat} {D1 : Dir} {ρ1 : Nat → Nat → Nat × Nat} {m2 : Mp} {db2 : Nat} {D2 : Dir} {ρ2 : Nat → Nat → Nat × Nat} (h1 : After K H S bm db m D m1 db1 D1 ρ1) (h2 : After K S S' bm db1 m1 D1 m2 db2 D2 ρ2) (hD : D.OK K) (hA : D.At H db) :
  After K H S' bm db m D m2 db2 D2 (fun g s => ρ1 (ρ2 g s).1 (ρ2 g s).2) := by
 have none_of : ∀ x, S x = none → H x = none := fun x hx => by
  cases e : H x with
  | none => rfl
  | some u => obtain ⟨v, hv⟩ := h1.dom x u e; rw [hx] at hv; cases hv
 refine ⟨h2.ok, h2.at_, h2.mb, h2.mp, ⟨h2.used.1.trans h1.used.1, h2.used.2.1.trans h1.used.2.1, h2.used.2.2.1.trans h1.used.2.2.1, h2.used.2.2.2.1.trans h1.used.2.2.2.1, h2.used.2.2.2.2.trans h1.used.2.2.2.2⟩, h1.evo.trans h2.evo hD (fun i hi => ⟨_, hA.tabs i hi⟩) (fun i hi => ⟨_, hA.grs i hi⟩) h1.dom (fun i hi hs => ?_), ?_, ?_, fun x u hx a1 a2 a3 => ?_⟩
 ·rcases h1.evo.fate i hi with ⟨⟨j, hj, e⟩, _⟩ | ⟨_, hst⟩
  ·exact absurd e (hs j hj)
  ·rw [hst]
   exact h2.rest _ _ hst (ne_of_ty hst h1.mp rfl rfl rfl) (ne_of_ty hst h1.at_.dir rfl rfl rfl) (fun j hj e => hs j hj e.symm)
 ·rcases h2.dbn with e | e
  ·rcases h1.dbn with e1 | e1
   ·exact .inl (e.trans e1)
   ·exact .inr (by rw [e]; exact e1)
  ·exact .inr (none_of _ e)
 ·obtain ⟨v, hv⟩ := h1.dbk
  exact h2.dom db v hv
 ·have hS := h1.rest x u hx a1 a2 a3
  have x1 : x ≠ db1 := by
   rcases h1.dbn with e | e
   ·rw [e]; exact a2
   ·exact ne_of_none e hx
  refine h2.rest x u hS a1 x1 fun j hj e => ?_
  rcases h1.evo.fresh j hj with ⟨i, hi, e1⟩ | ⟨e1, _⟩
  ·exact a3 i hi (e.trans e1)
  ·rw [← e, hx] at e1; cases e1
theorem After.refl {K : KT} {H : Heap} {bm db : Nat} {m : Mp} {D : Dir} (hD : D.OK K) (hA : D.At H db) (hm : MpBig m D db) (hmp : H bm = some (encM m)) : After K H H bm db m D m db D (fun g s => (g, s)) :=
 ⟨hD, hA, hm, hmp, ⟨rfl, rfl, rfl, rfl, rfl⟩, Evo.refl H hD, .inl rfl, ⟨_, hA.dir⟩, fun _ _ hx _ _ _ => hx⟩
/-- What is kept when a table is replaced, and what a replacement brings nearer. -/
theorem rehashed_after {K : KT} {H S : Heap} {bm db i0 : Nat} {m : Mp} {D : Dir} {v : Value} (hD : D.OK K) (hA : D.At H db) (hm : MpBig m D db) (hmp : H bm = some (encM m)) (hi0 : i0 < 2 ^ D.gd) (hgd : D.gd ≤ 40) (hgl : (D.tab i0).gl = 0)
  (hR : Rehashed K H bm db m D.d D.T i0 v S) : ∃ m' db' D' ρ, After K H S bm db m D m' db' D' ρ ∧ (∀ N, D.Cls K → D.Pot N → D'.Pot N) ∧ (D.Cls K → D'.Cls K) ∧ (D'.gd = D.gd ∨ (D'.gd = (D.tab i0).ld + 1 ∧ (D.tab i0).n = 128)) ∧
   ∀ h, h < 2 ^ 64 → D.at h = D.d i0 → (64 - (D'.T (D'.at h)).ld) * 200 + (128 - (D'.T (D'.at h)).n) < (64 - (D.tab i0).ld) * 200 + (128 - (D.tab i0).n) := by
 have hld : (D.tab i0).ld ≤ D.gd := hD.dok.ld i0 hi0
 have eT : D.T (D.d i0) = D.tab i0 := rfl
 rcases hR with ⟨h64, hG⟩ | ⟨h128, hS⟩
 ·rw [eT] at h64 hG
  obtain ⟨D', ρ, h1, h2, h3, h4, _, h5, _⟩ := grown_after hD hA hm hmp hi0 hG
  refine ⟨m, db, D', ρ, h1, fun N _ => h2 N, h3, .inl h4, fun h hh e => ?_⟩
  obtain ⟨a, b⟩ := h5 h hh e
  have := (hD.tok i0 hi0).npos
  rw [a, b]; omega
 ·rw [eT] at h128
  obtain ⟨m', db', D', ρ, h1, h2, h3, h4, h5, _⟩ := split_after hD hA hm hmp hi0 hgd hgl h128 hS
  refine ⟨m', db', D', ρ, h1, h2, h3, h4.imp id (fun h => ⟨h, h128⟩), fun h hh e => ?_⟩
  obtain ⟨a, b⟩ := h5 h hh e
  rw [a, b, h128]; omega
/-- Where a map's entries lie. -/
inductive Mv
 | nil
 | small (sg : Nat) (G : Gr)
 | big (db : Nat) (D : Dir)
def SmallOK (K : KT) (G : Gr) : Prop := SlotsOK K 1 G ∧ ∀ s, s < 8 * 1 → G.c s ≠ 254
/-- A map in memory. -/
def MapIs (K : KT) (S : Heap) (bm : Nat) (m : Mp) : Mv → Prop
 | .nil => S bm = some (encM m) ∧ m.dirLen = 0 ∧ m.small = none ∧ m.dirp = none ∧ m.used = 0
 | .small sg G => S bm = some (encM m) ∧ m.dirLen = 0 ∧ m.small = some ⟨sg, 0, none⟩ ∧ m.dirp = none ∧ S sg = some (encG 1 G) ∧ SmallOK K G ∧ m.used = cnt (isFull G) 8
 | .big db D => S bm = some (encM m) ∧ MpBig m D db ∧ D.At S db ∧ D.OK K ∧ D.gd ≤ 40
def Mv.live : Mv → Nat → Nat → Nat → Int → Prop
 | .nil, _, _, _, _ => False
 | .small sg G, g, s, k, e => g = sg ∧ s < 8 ∧ G.c s < 128 ∧ G.k s = k ∧ G.e s = e
 | .big _ D, g, s, k, e => D.live g s k e
/-- The blocks of the directory and of the tables' own cells. -/
def Mv.tblk : Mv → Nat → Prop
 | .big db D, x => x = db ∨ ∃ i, i < 2 ^ D.gd ∧ x = D.d i
 | _, _ => False
def Mv.Pot : Mv → Nat → Prop
 | .nil, _ => True
 | .small _ G, N => cnt (isFull G) 8 ≤ N
 | .big _ D, N => D.Pot N
def Mv.Cls (K : KT) : Mv → Prop
 | .big _ D => D.Cls K
 | _ => True
def Dir.setT (D : Dir) (b : Nat) (t : Tb) : Dir := { D with T := fun x => if x = b then t else D.T x }
theorem Dir.setT_tab (D : Dir) (b : Nat) (t : Tb) (i : Nat) : (D.setT b t).tab i = if D.d i = b then t else D.tab i := rfl
/-- A table changed in place: what must be kept. -/
structure SameTb (t t' : Tb) : Prop where
 n : t'.n = t.n
 ld : t'.ld = t.ld
 index : t'.index = t.index
 gb : t'.gb = t.gb
theorem Dir.OK.setT {K : KT} {D : Dir} (h : D.OK K) {j : Nat} (_ : j < 2 ^ D.gd) {t' : Tb} (hs : SameTb (D.tab j) t') (ht : TOK K t') (hr : ∀ s, s < 8 * t'.n → t'.G.c s < 128 → D.at (K.hash (t'.G.k s)) = D.d j) : (D.setT (D.d j) t').OK K := by
 have tj : ∀ i, D.d i = D.d j → (D.setT (D.d j) t').tab i = t' := fun i e => by rw [Dir.setT_tab, if_pos e]
 have to_ : ∀ i, D.d i ≠ D.d j → (D.setT (D.d j) t').tab i = D.tab i := fun i e => by rw [Dir.setT_tab, if_neg e]
 have hld : ∀ i, ((D.setT (D.d j) t').tab i).ld = (D.tab i).ld := fun i => by
  by_cases e : D.d i = D.d j
  ·rw [tj i e, hs.ld]; unfold Dir.tab; rw [e]
  ·rw [to_ i e]
 have hix : ∀ i, ((D.setT (D.d j) t').tab i).index = (D.tab i).index := fun i => by
  by_cases e : D.d i = D.d j
  ·rw [tj i e, hs.index]; unfold Dir.tab; rw [e]
  ·rw [to_ i e]
 have hgb : ∀ i, ((D.setT (D.d j) t').tab i).gb = (D.tab i).gb := fun i => by
  by_cases e : D.d i = D.d j
  ·rw [tj i e, hs.gb]; unfold Dir.tab; rw [e]
  ·rw [to_ i e]
 refine ⟨⟨fun i hi => ?_, fun i hi => ?_, fun i i' hi hi' e => ?_⟩, fun i hi => ?_, fun i i' hi hi' e => ?_, fun i s hi hs' hf => ?_, h.gd64⟩
 ·show ((D.setT (D.d j) t').tab i).ld ≤ D.gd; rw [hld]; exact h.dok.ld i hi
 ·show ((D.setT (D.d j) t').tab i).index = ((base D.gd ((D.setT (D.d j) t').tab i).ld i : Nat) : Int)
  rw [hix, hld]; exact h.dok.idx i hi
 ·have e' : base D.gd ((D.setT (D.d j) t').tab i).ld i = base D.gd ((D.setT (D.d j) t').tab i).ld i' := e
  rw [hld] at e'; exact h.dok.same i i' hi hi' e'
 ·by_cases e : D.d i = D.d j
  ·rw [tj i e]; exact ht
  ·rw [to_ i e]; exact h.tok i hi
 ·rw [hgb, hgb] at e; exact h.gbs i i' hi hi' e
 ·by_cases e : D.d i = D.d j
  ·rw [tj i e] at hs' hf ⊢
   exact (hr s hs' hf).trans e.symm
  ·rw [to_ i e] at hs' hf ⊢; exact h.route i s hi hs' hf
theorem Dir.At.setT {K : KT} {D : Dir} (hD : D.OK K) {H S : Heap} {db : Nat} (h : D.At H db) {j : Nat} (hj : j < 2 ^ D.gd) {t' : Tb} (hs : SameTb (D.tab j) t') (h1 : S (D.d j) = some (encT t')) (h2 : S t'.gb = some (encG t'.n t'.G)) (h3 : ∀ x u, H x = some u → x ≠ t'.gb → x ≠ D.d j → (objTy u = 101 ∨ objTy u = 149 ∨ objTy u = 158) → S x = some u) : (D.setT (D.d j) t').At S db := by
 refine ⟨h3 _ _ h.dir ?_ (ne_of_ty h.dir (h.tabs j hj) rfl rfl rfl) (.inl rfl), fun i hi => ?_, fun i hi => ?_⟩
 ·rw [hs.gb]; exact ne_of_ty h.dir (h.grs j hj) rfl rfl rfl
 ·rw [Dir.setT_tab]
  by_cases e : D.d i = D.d j
  ·rw [if_pos e]; show S (D.d i) = _; rw [e]; exact h1
  ·rw [if_neg e]
   exact h3 _ _ (h.tabs i hi) (by rw [hs.gb]; exact ne_of_ty (h.tabs i hi) (h.grs j hj) rfl rfl rfl) e (.inr (.inr rfl))
 ·rw [Dir.setT_tab]
  by_cases e : D.d i = D.d j
  ·rw [if_pos e]; exact h2
  ·rw [if_neg e]
   exact h3 _ _ (h.grs i hi) (by rw [hs.gb]; exact fun e2 => e (hD.gbs i j hi hj e2)) (ne_of_ty (h.grs i hi) (h.tabs j hj) rfl rfl rfl) (.inr (.inl rfl))
/-- The table of a key. -/
theorem Dir.OK.look {K : KT} {D : Dir} (h : D.OK K) {j k : Nat} (_ : j < 2 ^ D.gd) (ha : D.d j = D.at (K.hash k)) (hf : find K (D.tab j).n (D.tab j).G k = none) : ∀ g s k' e, D.live g s k' e → K.eqk k k' = false := by
 rintro g s k' e ⟨i, hi, rfl, hs, hfl, rfl, rfl⟩
 cases hx : K.eqk k ((D.tab i).G.k s) with
 | false => rfl
 | true =>
  have h1 := K.hash_eq _ _ hx
  have h2 := h.route i s hi hs hfl
  rw [← h1] at h2
  have e : D.d j = D.d i := ha.trans h2
  have et : D.tab j = D.tab i := by unfold Dir.tab; rw [e]
  rw [et] at hf
  rw [find_none_iff hf s hs hfl] at hx; cases hx
/-- What a put leaves: g, s: where the entry lies. -/
def PutR (K : KT) (nu : Bool) (H S : Heap) (m : Mp) (k g s : Nat) (m' : Mp) : Mv → Mv → Prop
 | .nil, V' => H g = none ∧ s < 8 ∧ V' = .small g (emptyGr.put s k 0 (K.hash k % 128)) ∧ m'.used = m.used + 1
 | .small sg G, V' =>
  (find K 1 G k = some s ∧ g = sg ∧ V' = .small sg (if nu then G.setK s k else G) ∧ m'.used = m.used) ∨
  (find K 1 G k = none ∧ g = sg ∧ s < 8 ∧ G.c s = 128 ∧ V' = .small sg (G.put s k (G.e s) (K.hash k % 128)) ∧ m'.used = m.used + 1) ∨
  (find K 1 G k = none ∧ m'.used = m.used + 1 ∧ ∃ db nb t0 t' σ, Filling K 1 G (fun _ => true) t0 σ ∧ t0.ld = 0 ∧ t0.index = 0 ∧ H nb = none ∧ H t0.gb = none ∧ PutOne K t0 k s t' ∧ g = t'.gb ∧ V' = .big db ⟨0, fun _ => nb, fun _ => t'⟩)
 | .big db D, V' =>
  (∃ j, j < 2 ^ D.gd ∧ D.d j = D.at (K.hash k) ∧ find K (D.tab j).n (D.tab j).G k = some s ∧ g = (D.tab j).gb ∧ V' = .big db (D.setT (D.d j) { D.tab j with G := if nu then (D.tab j).G.setK s k else (D.tab j).G }) ∧ m'.used = m.used) ∨
  ((∀ g s k' e, D.live g s k' e → K.eqk k k' = false) ∧ m'.used = m.used + 1 ∧ ∃ db1 D1 ρ j t', Evo H S D D1 ρ ∧ D1.OK K ∧ j < 2 ^ D1.gd ∧ D1.d j = D1.at (K.hash k) ∧ PutOne K (D1.tab j) k s t' ∧ g = t'.gb ∧ V' = .big db1 (D1.setT (D1.d j) t'))
/-- .. all of it. -/
structure PutM (K : KT) (nu : Bool) (H : Heap) (bm : Nat) (m : Mp) (V : Mv) (k N : Nat) (g s : Nat) (m' : Mp) (V' : Mv) (S : Heap) : Prop where
 map : MapIs K S bm m' V'
 res : PutR K nu H S m k g s m' V V'
 same : m'.seed = m.seed ∧ m'.wr = m.wr ∧ m'.tomb = m.tomb ∧ m'.clr = m.clr
 pot : V'.Pot (N + 1)
 rest : ∀ x u, H x = some u → x ≠ bm → x ≠ g → ¬ V.tblk x → S x = some u
theorem PutOne.psi {K : KT} {t t' : Tb} {k s : Nat} (h : PutOne K t k s t') (ht : TOK K t) : psi t' ≤ psi t + 1 := by
 have h1 := h.ok.room
 have h2 := ht.room
 have h3 := h.used
 have h4 := h.gl
 have h5 := h.n
 unfold Go.Proofs.YtddpfkcofmfmpaaGreatDoor.psi
 rw [h5] at h1 ⊢
 omega
theorem Pot.setT {D : Dir} {N j : Nat} {t' : Tb} (h : D.Pot N) (hj : j < 2 ^ D.gd) (hl : t'.ld = (D.tab j).ld) (hp : psi t' ≤ psi (D.tab j) + 1) : (D.setT (D.d j) t').Pot (N + 1) := fun i hi => by
 rw [Dir.setT_tab]
 split
 ·have := h j hj; rw [hl]; omega
 ·have := h i hi; omega
theorem PutOne.same {K : KT} {t t' : Tb} {k s : Nat} (h : PutOne K t k s t') : SameTb t t' := ⟨h.n, h.ld, h.index, h.gb⟩
theorem PutOne.route {K : KT} {D : Dir} (hD : D.OK K) {j k s : Nat} {t' : Tb} (hj : j < 2 ^ D.gd) (ha : D.d j = D.at (K.hash k)) (h : PutOne K (D.tab j) k s t') : ∀ u, u < 8 * t'.n → t'.G.c u < 128 → D.at (K.hash (t'.G.k u)) = D.d j := fun u hu hf => by
 rw [h.key]
 by_cases e : u = s
 ·rw [if_pos e]; exact ha.symm
 ·rw [if_neg e]
  have hf' := ((h.full u).1 hf).resolve_right e
  exact hD.route j u hj (by rw [← h.n]; exact hu) hf'
end Go.Proofs.YtddpfkcofmfmpaaGreatDoor
