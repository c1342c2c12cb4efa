/-
  Plain theory: what an iterator has before her when the map changes. Conditions stand in each lemma. Plain theory: the map and the reference's map when a key is put, removed, or all are cleared. Conditions stand in each lemma. Plain theory: what a put does to the map beside the reference's, and to what iterators have before them. Conditions stand in each lemma. Plain theory: a put in a map with tables. Conditions stand in each lemma. Plain theory: an entry more in a map with tables, some of them replaced. Conditions stand in each lemma.
  Conditions stand in each lemma.
-/
import Derived.Test.YtddpfkcofmfmpaaGreatDoorQ18
namespace Go.Proofs.YtddpfkcofmfmpaaGreatDoor
open Go Go.RowKit
set_option maxRecDepth 20000
section
/-- How the reference's entries change: old ones keep their keys; those that cannot be found stay. -/
structure EChg (K : KT) (all all' : List Ent) : Prop where
 uni : Uni K all
 uni' : Uni K all'
 len : all.length ≤ all'.length
 keep : ∀ (j : Nat) (a' : Ent), j < all.length → all'[j]? = some a' → a'.gone = false → ∃ a, all[j]? = some a ∧ a.gone = false ∧ a.key = a'.key
 nan : ∀ (j : Nat) (a : Ent), all[j]? = some a → a.gone = false → K.nan a.key = true → all'[j]? = some a
theorem EChg.liv {K : KT} {all all' : List Ent} (h : EChg K all all') {j : Nat} (hj : j < all.length) (hl : liv all' j = true) : liv all j = true := by
 obtain ⟨a', h1, h2⟩ := liv_iff.1 hl
 obtain ⟨a, a1, a2, _⟩ := h.keep j a' hj h1 h2
 exact liv_iff.2 ⟨a, a1, a2⟩
theorem EChg.find_back {K : KT} {all all' : List Ent} (h : EChg K all all') {k j : Nat} (hf : findE K all' k = some j) (hj : j < all.length) : findE K all k = some j := by
 obtain ⟨a', h1, h2, h3⟩ := findE_some hf
 obtain ⟨a, a1, a2, a3⟩ := h.keep j a' hj h1 h2
 exact findE_of h.uni a1 a2 (by rw [a3]; exact h3)
theorem EChg.find_fwd {K : KT} {all all' : List Ent} (h : EChg K all all') {k j : Nat} (hf : findE K all k = some j) (hl : Go.Proofs.YtddpfkcofmfmpaaGreatDoor.liv all' j = true) : findE K all' k = some j := by
 obtain ⟨a, a1, a2, a3⟩ := findE_some hf
 obtain ⟨a', h1, h2⟩ := liv_iff.1 hl
 obtain ⟨b, b1, b2, b3⟩ := h.keep j a' (List.getElem?_eq_some_iff.1 a1).1 h1 h2
 rw [a1] at b1; cases b1
 exact findE_of h.uni' h1 h2 (by rw [← b3]; exact a3)
/-- How a row changes. -/
structure Stay (all all' : List Ent) (id id' : Nat → Nat → Nat) (g n : Nat) (G G' : Gr) : Prop where
 back : ∀ s, s < 8 * n → G'.c s < 128 → id' g s < all.length → G.c s < 128 ∧ id' g s = id g s
 fwd : ∀ s, s < 8 * n → G.c s < 128 → liv all' (id g s) = true → G'.c s < 128 ∧ id' g s = id g s
inductive RowChg (all all' : List Ent) (id id' : Nat → Nat → Nat) (g n : Nat) : Bool → Gr → Bool → Gr → Prop
 | stay {G G' : Gr} : Stay all all' id id' g n G G' → RowChg all all' id id' g n false G false G'
 | stale {G : Gr} : (∀ s, id' g s = id g s) → RowChg all all' id id' g n false G true G
 | old {G : Gr} : (∀ s, id' g s = id g s) → RowChg all all' id id' g n true G true G
section
variable {K : KT} {V V' : Mv} {id id' : Nat → Nat → Nat} {all all' : List Ent} {same grown grown' : Bool} {g n : Nat} {G G' : Gr}
theorem Tgt.back (hE : EChg K all all') (hS : Sim K V id all) (hR : RowI K V id all same grown g n G) (h : RowChg all all' id id' g n grown G grown' G') {s j : Nat} (hs : s < 8 * n) (ht : Tgt K all' id' same grown' g G' s j) (hj : j < all.length) : Tgt K all id same grown g G s j := by
 obtain ⟨hf, ht⟩ := ht
 cases h with
 | stay h =>
  rcases ht with ⟨_, e⟩ | ⟨a, _⟩ | ⟨a, _⟩
  ·obtain ⟨x, y⟩ := h.back s hs hf (by rw [← e]; exact hj)
   exact ⟨x, .inl ⟨rfl, e.trans y⟩⟩
  ·cases a
  ·cases a
 | stale hi =>
  refine ⟨hf, .inl ⟨rfl, ?_⟩⟩
  rcases ht with ⟨a, _⟩ | ⟨_, a⟩ | ⟨_, _, _, a⟩
  ·cases a
  ·have h1 := hE.find_back a hj
   obtain ⟨x, x1, x2, x3⟩ := findE_some h1
   obtain ⟨y, y1, y2, _, y3⟩ := hS.live _ _ _ _ (row_live (hR.now rfl) hs hf)
   refine hE.uni j _ x y x1 y1 x2 y2 ?_
   rcases y3 with y3 | y3
   ·exact K.trans _ _ _ x3 (K.symm _ _ y3)
   ·rw [y3]; exact x3
  ·rw [a, hi]
 | old hi =>
  refine ⟨hf, ?_⟩
  rcases ht with ⟨a, _⟩ | ⟨_, a⟩ | ⟨_, a, b, c⟩
  ·cases a
  ·exact .inr (.inl ⟨rfl, hE.find_back a hj⟩)
  ·exact .inr (.inr ⟨rfl, a, b, by rw [c, hi]⟩)
theorem Tgt.fwd (hE : EChg K all all') (hS : Sim K V id all) (hR : RowI K V id all same grown g n G) (h : RowChg all all' id id' g n grown G grown' G') {s j : Nat} (hs : s < 8 * n) (ht : Tgt K all id same grown g G s j) (hl : liv all' j = true) (hsw : same = true) : Tgt K all' id' same grown' g G' s j := by
 obtain ⟨hf, ht⟩ := ht
 cases h with
 | stay h =>
  rcases ht with ⟨_, e⟩ | ⟨a, _⟩ | ⟨a, _⟩
  ·obtain ⟨x, y⟩ := h.fwd s hs hf (by rw [← e]; exact hl)
   exact ⟨x, .inl ⟨rfl, e.trans y.symm⟩⟩
  ·cases a
  ·cases a
 | stale hi =>
  refine ⟨hf, .inr ?_⟩
  rcases ht with ⟨_, e⟩ | ⟨a, _⟩ | ⟨a, _⟩
  ·obtain ⟨y, y1, y2, _, y3⟩ := hS.live _ _ _ _ (row_live (hR.now rfl) hs hf)
   rw [← e] at y1
   by_cases hk : K.eqk y.key (G.k s) = true
   ·exact .inl ⟨rfl, hE.find_fwd (findE_of hE.uni y1 y2 hk) hl⟩
   ·have hk2 := y3.resolve_left hk
    refine .inr ⟨rfl, hsw, ?_, by rw [e, hi]⟩
    rw [hk2] at hk
    simp [KT.nan, hk]
  ·cases a
  ·cases a
 | old hi =>
  refine ⟨hf, ?_⟩
  rcases ht with ⟨a, _⟩ | ⟨_, a⟩ | ⟨_, a, b, c⟩
  ·cases a
  ·exact .inr (.inl ⟨rfl, hE.find_fwd a hl⟩)
  ·exact .inr (.inr ⟨rfl, a, b, by rw [c, hi]⟩)
theorem RowI.chg (hE : EChg K all all') (hS : Sim K V id all) (hR : RowI K V id all same grown g n G) (h : RowChg all all' id id' g n grown G grown' G') (h1 : grown' = false → V'.row g n G' ∧ SlotsOK K n G') (h2 : grown' = true → ∀ n' G'', ¬ V'.row g n' G'') : RowI K V' id' all' same grown' g n G' := by
 cases h with
 | stay h => exact ⟨(h1 rfl).2, fun _ => (h1 rfl).1, fun e => (by cases e), fun e => (by cases e), fun e => (by cases e)⟩
 | stale hi =>
  refine ⟨hR.sl, fun e => (by cases e), fun _ => h2 rfl, fun _ _ s hs hf hn => ?_, fun _ _ s t hs ht hf hf' hn hn' e => ?_⟩
  ·obtain ⟨y, y1, y2, y4, y3⟩ := hS.live _ _ _ _ (row_live (hR.now rfl) hs hf)
   have hk : y.key = G.k s := y3.resolve_left fun e => by simp [KT.nan, K.refl_right e] at hn
   exact ⟨y, by rw [hi]; exact hE.nan _ _ y1 y2 (by rw [hk]; exact hn), y2, hk, y4⟩
  ·rw [hi, hi] at e
   exact (hS.inj _ _ _ _ _ _ _ _ (row_live (hR.now rfl) hs hf) (row_live (hR.now rfl) ht hf') e).2
 | old hi =>
  refine ⟨hR.sl, fun e => (by cases e), fun _ => h2 rfl, fun _ a s hs hf hn => ?_, fun _ a s t hs ht hf hf' hn hn' e => ?_⟩
  ·obtain ⟨y, y1, y2, y3, y4⟩ := hR.nan rfl a s hs hf hn
   exact ⟨y, by rw [hi]; exact hE.nan _ _ y1 y2 (by rw [y3]; exact hn), y2, y3, y4⟩
  ·rw [hi, hi] at e
   exact hR.nanI rfl a s t hs ht hf hf' hn hn' e
theorem CurI.chg (hE : EChg K all all') (hS : Sim K V id all) (hR : RowI K V id all same grown g n G) (h : RowChg all all' id id' g n grown G grown' G') {eo ei : Nat} {gs : Nat → Bool} {was : List Nat} {zone : Nat → Prop} (hn : 0 < n)
  (hg : ∀ j, all.length ≤ j → gs j = false) (hw : ∀ j, j ∈ was → j < all.length) (hsw : same = false → ∀ j, j ∈ was → liv all j = false) (hc : CurI K all id same grown g n G eo ei gs was zone) : CurI K all' id' same grown' g n G' eo ei gs was zone := by
 have hm : ∀ y, (y + eo) % (8 * n) < 8 * n := fun y => Nat.mod_lt _ (by omega)
 refine ⟨fun y j h1 h2 h3 => ?_, fun j a' h1 h2 h3 h4 h5 => ?_⟩
 ·by_cases hj : j < all.length
  ·exact hc.c1 y j h1 h2 (h3.back hE hS hR h (hm y) hj)
  ·exact hg j (by omega)
 ·have hj := hw j h3
  obtain ⟨a, a1, a2, a3⟩ := hE.keep j a' hj h1 h2
  obtain ⟨y, y1, y2, y3⟩ := hc.c2 j a a1 a2 h3 h4 (by rw [a3]; exact h5)
  refine ⟨y, y1, y2, y3.fwd hE hS hR h (hm y) (liv_iff.2 ⟨a', h1, h2⟩) ?_⟩
  cases hs : same with
  | true => rfl
  | false => have := hsw hs j h3; rw [liv_iff.2 ⟨a, a1, a2⟩] at this; cases this
end
/-- What becomes of the tables of a directory. -/
structure DChg (K : KT) (H S : Heap) (D D' : Dir) (all all' : List Ent) (id id' : Nat → Nat → Nat) : Prop where
 deep : ∀ h, h < 2 ^ 64 → (D.T (D.at h)).ld ≤ (D'.T (D'.at h)).ld
 gd : D.gd ≤ D'.gd
 stay : ∀ h, h < 2 ^ 64 → (∃ j, j < 2 ^ D'.gd ∧ D'.d j = D.at h) → D'.at h = D.at h
 tabs : ∀ i, i < 2 ^ D.gd →
  (∃ i', i' < 2 ^ D'.gd ∧ D'.d i' = D.d i ∧ (D'.tab i').n = (D.tab i).n ∧ (D'.tab i').ld = (D.tab i).ld ∧ (D'.tab i').gb = (D.tab i).gb ∧ Stay all all' id id' (D.tab i).gb (D.tab i).n (D.tab i).G (D'.tab i').G) ∨
  ((∀ j, j < 2 ^ D'.gd → D'.d j ≠ D.d i ∧ (D'.tab j).gb ≠ (D.tab i).gb) ∧ S (D.d i) = some (encT { D.tab i with index := -1 }) ∧ S (D.tab i).gb = some (encG (D.tab i).n (D.tab i).G) ∧ ∀ s, id' (D.tab i).gb s = id (D.tab i).gb s)
 old : ∀ b t, H b = some (encT t) → H t.gb = some (encG t.n t.G) → (∀ i, i < 2 ^ D.gd → D.d i ≠ b ∧ (D.tab i).gb ≠ t.gb) → S b = some (encT t) ∧ S t.gb = some (encG t.n t.G) ∧ (∀ j, j < 2 ^ D'.gd → D'.d j ≠ b ∧ (D'.tab j).gb ≠ t.gb) ∧ ∀ s, id' t.gb s = id t.gb s
theorem BTab.chg {K : KT} {H S : Heap} {D D' : Dir} {db db' : Nat} {all all' : List Ent} {id id' : Nat → Nat → Nat} {same : Bool} {eo O Di b c ei : Nat} {gs : Nat → Bool} {was : List Nat} {t : Tb}
  (hE : EChg K all all') (hS : Sim K (.big db D) id all) (hD : D.OK K) (hD' : D'.OK K) (hA' : D'.At S db') (h : DChg K H S D D' all all' id id') (hg : ∀ j, all.length ≤ j → gs j = false) (hw : ∀ j, j ∈ was → j < all.length) (hsw : same = false → ∀ j, j ∈ was → liv all j = false) (hO : O < 2 ^ 64)
  (hT : BTab K D (.big db D) H id all same eo gs was O Di b t c ei) : ∃ t', BTab K D' (.big db' D') S id' all' same eo gs was O Di b t' c ei ∧ t'.n = t.n ∧ t'.gb = t.gb := by
 obtain ⟨p, hp7, hnp⟩ := hT.pow
 have hn0 : 0 < t.n := by rw [hnp]; exact Nat.two_pow_pos _
 have b1' : ∀ (j : Nat) (a : Ent), all'[j]? = some a → a.gone = false → gs j = true → rel O (K.hash a.key) < Di + 2 ^ (64 - t.ld) := fun j a h1 h2 h3 => by
  have hj : j < all.length := Nat.lt_of_not_le fun hle => by rw [hg j hle] at h3; cases h3
  obtain ⟨a0, x1, x2, x3⟩ := hE.keep j a hj h1 h2
  rw [← x3]; exact hT.b1 j a0 x1 x2 h3
 have b2' : ∀ (j : Nat) (a : Ent), all'[j]? = some a → a.gone = false → j ∈ was → gs j = false → Di ≤ rel O (K.hash a.key) := fun j a h1 h2 h3 h4 => by
  obtain ⟨a0, x1, x2, x3⟩ := hE.keep j a (hw j h3) h1 h2
  rw [← x3]; exact hT.b2 j a0 x1 x2 h3 h4
 have hbO : D'.bnd O := hT.bO.deep (h.deep O hO)
 have hdeep : ∀ x, x < 2 ^ 64 → x / 2 ^ (64 - t.ld) = c → t.ld ≤ (D'.T (D'.at x)).ld := fun x hx hz => Nat.le_trans (hT.deep x hx hz) (h.deep x hx)
 by_cases hix : t.index = -1
 ·have hdx : decide (t.index = -1) = true := decide_eq_true hix
  have hold := hT.row.old hdx
  obtain ⟨s1, s2, s3, s4⟩ := h.old b t hT.mt hT.mg fun i hi => ⟨hT.out hix i hi, fun e => hold _ _ ⟨i, hi, e.symm, rfl, rfl⟩⟩
  have hrc : RowChg all all' id id' t.gb t.n (decide (t.index = -1)) t.G (decide (t.index = -1)) t.G := by rw [hdx]; exact .old s4
  have hnr : ∀ n' G'', ¬ (Mv.big db' D').row t.gb n' G'' := fun n' G'' hr => by
   obtain ⟨j, hj, e, _⟩ := hr
   exact (s3 j hj).2 e.symm
  exact ⟨t, ⟨hbO, s1, s2, hT.row.chg hE hS hrc (fun e => by rw [hdx] at e; cases e) (fun _ => hnr), hT.pow, hT.cap, fun e => absurd hix e, fun _ i hi => (s3 i hi).1, Nat.le_trans hT.ld h.gd, hT.cl, hT.at_, hT.fit, hT.pre, hdeep, fun e => absurd hix e, hT.cur.chg hE hS hT.row hrc hn0 hg hw hsw, b1', b2'⟩, rfl, rfl⟩
 ·have hdx : decide (t.index = -1) = false := decide_eq_false hix
  obtain ⟨i, hi, e1, e2⟩ := hT.inD hix
  rcases h.tabs i hi with ⟨i', hi', f1, f2, f3, f4, f5⟩ | ⟨f1, f2, f3, f4⟩
  ·rw [e2] at f2 f3 f4 f5
   rw [e1] at f1
   have hidx := hD'.dok.idx i' hi'
   have hne : (D'.tab i').index ≠ -1 := fun e => by rw [show D'.T (D'.d i') = D'.tab i' from rfl, e] at hidx; omega
   have hdx' : decide ((D'.tab i').index = -1) = false := decide_eq_false hne
   have hrc : RowChg all all' id id' t.gb t.n (decide (t.index = -1)) t.G (decide ((D'.tab i').index = -1)) (D'.tab i').G := by rw [hdx, hdx']; exact .stay f5
   have hok := hD'.tok i' hi'
   have hrow := hT.row.chg (V' := .big db' D') hE hS hrc (fun _ => ⟨⟨i', hi', f4.symm, f2.symm, rfl⟩, by rw [← f2]; exact hok.sl⟩) (fun e => by rw [hdx'] at e; cases e)
   have hcur := hT.cur.chg hE hS hT.row hrc hn0 hg hw hsw
   have hrun : ∀ x, x < 2 ^ 64 → x / 2 ^ (64 - t.ld) = c → D'.at x = b := fun x hx hz => by
    have h1 := hT.run hix x hx hz
    rw [h.stay x hx ⟨i', hi', f1.trans h1.symm⟩, h1]
   refine ⟨D'.tab i', ⟨hbO, by rw [← f1]; exact hA'.tabs i' hi', hA'.grs i' hi', by rw [f4, f2]; exact hrow, hok.pow, hok.cap, fun _ => ⟨i', hi', f1, rfl⟩, fun e => absurd e hne, hD'.dok.ld i' hi', by rw [f3]; exact hT.cl, by rw [f3]; exact hT.at_, by rw [f3]; exact hT.fit, fun s hs hf => ?_, by rw [f3]; exact hdeep, by rw [f3]; exact fun _ => hrun, by rw [f4, f2, f3]; exact hcur, by rw [f3]; exact b1', b2'⟩, f2, f4⟩
   -- the table's keys lie in her run
   have h1 := hD'.route i' s hi' hs hf
   obtain ⟨x0, hx0, hz0⟩ : ∃ x0, x0 < 2 ^ 64 ∧ x0 / 2 ^ (64 - t.ld) = c := by
    have hl64 : t.ld ≤ 64 := by have := hT.ld; have := hD.gd64; omega
    have := run_fit hl64 hT.cl
    have := run_len (ld := t.ld)
    exact ⟨c * 2 ^ (64 - t.ld), by omega, Nat.mul_div_cancel _ run_len⟩
   have h2 := hrun x0 hx0 hz0
   have h3 := hD'.same_at hx0 (K.lt ((D'.tab i').G.k s)) (show D'.at (K.hash ((D'.tab i').G.k s)) = D'.at x0 by rw [h2, ← f1]; exact h1)
   have h4 : (D'.T (D'.at x0)).ld = t.ld := by rw [h2, ← f1, ← f3]; rfl
   rw [h4, hz0] at h3
   rw [f3]; exact h3.symm
  ·rw [e1] at f1 f2
   rw [e2] at f1 f2 f3 f4
   have hrc : RowChg all all' id id' t.gb t.n (decide (t.index = -1)) t.G (decide (({ t with index := -1 } : Tb).index = -1)) t.G := by rw [hdx, decide_eq_true rfl]; exact .stale f4
   have hnr : ∀ n' G'', ¬ (Mv.big db' D').row t.gb n' G'' := fun n' G'' hr => by
    obtain ⟨j, hj, e, _⟩ := hr
    exact (f1 j hj).2 e.symm
   exact ⟨{ t with index := -1 }, ⟨hbO, f2, f3, hT.row.chg hE hS hrc (by nofun) (fun _ => hnr), hT.pow, hT.cap, fun e => absurd rfl e, fun _ j hj => (f1 j hj).1, Nat.le_trans hT.ld h.gd, hT.cl, hT.at_, hT.fit, hT.pre, hdeep, fun e => absurd rfl e, hT.cur.chg hE hS hT.row hrc hn0 hg hw hsw, b1', b2'⟩, rfl, rfl⟩
/-- An iterator over tables keeps what she has. -/
theorem BigI.chg {K : KT} {H S : Heap} {D D' : Dir} {db db' : Nat} {all all' : List Ent} {id id' : Nat → Nat → Nat} {same : Bool} {eo O Di ei : Nat} {gs : Nat → Bool} {was : List Nat} {T : Nat → Tb} {tab : Option Nat}
  (hE : EChg K all all') (hS : Sim K (.big db D) id all) (hD : D.OK K) (hD' : D'.OK K) (hA' : D'.At S db') (h : DChg K H S D D' all all' id id') (hg : ∀ j, all.length ≤ j → gs j = false) (hw : ∀ j, j ∈ was → j < all.length) (hsw : same = false → ∀ j, j ∈ was → liv all j = false)
  (hB : BigI K D (.big db D) H T id all same eo gs was O Di tab ei) : ∃ T', BigI K D' (.big db' D') S T' id' all' same eo gs was O Di tab ei ∧ ∀ b, tab = some b → (T' b).n = (T b).n ∧ (T' b).gb = (T b).gb := by
 obtain ⟨hO, hDi, hB⟩ := hB
 rcases hB with h1 | ⟨h1, h2, hG⟩ | ⟨b, c, rfl, hT⟩
 ·exact ⟨T, ⟨hO, hDi, .inl h1⟩, fun _ _ => ⟨rfl, rfl⟩⟩
 ·refine ⟨T, ⟨hO, hDi, .inr (.inl ⟨h1, h2, hG.bO.deep (h.deep O hO), fun hl => (hG.bp hl).deep (h.deep _ (Nat.mod_lt _ (by decide))), fun j a x1 x2 x3 => ?_, fun j a x1 x2 x3 x4 => ?_⟩)⟩, fun _ _ => ⟨rfl, rfl⟩⟩
  ·have hj : j < all.length := Nat.lt_of_not_le fun hle => by rw [hg j hle] at x3; cases x3
   obtain ⟨a0, y1, y2, y3⟩ := hE.keep j a hj x1 x2
   rw [← y3]; exact hG.b1 j a0 y1 y2 x3
  ·obtain ⟨a0, y1, y2, y3⟩ := hE.keep j a (hw j x3) x1 x2
   rw [← y3]; exact hG.b2 j a0 y1 y2 x3 x4
 ·obtain ⟨t', ht, e1, e2⟩ := hT.chg hE hS hD hD' hA' h hg hw hsw hO
  exact ⟨fun _ => t', ⟨hO, hDi, .inr (.inr ⟨b, c, rfl, ht⟩)⟩, fun b' e => by cases e; exact ⟨e1, e2⟩⟩
end
section
/-! ### How many entries -/
theorem lenE_append (all : List Ent) (k : Nat) (e : Int) : lenE (all ++ [⟨k, e, false⟩]) = lenE all + 1 := by
 unfold lenE
 rw [List.length_append, List.length_singleton]
 simp only [cnt]
 have h1 : liv (all ++ [⟨k, e, false⟩]) all.length = true := by simp [liv]
 rw [h1, cnt_congr (r := liv all) fun s hs => by unfold liv; rw [List.getElem?_append_left hs]]
 rfl
theorem liv_setElem (all : List Ent) (i : Nat) (e : Int) (j : Nat) : liv (setElem all i e) j = liv all j := by
 unfold liv; rw [get_setElem]
 cases all[j]? with
 | none => rfl
 | some a => simp only [Option.map_some]; split <;> rfl
theorem lenE_setElem (all : List Ent) (i : Nat) (e : Int) : lenE (setElem all i e) = lenE all := by
 unfold lenE
 rw [show (setElem all i e).length = all.length by simp [setElem]]
 exact cnt_congr fun s _ => liv_setElem all i e s
theorem liv_goneAt (all : List Ent) (i j : Nat) : liv (goneAt all i) j = (liv all j && !decide (i = j)) := by
 unfold liv; rw [get_goneAt]
 cases all[j]? with
 | none => rfl
 | some a =>
  simp only [Option.map_some]
  by_cases e : i = j
  ·simp [e]
  ·simp [e]
theorem lenE_goneAt {all : List Ent} {i : Nat} (h : liv all i = true) : lenE (goneAt all i) + 1 = lenE all := by
 unfold lenE
 rw [show (goneAt all i).length = all.length by simp [goneAt]]
 have h1 := cnt_set (q := liv (goneAt all i)) (r := liv all) (s := i) (liv_lt h) (fun t _ hne => by rw [liv_goneAt, decide_eq_false (fun e => hne e.symm)]; simp)
 rw [h, liv_goneAt, decide_eq_true rfl] at h1
 simp at h1
 omega
theorem liv_goneAll (all : List Ent) (j : Nat) : liv (goneAll all) j = false := by
 unfold liv; rw [get_goneAll]
 cases all[j]? <;> simp
theorem lenE_goneAll (all : List Ent) : lenE (goneAll all) = 0 := cnt_zero fun s _ => liv_goneAll all s
/-! ### A key's entry -/
section
variable {K : KT} {H S : Heap} {bm : Nat} {m m' : Mp} {V V' : Mv} {id : Nat → Nat → Nat} {all : List Ent}
theorem Sim.no_key (h : Sim K V id all) {k : Nat} (hno : ∀ g s k' e, V.live g s k' e → K.eqk k k' = false) : findE K all k = none := by
 cases hx : findE K all k with
 | none => rfl
 | some j =>
  obtain ⟨a, a1, a2, a3⟩ := findE_some hx
  obtain ⟨g, s, k', e, h1, h2⟩ := h.onto j (liv_iff.2 ⟨a, a1, a2⟩)
  obtain ⟨a', x1, _, _, x2⟩ := h.live _ _ _ _ h1
  rw [h2, a1] at x1; cases x1
  have h3 : K.eqk k' k = true := eqk_of x2 (.inr rfl) a3
  have := hno g s k' e h1
  rw [K.symm _ _ h3] at this; cases this
theorem Sim.key (h : Sim K V id all) (hV : MapIs K S bm m V) {g s k k' : Nat} {e : Int} (hl : V.live g s k' e) (hk : K.eqk k k' = true) : findE K all k = some (id g s) := by
 obtain ⟨a, a1, a2, _, a3⟩ := h.live _ _ _ _ hl
 refine findE_of (h.uni hV) a1 a2 ?_
 rcases a3 with a3 | a3
 ·exact K.trans _ _ _ a3 (K.symm _ _ hk)
 ·rw [a3]; exact K.symm _ _ hk
/-- One entry more, at slot s of row g; ρ: where the others lay. -/
structure NewR (V V' : Mv) (g s k : Nat) (e : Int) (ρ : Nat → Nat → Nat × Nat) : Prop where
 nw : V'.live g s k e
 back : ∀ x y k' e', V'.live x y k' e' → (x = g ∧ y = s ∧ k' = k ∧ e' = e) ∨ (¬ (x = g ∧ y = s) ∧ V.live (ρ x y).1 (ρ x y).2 k' e')
 inj : ∀ x y k1 e1 x' y' k2 e2, V'.live x y k1 e1 → V'.live x' y' k2 e2 → ¬ (x = g ∧ y = s) → ¬ (x' = g ∧ y' = s) → ρ x y = ρ x' y' → x = x' ∧ y = y'
 onto : ∀ x y k' e', V.live x y k' e' → ∃ x' y', V'.live x' y' k' e' ∧ ¬ (x' = g ∧ y' = s) ∧ ρ x' y' = (x, y)
open Classical in
noncomputable def newId (id : Nat → Nat → Nat) (ρ : Nat → Nat → Nat × Nat) (g s n : Nat) : Nat → Nat → Nat := fun x y => if x = g ∧ y = s then n else id (ρ x y).1 (ρ x y).2
theorem newId_new {ρ : Nat → Nat → Nat × Nat} {g s n : Nat} : newId id ρ g s n g s = n := if_pos ⟨rfl, rfl⟩
theorem newId_old {ρ : Nat → Nat → Nat × Nat} {g s n x y : Nat} (h : ¬ (x = g ∧ y = s)) : newId id ρ g s n x y = id (ρ x y).1 (ρ x y).2 := if_neg h
theorem Sim.id_lt (h : Sim K V id all) {g s k : Nat} {e : Int} (hl : V.live g s k e) : id g s < all.length := by
 obtain ⟨a, a1, _⟩ := h.live _ _ _ _ hl
 exact (List.getElem?_eq_some_iff.1 a1).1
theorem Sim.new (h : Sim K V id all) {g s k : Nat} {e : Int} {ρ : Nat → Nat → Nat × Nat} (hN : NewR V V' g s k e ρ) : Sim K V' (newId id ρ g s all.length) (all ++ [⟨k, e, false⟩]) := by
 refine ⟨fun x y k' e' hl => ?_, fun x y k1 e1 x' y' k2 e2 h1 h2 he => ?_, fun j hj => ?_⟩
 ·rcases hN.back x y k' e' hl with ⟨rfl, rfl, rfl, rfl⟩ | ⟨hne, hl'⟩
  ·rw [newId_new]; exact ⟨⟨k', e', false⟩, by simp, rfl, rfl, .inr rfl⟩
  ·rw [newId_old hne]
   obtain ⟨a, a1, a2, a3, a4⟩ := h.live _ _ _ _ hl'
   exact ⟨a, by rw [List.getElem?_append_left (h.id_lt hl')]; exact a1, a2, a3, a4⟩
 ·rcases hN.back _ _ _ _ h1 with ⟨rfl, rfl, _, _⟩ | ⟨n1, l1⟩ <;> rcases hN.back _ _ _ _ h2 with ⟨rfl, rfl, _, _⟩ | ⟨n2, l2⟩
  ·exact ⟨rfl, rfl⟩
  ·rw [newId_new, newId_old n2] at he
   have := h.id_lt l2; omega
  ·rw [newId_new, newId_old n1] at he
   have := h.id_lt l1; omega
  ·rw [newId_old n1, newId_old n2] at he
   have := h.inj _ _ _ _ _ _ _ _ l1 l2 he
   exact hN.inj _ _ _ _ _ _ _ _ h1 h2 n1 n2 (Prod.ext this.1 this.2)
 ·by_cases hjl : j < all.length
  ·have : liv all j = true := by unfold liv at hj ⊢; rw [List.getElem?_append_left hjl] at hj; exact hj
   obtain ⟨x, y, k', e', l, hid⟩ := h.onto j this
   obtain ⟨x', y', l', hne, hρ⟩ := hN.onto _ _ _ _ l
   exact ⟨x', y', k', e', l', by rw [newId_old hne, hρ]; exact hid⟩
  ·have := liv_lt hj
   simp at this
   exact ⟨g, s, k, e, hN.nw, by rw [newId_new]; omega⟩
theorem EChg.append (hu : Uni K all) {k : Nat} {e : Int} (hu' : Uni K (all ++ [⟨k, e, false⟩])) : EChg K all (all ++ [⟨k, e, false⟩]) :=
 ⟨hu, hu', by simp, fun j a' hj h1 h2 => ⟨a', by rw [List.getElem?_append_left hj] at h1; exact h1, h2, rfl⟩, fun j a h1 _ _ => by rw [List.getElem?_append_left (List.getElem?_eq_some_iff.1 h1).1]; exact h1⟩
/-- The element (and the key) of the entry of slot s of row g changed. -/
structure SetR (K : KT) (V V' : Mv) (g s k : Nat) (e : Int) : Prop where
 was : ∃ k0 e0, V.live g s k0 e0 ∧ K.eqk k k0 = true
 back : ∀ x y k' e', V'.live x y k' e' → (x = g ∧ y = s ∧ e' = e ∧ ∃ k0 e0, V.live g s k0 e0 ∧ K.eqk k k0 = true ∧ (k' = k ∨ k' = k0)) ∨ (¬ (x = g ∧ y = s) ∧ V.live x y k' e')
 fwd : ∀ x y k' e', V.live x y k' e' → ∃ k'' e'', V'.live x y k'' e''
theorem Sim.set (h : Sim K V id all) (hV : MapIs K S bm m V) {g s k : Nat} {e : Int} (hR : SetR K V V' g s k e) : findE K all k = some (id g s) ∧ Sim K V' id (setElem all (id g s) e) ∧ ∃ a, all[id g s]? = some a ∧ a.gone = false ∧ K.nan a.key = false := by
 obtain ⟨k0, e0, hl, hk⟩ := hR.was
 have hf := h.key hV hl hk
 obtain ⟨a, a1, a2, a3⟩ := findE_some hf
 refine ⟨hf, ⟨fun x y k' e' hl' => ?_, fun x y k1 e1 x' y' k2 e2 h1 h2 he => ?_, fun j hj => ?_⟩, a, a1, a2, by simp [KT.nan, K.refl_left a3]⟩
 ·rcases hR.back x y k' e' hl' with ⟨rfl, rfl, rfl, k1, e1, l1, hk1, hk'⟩ | ⟨hne, l⟩
  ·refine ⟨{ a with elem := e' }, by rw [get_setElem, a1]; simp, a2, rfl, .inl ?_⟩
   rcases hk' with rfl | rfl
   ·exact a3
   ·exact K.trans _ _ _ a3 hk1
  ·obtain ⟨b, b1, b2, b3, b4⟩ := h.live _ _ _ _ l
   have hne' : id g s ≠ id x y := fun e => hne (by have := h.inj _ _ _ _ _ _ _ _ hl l e; exact ⟨this.1.symm, this.2.symm⟩)
   exact ⟨b, by rw [get_setElem, b1]; simp [hne'], b2, b3, b4⟩
 ·have l1 : ∃ k e, V.live x y k e := by
   rcases hR.back _ _ _ _ h1 with ⟨rfl, rfl, _, k1, e1, l, _⟩ | ⟨_, l⟩
   ·exact ⟨_, _, l⟩
   ·exact ⟨_, _, l⟩
  have l2 : ∃ k e, V.live x' y' k e := by
   rcases hR.back _ _ _ _ h2 with ⟨rfl, rfl, _, k1, e1, l, _⟩ | ⟨_, l⟩
   ·exact ⟨_, _, l⟩
   ·exact ⟨_, _, l⟩
  obtain ⟨_, _, l1⟩ := l1
  obtain ⟨_, _, l2⟩ := l2
  exact h.inj _ _ _ _ _ _ _ _ l1 l2 he
 ·rw [liv_setElem] at hj
  obtain ⟨x, y, k', e', l, hid⟩ := h.onto j hj
  obtain ⟨k'', e'', l'⟩ := hR.fwd _ _ _ _ l
  exact ⟨x, y, k'', e'', l', hid⟩
theorem EChg.set (hu : Uni K all) {i : Nat} {e : Int} {a : Ent} (ha : all[i]? = some a) (hn : K.nan a.key = false) : EChg K all (setElem all i e) := by
 have hk : ∀ (j : Nat) (b : Ent), (setElem all i e)[j]? = some b → ∃ c, all[j]? = some c ∧ c.gone = b.gone ∧ c.key = b.key := fun j b hb => by
  rw [get_setElem] at hb
  cases hc : all[j]? with
  | none => rw [hc] at hb; cases hb
  | some c =>
   rw [hc] at hb
   simp only [Option.map_some, Option.some.injEq] at hb
   subst hb
   refine ⟨c, rfl, ?_, ?_⟩ <;> split <;> rfl
 refine ⟨hu, fun j j' b b' hb hb' hg hg' he => ?_, by simp [setElem], fun j b _ hb hg => ?_, fun j b hb hg hnb => ?_⟩
 ·obtain ⟨c, c1, c2, c3⟩ := hk j b hb
  obtain ⟨c', c1', c2', c3'⟩ := hk j' b' hb'
  exact hu j j' c c' c1 c1' (c2.trans hg) (c2'.trans hg') (by rw [c3, c3']; exact he)
 ·obtain ⟨c, c1, c2, c3⟩ := hk j b hb
  exact ⟨c, c1, c2.trans hg, c3⟩
 ·rw [get_setElem, hb]
  have : i ≠ j := fun e => by subst e; rw [ha] at hb; cases hb; rw [hn] at hnb; cases hnb
  simp [this]
/-- The entry of slot s of row g removed. -/
structure DelRR (K : KT) (V V' : Mv) (g s k : Nat) : Prop where
 was : ∃ k0 e0, V.live g s k0 e0 ∧ K.eqk k k0 = true
 iff : ∀ x y k' e', V'.live x y k' e' ↔ (¬ (x = g ∧ y = s) ∧ V.live x y k' e')
theorem Sim.del (h : Sim K V id all) (hV : MapIs K S bm m V) {g s k : Nat} (hR : DelRR K V V' g s k) : findE K all k = some (id g s) ∧ Sim K V' id (goneAt all (id g s)) ∧ ∃ a, all[id g s]? = some a ∧ a.gone = false ∧ K.nan a.key = false := by
 obtain ⟨k0, e0, hl, hk⟩ := hR.was
 have hf := h.key hV hl hk
 obtain ⟨a, a1, a2, a3⟩ := findE_some hf
 refine ⟨hf, ⟨fun x y k' e' hl' => ?_, fun x y k1 e1 x' y' k2 e2 h1 h2 he => ?_, fun j hj => ?_⟩, a, a1, a2, by simp [KT.nan, K.refl_left a3]⟩
 ·obtain ⟨hne, l⟩ := (hR.iff _ _ _ _).1 hl'
  obtain ⟨b, b1, b2, b3, b4⟩ := h.live _ _ _ _ l
  have hne' : id g s ≠ id x y := fun e => hne (by have := h.inj _ _ _ _ _ _ _ _ hl l e; exact ⟨this.1.symm, this.2.symm⟩)
  exact ⟨b, by rw [get_goneAt, b1]; simp [hne'], b2, b3, b4⟩
 ·exact h.inj _ _ _ _ _ _ _ _ ((hR.iff _ _ _ _).1 h1).2 ((hR.iff _ _ _ _).1 h2).2 he
 ·rw [liv_goneAt, Bool.and_eq_true_iff, Bool.not_eq_true', decide_eq_false_iff_not] at hj
  obtain ⟨x, y, k', e', l, hid⟩ := h.onto j hj.1
  exact ⟨x, y, k', e', (hR.iff _ _ _ _).2 ⟨fun ⟨e1, e2⟩ => hj.2 (by rw [← hid, e1, e2]), l⟩, hid⟩
theorem EChg.del (hu : Uni K all) {i : Nat} {a : Ent} (ha : all[i]? = some a) (hn : K.nan a.key = false) : EChg K all (goneAt all i) := by
 have hk : ∀ (j : Nat) (b : Ent), (goneAt all i)[j]? = some b → b.gone = false → all[j]? = some b := fun j b hb hg => by
  rw [get_goneAt] at hb
  cases hc : all[j]? with
  | none => rw [hc] at hb; cases hb
  | some c =>
   rw [hc] at hb
   simp only [Option.map_some, Option.some.injEq] at hb
   split at hb
   ·subst hb; cases hg
   ·rw [hb]
 refine ⟨hu, fun j j' b b' hb hb' hg hg' he => hu j j' b b' (hk j b hb hg) (hk j' b' hb' hg') hg hg' he, by simp [goneAt], fun j b _ hb hg => ⟨b, hk j b hb hg, hg, rfl⟩, fun j b hb hg hnb => ?_⟩
 rw [get_goneAt, hb]
 have : i ≠ j := fun e => by subst e; rw [ha] at hb; cases hb; rw [hn] at hnb; cases hnb
 simp [this]
theorem Sim.void (all : List Ent) (hV : ∀ g s k e, ¬ V.live g s k e) (ha : ∀ j, liv all j = false) : Sim K V id all :=
 ⟨fun g s k e h => absurd h (hV g s k e), fun g s k e _ _ _ _ h => absurd h (hV g s k e), fun j hj => by rw [ha] at hj; cases hj⟩
end
end
section
/-- How the map changes, so that iterators keep what they have. -/
structure MChg (K : KT) (H S : Heap) (m m' : Mp) (V V' : Mv) (id id' : Nat → Nat → Nat) (all all' : List Ent) : Prop where
 e : EChg K all all'
 s' : Sim K V' id' all'
 dir : ∀ db D, V = .big db D → ∃ db' D', V' = .big db' D' ∧ DChg K H S D D' all all' id id'
 sm : ∀ g G, V.row g 1 G → m.dirLen = 0 → ∃ G', S g = some (encG 1 G') ∧ RowChg all all' id id' g 1 false G (decide (m'.dirLen ≠ 0)) G' ∧ (m'.dirLen = 0 → V'.row g 1 G' ∧ SlotsOK K 1 G') ∧ (m'.dirLen ≠ 0 → ∀ n' G'', ¬ V'.row g n' G'')
 st : ∀ g G, H g = some (encG 1 G) → (∀ n' G', ¬ V.row g n' G') → m.dirLen ≠ 0 → S g = some (encG 1 G) ∧ m'.dirLen ≠ 0 ∧ (∀ n' G', ¬ V'.row g n' G') ∧ ∀ s, id' g s = id g s
theorem mem_ids {id : Nat → Nat → Nat} {ρ : Nat → Nat → Nat × Nat} {g s n x : Nat} (hx : x ≠ g) (hρ : ∀ y, ρ x y = (x, y)) : ∀ y, newId id ρ g s n x y = id x y := fun y => by
 rw [newId_old (fun h => hx h.1), hρ]
theorem MapIs.small_len {K : KT} {S : Heap} {bm : Nat} {m : Mp} {sg : Nat} {G : Gr} (h : MapIs K S bm m (.small sg G)) : m.dirLen = 0 := h.2.1
theorem MapIs.big_len {K : KT} {S : Heap} {bm : Nat} {m : Mp} {db : Nat} {D : Dir} (h : MapIs K S bm m (.big db D)) : m.dirLen ≠ 0 := by
 rw [h.2.1.len]; have := Nat.two_pow_pos D.gd; omega
/-- A put in a small map, in her row. -/
theorem mchg_small {K : KT} {H S : Heap} {bm : Nat} {m m' : Mp} {sg : Nat} {G G' : Gr} {id id' : Nat → Nat → Nat} {all all' : List Ent} (hV : MapIs K H bm m (.small sg G)) (hV' : MapIs K S bm m' (.small sg G')) (hE : EChg K all all') (hS' : Sim K (.small sg G') id' all') (hst : Stay all all' id id' sg 1 G G') :
  MChg K H S m m' (.small sg G) (.small sg G') id id' all all' := by
 refine ⟨hE, hS', fun db D h => (by cases h), fun g G0 hr _ => ?_, fun g G0 _ _ h => absurd hV.small_len h⟩
 obtain ⟨rfl, _, rfl⟩ := hr
 refine ⟨G', hV'.2.2.2.2.1, ?_, fun _ => ⟨⟨rfl, rfl, rfl⟩, hV'.2.2.2.2.2.1.1⟩, fun h => absurd hV'.small_len h⟩
 rw [decide_eq_false (fun h => h hV'.small_len)]
 exact .stay hst
theorem find_small {K : KT} {G : Gr} {k : Nat} {sg : Nat} (h : find K 1 G k = none) : ∀ g s k' e, Mv.live (.small sg G) g s k' e → K.eqk k k' = false := fun g s k' e hl => by
 obtain ⟨_, hs, hf, rfl, _⟩ := hl
 exact find_none_iff h s (by omega) hf
section
variable {K : KT} {nu : Bool} {H S : Heap} {bm : Nat} {m m' : Mp} {k N g s : Nat} {e : Int} {id : Nat → Nat → Nat} {all : List Ent}
/-- The map behind a put, beside the reference's. -/
def PutOut (K : KT) (H S : Heap) (m m' : Mp) (V V' : Mv) (id : Nat → Nat → Nat) (all : List Ent) (k : Nat) (e : Int) : Prop := ∃ id', MChg K H S m m' V V' id id' all (putE K all k e) ∧ (m'.used = m.used ∧ lenE (putE K all k e) = lenE all ∨ m'.used = m.used + 1 ∧ lenE (putE K all k e) = lenE all + 1)
theorem out_new {V V' : Mv} {id' : Nat → Nat → Nat} (hS : Sim K V id all) (hno : ∀ g s k' e, V.live g s k' e → K.eqk k k' = false) (hu : m'.used = m.used + 1) (h : MChg K H S m m' V V' id id' all (all ++ [⟨k, e, false⟩])) : PutOut K H S m m' V V' id all k e := by
 have hf := hS.no_key hno
 have hp : putE K all k e = all ++ [⟨k, e, false⟩] := by unfold putE; rw [hf]
 exact ⟨id', by rw [hp]; exact h, .inr ⟨hu, by rw [hp]; exact lenE_append _ _ _⟩⟩
theorem out_set {V V' : Mv} (hf : findE K all k = some (id g s)) (hu : m'.used = m.used) (h : MChg K H S m m' V V' id id all (setElem all (id g s) e)) : PutOut K H S m m' V V' id all k e := by
 have hp : putE K all k e = setElem all (id g s) e := by unfold putE; rw [hf]
 exact ⟨id, by rw [hp]; exact h, .inl ⟨hu, by rw [hp]; exact lenE_setElem _ _ _⟩⟩
theorem put_nil (hV : MapIs K H bm m .nil) (hS : Sim K .nil id all) {V' : Mv} (h : PutE K nu H bm m .nil k e N g s m' V' S) : PutOut K H S m m' .nil (V'.setE g s e) id all k e := by
 obtain ⟨h1, h2, rfl, h3⟩ := h.res
 have hM := h.map
 have hb : K.hash k % 128 < 128 := Nat.mod_lt _ (by decide)
 have hN : NewR .nil (Mv.setE (.small g (emptyGr.put s k 0 (K.hash k % 128))) g s e) g s k e (fun x y => (x, y)) := by
  refine ⟨⟨rfl, h2, ?_, ?_, ?_⟩, fun x y k' e' hl => .inl ?_, fun x y k1 e1 x' y' k2 e2 h1 h2 n1 n2 he => ?_, fun x y k' e' hl => hl.elim⟩
  ·show (emptyGr.put s k 0 (K.hash k % 128)).c s < 128; rw [Gr.put_c, if_pos rfl]; exact hb
  ·show (emptyGr.put s k 0 (K.hash k % 128)).k s = k; rw [Gr.put_k, if_pos rfl]
  ·show (if s = s then e else _) = e; rw [if_pos rfl]
  ·obtain ⟨rfl, hy, hc, hk, he⟩ := hl
   have hys : y = s := by
    apply Classical.byContradiction
    intro hne
    have : (emptyGr.put s k 0 (K.hash k % 128)).c y < 128 := hc
    rw [Gr.put_c, if_neg hne] at this
    exact absurd this (by show ¬ 128 < 128; omega)
   subst hys
   refine ⟨rfl, rfl, ?_, ?_⟩
   ·rw [← hk]; show (emptyGr.put y k 0 (K.hash k % 128)).k y = k; rw [Gr.put_k, if_pos rfl]
   ·rw [← he]; show (if y = y then e else _) = e; rw [if_pos rfl]
  ·cases he; exact ⟨rfl, rfl⟩
 have hS' := hS.new hN
 refine out_new hS (fun _ _ _ _ h => h.elim) h3 ⟨EChg.append (hS.uni hV) (hS'.uni hM), hS', fun db D h => (by cases h), fun g G hr => hr.elim, fun g G _ _ hd => absurd hV.2.1 hd⟩
theorem put_small {sg : Nat} {G : Gr} (hV : MapIs K H bm m (.small sg G)) (hS : Sim K (.small sg G) id all) {V' : Mv} (h : PutE K nu H bm m (.small sg G) k e N g s m' V' S) : PutOut K H S m m' (.small sg G) (V'.setE g s e) id all k e := by
 have hM := h.map
 have hb : K.hash k % 128 < 128 := Nat.mod_lt _ (by decide)
 rcases h.res with ⟨hf, rfl, rfl, hu⟩ | ⟨hf, rfl, hs, hc, rfl, hu⟩ | ⟨hf, hu, db, nb, t0, t', σ, hF, hl0, hi0, hnb, hng, hP, rfl, rfl⟩
 ·obtain ⟨hs, hfu, hk⟩ := find_spec hf
  have hR : SetR K (.small g G) (Mv.setE (.small g (if nu then G.setK s k else G)) g s e) g s k e := by
   have hc : ∀ y, ((if nu then G.setK s k else G).setE s e).c y = G.c y := fun y => by cases nu <;> rfl
   refine ⟨⟨_, _, ⟨rfl, by omega, hfu, rfl, rfl⟩, hk⟩, fun x y k' e' hl => ?_, fun x y k' e' hl => ?_⟩
   ·obtain ⟨rfl, hy, hcy, hky, hey⟩ := hl
    rw [hc] at hcy
    by_cases e1 : y = s
    ·subst e1
     refine .inl ⟨rfl, rfl, ?_, _, _, ⟨rfl, by omega, hfu, rfl, rfl⟩, hk, ?_⟩
     ·rw [← hey]; show (if y = y then e else _) = e; rw [if_pos rfl]
     ·rw [← hky]
      cases nu with
      | true => left; show (if y = y then k else _) = k; rw [if_pos rfl]
      | false => right; rfl
    ·refine .inr ⟨fun h => e1 h.2, rfl, hy, hcy, ?_, ?_⟩
     ·rw [← hky]
      cases nu with
      | true => show _ = (if y = s then k else G.k y); rw [if_neg e1]
      | false => rfl
     ·rw [← hey]
      show _ = (if y = s then e else (if nu then G.setK s k else G).e y)
      rw [if_neg e1]; cases nu <;> rfl
   ·obtain ⟨rfl, hy, hcy, _, _⟩ := hl
    exact ⟨_, _, rfl, hy, by rw [hc]; exact hcy, rfl, rfl⟩
  obtain ⟨hfe, hS', a, a1, a2, a3⟩ := hS.set hV hR
  refine out_set hfe hu (mchg_small hV hM (EChg.set (hS.uni hV) a1 a3) hS' ⟨fun y _ hy _ => ⟨?_, rfl⟩, fun y _ hy _ => ⟨?_, rfl⟩⟩)
  ·cases nu <;> exact hy
  ·cases nu <;> exact hy
 ·have hN : NewR (.small g G) (Mv.setE (.small g (G.put s k (G.e s) (K.hash k % 128))) g s e) g s k e (fun x y => (x, y)) := by
   refine ⟨⟨rfl, hs, ?_, ?_, ?_⟩, fun x y k' e' hl => ?_, fun x y k1 e1 x' y' k2 e2 h1 h2 n1 n2 he => ?_, fun x y k' e' hl => ?_⟩
   ·show (G.put s k (G.e s) (K.hash k % 128)).c s < 128; rw [Gr.put_c, if_pos rfl]; exact hb
   ·show (G.put s k (G.e s) (K.hash k % 128)).k s = k; rw [Gr.put_k, if_pos rfl]
   ·show (if s = s then e else _) = e; rw [if_pos rfl]
   ·obtain ⟨rfl, hy, hcy, hky, hey⟩ := hl
    by_cases e1 : y = s
    ·subst e1
     refine .inl ⟨rfl, rfl, ?_, ?_⟩
     ·rw [← hky]; show (G.put y k (G.e y) (K.hash k % 128)).k y = k; rw [Gr.put_k, if_pos rfl]
     ·rw [← hey]; show (if y = y then e else _) = e; rw [if_pos rfl]
    ·refine .inr ⟨fun h => e1 h.2, rfl, hy, ?_, ?_, ?_⟩
     ·have : (G.put s k (G.e s) (K.hash k % 128)).c y < 128 := hcy
      rw [Gr.put_c, if_neg e1] at this; exact this
     ·rw [← hky]; show _ = (G.put s k (G.e s) (K.hash k % 128)).k y; rw [Gr.put_k, if_neg e1]
     ·rw [← hey]; show _ = (if y = s then e else (G.put s k (G.e s) (K.hash k % 128)).e y); rw [if_neg e1, Gr.put_e, if_neg e1]
   ·cases he; exact ⟨rfl, rfl⟩
   ·obtain ⟨rfl, hy, hcy, rfl, rfl⟩ := hl
    have e1 : y ≠ s := fun e1 => by rw [e1, hc] at hcy; omega
    refine ⟨x, y, ⟨rfl, hy, ?_, ?_, ?_⟩, fun h => e1 h.2, rfl⟩
    ·show (G.put s k (G.e s) (K.hash k % 128)).c y < 128; rw [Gr.put_c, if_neg e1]; exact hcy
    ·show (G.put s k (G.e s) (K.hash k % 128)).k y = _; rw [Gr.put_k, if_neg e1]
    ·show (if y = s then e else (G.put s k (G.e s) (K.hash k % 128)).e y) = _; rw [if_neg e1, Gr.put_e, if_neg e1]
  have hS' := hS.new hN
  refine out_new hS (find_small hf) hu (mchg_small hV hM (EChg.append (hS.uni hV) (hS'.uni hM)) hS' ⟨fun y _ hy hlt => ?_, fun y _ hy _ => ?_⟩)
  ·have e1 : y ≠ s := fun e1 => by subst e1; rw [newId_new] at hlt; omega
   refine ⟨?_, newId_old fun h => e1 h.2⟩
   have : (G.put s k (G.e s) (K.hash k % 128)).c y < 128 := hy
   rw [Gr.put_c, if_neg e1] at this; exact this
  ·have e1 : y ≠ s := fun e1 => by rw [e1, hc] at hy; omega
   refine ⟨?_, newId_old fun h => e1 h.2⟩
   show (G.put s k (G.e s) (K.hash k % 128)).c y < 128; rw [Gr.put_c, if_neg e1]; exact hy
 ·-- the map gets her first table
  obtain ⟨iv, hiv⟩ := hF.moved.inv
  have hsg : t'.gb ≠ sg := fun e1 => by have h5 := hV.2.2.2.2.1; rw [← e1, hP.gb, hng] at h5; cases h5
  have hz : (0 : Nat) < 2 ^ 0 := by decide
  have tabE : ∀ i, (Dir.setE ⟨0, fun _ => nb, fun _ => t'⟩ t'.gb s e).tab i = { t' with G := t'.G.setE s e } := fun i => by rw [Dir.setE_tab]; exact if_pos rfl
  have hN : NewR (.small sg G) (Mv.setE (.big db ⟨0, fun _ => nb, fun _ => t'⟩) t'.gb s e) t'.gb s k e (fun x y => if x = t'.gb then (sg, iv y) else (x, y)) := by
   have hsl : s < 8 * t'.n := by rw [hP.n]; exact hP.lt
   refine ⟨⟨0, hz, by rw [tabE], by rw [tabE]; exact hsl, by rw [tabE]; exact (hP.full s).2 (.inr rfl), by rw [tabE]; show t'.G.k s = k; rw [hP.key, if_pos rfl], by rw [tabE]; show (if s = s then e else _) = e; rw [if_pos rfl]⟩, fun x y k' e' hl => ?_, fun x y k1 e1 x' y' k2 e2 h1 h2 n1 n2 he => ?_, fun x y k' e' hl => ?_⟩
   ·obtain ⟨i, _, hx, hy, hcy, hky, hey⟩ := hl
    rw [tabE] at hx hy hcy hky hey
    have hx' : x = t'.gb := hx
    subst hx'
    by_cases e1 : y = s
    ·subst e1
     exact .inl ⟨rfl, rfl, by rw [← hky]; show t'.G.k y = k; rw [hP.key, if_pos rfl], by rw [← hey]; show (if y = y then e else _) = e; rw [if_pos rfl]⟩
    ·have hf' : t0.G.c y < 128 := ((hP.full y).1 hcy).resolve_right e1
     obtain ⟨a, b, _, c, d, f⟩ := hiv y (by rw [← hP.n]; exact hy) hf'
     refine .inr ⟨fun h => e1 h.2, ?_⟩
     rw [if_pos rfl]
     refine ⟨rfl, by omega, b, ?_, ?_⟩
     ·rw [← hky]; show _ = t'.G.k y; rw [hP.key, if_neg e1, d]
     ·rw [← hey]; show _ = (if y = s then e else t'.G.e y); rw [if_neg e1, hP.elem, f]
   ·obtain ⟨i, _, hx, hy, hcy, _⟩ := h1
    obtain ⟨i', _, hx', hy', hcy', _⟩ := h2
    rw [tabE] at hx hy hcy hx' hy' hcy'
    have hx1 : x = t'.gb := hx
    have hx2 : x' = t'.gb := hx'
    subst hx1; subst hx2
    rw [if_pos rfl, if_pos rfl] at he
    have e1 : y ≠ s := fun h => n1 ⟨rfl, h⟩
    have e2 : y' ≠ s := fun h => n2 ⟨rfl, h⟩
    obtain ⟨_, _, _, c, _⟩ := hiv y (by rw [← hP.n]; exact hy) (((hP.full y).1 hcy).resolve_right e1)
    obtain ⟨_, _, _, c', _⟩ := hiv y' (by rw [← hP.n]; exact hy') (((hP.full y').1 hcy').resolve_right e2)
    refine ⟨rfl, ?_⟩
    rw [← c, ← c', show iv y = iv y' from congrArg Prod.snd he]
   ·obtain ⟨rfl, hy, hcy, rfl, rfl⟩ := hl
    obtain ⟨a, b, c, d⟩ := hF.moved.into y (by omega) hcy rfl
    have e1 : σ y ≠ s := fun h => hP.free (by rw [← h]; exact b)
    obtain ⟨a', b', _, c', _⟩ := hiv _ a b
    refine ⟨t'.gb, σ y, ⟨0, hz, by rw [tabE], by rw [tabE]; show σ y < 8 * t'.n; rw [hP.n]; exact a, by rw [tabE]; exact (hP.full _).2 (.inl b), by rw [tabE]; show t'.G.k (σ y) = _; rw [hP.key, if_neg e1, c], by rw [tabE]; show (if σ y = s then e else t'.G.e (σ y)) = _; rw [if_neg e1, hP.elem, d]⟩, fun h => e1 h.2, ?_⟩
    rw [if_pos rfl]
    have : iv (σ y) = y := hF.moved.inj _ _ a' (by omega) b' hcy rfl rfl c'
    rw [this]
  have hS' := hS.new hN
  have hids : ∀ y, newId id (fun x y => if x = t'.gb then (sg, iv y) else (x, y)) t'.gb s all.length sg y = id sg y := mem_ids (fun h => hsg h.symm) fun y => if_neg fun h => hsg h.symm
  refine out_new hS (find_small hf) hu ⟨EChg.append (hS.uni hV) (hS'.uni hM), hS', fun db D h => (by cases h), fun g0 G0 hr _ => ?_, fun g0 G0 _ _ hd => absurd hV.small_len hd⟩
  obtain ⟨rfl, _, rfl⟩ := hr
  have hlen := hM.big_len
  refine ⟨G0, h.rest _ _ hV.2.2.2.2.1 (ne_of_ty hV.2.2.2.2.1 hV.1 rfl rfl rfl) (fun h => hsg h.symm) (fun h => h), ?_, fun h => absurd h hlen, fun _ n' G'' hr' => ?_⟩
  ·rw [decide_eq_true hlen]; exact .stale hids
  ·obtain ⟨i, _, hx, _⟩ := hr'
   rw [tabE] at hx
   exact hsg hx.symm
end
end
section
/-- Tables changed in their places. -/
theorem dchg_place {K : KT} {H S : Heap} {D : Dir} {T : Nat → Tb} {all all' : List Ent} {id id' : Nat → Nat → Nat} (hs : ∀ i, i < 2 ^ D.gd → SameTb (D.tab i) (T (D.d i)) ∧ Stay all all' id id' (D.tab i).gb (D.tab i).n (D.tab i).G (T (D.d i)).G)
  (hold : ∀ b t, H b = some (encT t) → H t.gb = some (encG t.n t.G) → (∀ i, i < 2 ^ D.gd → D.d i ≠ b ∧ (D.tab i).gb ≠ t.gb) → S b = some (encT t) ∧ S t.gb = some (encG t.n t.G) ∧ ∀ s, id' t.gb s = id t.gb s) (hg : D.gd ≤ 60) : DChg K H S D { D with T := T } all all' id id' := by
 refine ⟨fun h hh => ?_, Nat.le_refl _, fun _ _ _ => rfl, fun i hi => .inl ⟨i, hi, rfl, (hs i hi).1.n, (hs i hi).1.ld, (hs i hi).1.gb, (hs i hi).2⟩, fun b t h1 h2 h3 => ?_⟩
 ·have hi := dirIdx_lt (gd := D.gd) (by omega) hh
  exact Nat.le_of_eq ((hs _ hi).1.ld).symm
 ·obtain ⟨a, b', c⟩ := hold b t h1 h2 h3
  exact ⟨a, b', fun j hj => ⟨(h3 j hj).1, by show (T (D.d j)).gb ≠ _; rw [(hs j hj).1.gb]; exact (h3 j hj).2⟩, c⟩
theorem setTE_tab {K : KT} {D : Dir} (hD : D.OK K) {i j s : Nat} {e : Int} (hi : i < 2 ^ D.gd) (hj : j < 2 ^ D.gd) {t' : Tb} (hg : t'.gb = (D.tab j).gb) :
  ((D.setT (D.d j) t').setE t'.gb s e).tab i = if D.d i = D.d j then { t' with G := t'.G.setE s e } else D.tab i := by
 rw [Dir.setE_tab, Dir.setT_tab]
 by_cases h : D.d i = D.d j
 ·rw [if_pos h, if_pos rfl, if_pos h]
 ·rw [if_neg h, if_neg h, if_neg]
  rw [hg]; exact fun e => h (hD.gbs i j hi hj e)
section
variable {K : KT} {nu : Bool} {H S : Heap} {bm : Nat} {m m' : Mp} {k N g s : Nat} {e : Int} {id : Nat → Nat → Nat} {all : List Ent}
theorem put_set {db : Nat} {D : Dir} (hV : MapIs K H bm m (.big db D)) (hS : Sim K (.big db D) id all) {V' : Mv} (h : PutE K nu H bm m (.big db D) k e N g s m' V' S) {j : Nat} (hj : j < 2 ^ D.gd) (hf : find K (D.tab j).n (D.tab j).G k = some s) (hg : g = (D.tab j).gb)
  (hV' : V' = .big db (D.setT (D.d j) { D.tab j with G := if nu then (D.tab j).G.setK s k else (D.tab j).G })) (hu : m'.used = m.used) : PutOut K H S m m' (.big db D) (V'.setE g s e) id all k e := by
 have hM := h.map
 have hVb := hV
 obtain ⟨_, hmb, hA, hD, hg40⟩ := hVb
 subst hg
 subst hV'
 obtain ⟨hs, hfu, hk⟩ := find_spec hf
 obtain ⟨t', ht'⟩ : ∃ t', t' = { D.tab j with G := if nu then (D.tab j).G.setK s k else (D.tab j).G } := ⟨_, rfl⟩
 rw [← ht'] at hM ⊢
 have hgb : t'.gb = (D.tab j).gb := by rw [ht']
 have htn : t'.n = (D.tab j).n := by rw [ht']
 have hc : ∀ y, (t'.G.setE s e).c y = (D.tab j).G.c y := fun y => by rw [ht']; cases nu <;> rfl
 have htab := fun i (hi : i < 2 ^ D.gd) => setTE_tab (s := s) (e := e) hD hi hj hgb
 rw [hgb] at htab
 have eqt : ∀ i, D.d i = D.d j → D.tab i = D.tab j := fun i h => by unfold Dir.tab; rw [h]
 have hR : SetR K (.big db D) (Mv.setE (.big db (D.setT (D.d j) t')) (D.tab j).gb s e) (D.tab j).gb s k e := by
  refine ⟨⟨_, _, ⟨j, hj, rfl, hs, hfu, rfl, rfl⟩, hk⟩, fun x y k' e' hl => ?_, fun x y k' e' hl => ?_⟩
  ·obtain ⟨i, hi, hx, hy, hcy, hky, hey⟩ := hl
   rw [htab i hi] at hx hy hcy hky hey
   by_cases hij : D.d i = D.d j
   ·rw [if_pos hij] at hx hy hcy hky hey
    rw [hc] at hcy
    have hx' : x = (D.tab j).gb := hx
    have hy' : y < 8 * (D.tab j).n := by rw [← htn]; exact hy
    by_cases e1 : y = s
    ·subst e1
     refine .inl ⟨hx', rfl, ?_, _, _, ⟨j, hj, rfl, hs, hfu, rfl, rfl⟩, hk, ?_⟩
     ·rw [← hey]; show (if y = y then e else _) = e; rw [if_pos rfl]
     ·rw [← hky, ht']
      cases nu with
      | true => left; show (if y = y then k else _) = k; rw [if_pos rfl]
      | false => right; rfl
    ·refine .inr ⟨fun h => e1 h.2, j, hj, hx', hy', hcy, ?_, ?_⟩
     ·rw [← hky, ht']
      cases nu with
      | true => show _ = (if y = s then k else (D.tab j).G.k y); rw [if_neg e1]
      | false => rfl
     ·rw [← hey]
      show _ = (if y = s then e else t'.G.e y)
      rw [if_neg e1, ht']; cases nu <;> rfl
   ·rw [if_neg hij] at hx hy hcy hky hey
    exact .inr ⟨fun h => hij (hD.gbs i j hi hj (hx.symm.trans h.1)), i, hi, hx, hy, hcy, hky, hey⟩
  ·obtain ⟨i, hi, hx, hy, hcy, _, _⟩ := hl
   refine ⟨_, _, i, hi, ?_, ?_, ?_, rfl, rfl⟩ <;> rw [htab i hi] <;> by_cases hij : D.d i = D.d j
   ·rw [if_pos hij]; show x = (D.tab j).gb; rw [← eqt i hij]; exact hx
   ·rw [if_neg hij]; exact hx
   ·rw [if_pos hij]; show y < 8 * t'.n; rw [htn, ← eqt i hij]; exact hy
   ·rw [if_neg hij]; exact hy
   ·rw [if_pos hij, hc, ← eqt i hij]; exact hcy
   ·rw [if_neg hij]; exact hcy
 obtain ⟨hfe, hS', a, a1, a2, a3⟩ := hS.set hV hR
 have hgne : ∀ x u, H x = some u → objTy u ≠ 149 → x ≠ (D.tab j).gb := fun x u hx hu e => by
  rw [e, hA.grs j hj] at hx; cases hx; exact hu rfl
 refine out_set hfe hu ⟨EChg.set (hS.uni hV) a1 a3, hS', fun db0 D0 h0 => ?_, fun g0 G0 _ hd => absurd hd hV.big_len, fun g0 G0 h1 h2 _ => ⟨?_, hM.big_len, fun n' G' hr => ?_, fun _ => rfl⟩⟩
 ·cases h0
  refine ⟨db, _, rfl, ?_⟩
  refine dchg_place (fun i hi => ?_) (fun b t h1 h2 h3 => ⟨h.rest _ _ h1 (ne_of_ty h1 hV.cell rfl rfl rfl) (hgne _ _ h1 (by show (158 : Nat) ≠ 149; decide)) (fun ht => ?_), h.rest _ _ h2 (ne_of_ty h2 hV.cell rfl rfl rfl) (fun e => (h3 j hj).2 e.symm) (fun ht => ?_), fun _ => rfl⟩) hD.gd64
  ·have hti := htab i hi
   have hti' : ((D.setT (D.d j) t').setE (D.tab j).gb s e).T (D.d i) = _ := hti
   refine ⟨?_, ⟨fun y hy hf _ => ⟨?_, rfl⟩, fun y hy hf _ => ⟨?_, rfl⟩⟩⟩
   ·show SameTb (D.tab i) (((D.setT (D.d j) t').setE (D.tab j).gb s e).T (D.d i))
    rw [hti']
    by_cases hij : D.d i = D.d j
    ·rw [if_pos hij, eqt i hij]; exact ⟨htn, by rw [ht'], by rw [ht'], rfl⟩
    ·rw [if_neg hij]; exact ⟨rfl, rfl, rfl, rfl⟩
   ·have hf' : (((D.setT (D.d j) t').setE (D.tab j).gb s e).T (D.d i)).G.c y < 128 := hf
    rw [hti'] at hf'
    by_cases hij : D.d i = D.d j
    ·rw [if_pos hij, hc, ← eqt i hij] at hf'; exact hf'
    ·rw [if_neg hij] at hf'; exact hf'
   ·show (((D.setT (D.d j) t').setE (D.tab j).gb s e).T (D.d i)).G.c y < 128
    rw [hti']
    by_cases hij : D.d i = D.d j
    ·rw [if_pos hij, hc, ← eqt i hij]; exact hf
    ·rw [if_neg hij]; exact hf
  ·rcases ht with rfl | ⟨i, hi, e1⟩
   ·exact ne_of_ty h1 hA.dir rfl rfl rfl rfl
   ·exact (h3 i hi).1 e1.symm
  ·rcases ht with e1 | ⟨i, hi, e1⟩
   ·exact ne_of_ty h2 hA.dir rfl rfl rfl e1
   ·exact ne_of_ty h2 (hA.tabs i hi) rfl rfl rfl e1
 ·refine h.rest _ _ h1 (ne_of_ty h1 hV.cell rfl rfl rfl) (fun e => h2 _ _ ⟨j, hj, e, rfl, rfl⟩) (fun ht => ?_)
  rcases ht with e1 | ⟨i, hi, e1⟩
  ·exact ne_of_ty h1 hA.dir rfl rfl rfl e1
  ·exact ne_of_ty h1 (hA.tabs i hi) rfl rfl rfl e1
 ·obtain ⟨i, hi, hx, _⟩ := hr
  rw [htab i hi] at hx
  by_cases hij : D.d i = D.d j
  ·rw [if_pos hij] at hx; exact h2 _ _ ⟨j, hj, hx, rfl, rfl⟩
  ·rw [if_neg hij] at hx; exact h2 _ _ ⟨i, hi, hx, rfl, rfl⟩
end
end
section
section
variable {K : KT} {nu : Bool} {H S : Heap} {bm : Nat} {m m' : Mp} {k N g s : Nat} {e : Int} {id : Nat → Nat → Nat} {all : List Ent}
/-- A row of the new directory is new, or one of the old ones. -/
theorem Evo.row_old {D D1 : Dir} {ρ : Nat → Nat → Nat × Nat} (hE : Evo H S D D1 ρ) {j : Nat} (hj : j < 2 ^ D1.gd) : H (D1.tab j).gb = none ∨ ∃ i, i < 2 ^ D.gd ∧ D1.d j = D.d i ∧ ∃ x : Int, D1.tab j = { D.tab i with index := x } := by
 rcases hE.fresh j hj with ⟨i, hi, e⟩ | ⟨_, h⟩
 ·rcases hE.fate i hi with ⟨_, x, hx⟩ | ⟨hs, _⟩
  ·exact .inr ⟨i, hi, e, x, by unfold Dir.tab; rw [e, hx]⟩
  ·exact absurd e (hs j hj).1
 ·exact .inl h
theorem put_evo {db db1 : Nat} {D D1 : Dir} {ρ : Nat → Nat → Nat × Nat} (hV : MapIs K H bm m (.big db D)) (hS : Sim K (.big db D) id all) {V' : Mv} (h : PutE K nu H bm m (.big db D) k e N g s m' V' S) (hno : ∀ g s k' e, D.live g s k' e → K.eqk k k' = false) (hu : m'.used = m.used + 1)
  (hE : Evo H S D D1 ρ) (hD1 : D1.OK K) {j : Nat} (hj : j < 2 ^ D1.gd) {t' : Tb} (hP : PutOne K (D1.tab j) k s t') (hg : g = t'.gb) (hV' : V' = .big db1 (D1.setT (D1.d j) t')) : PutOut K H S m m' (.big db D) (V'.setE g s e) id all k e := by
 have hM := h.map
 have hVb := hV
 obtain ⟨_, hmb, hA, hD, hg40⟩ := hVb
 subst hg
 subst hV'
 have hgb : t'.gb = (D1.tab j).gb := hP.gb
 have htab := fun i (hi : i < 2 ^ D1.gd) => setTE_tab (s := s) (e := e) hD1 hi hj hgb
 have eqt : ∀ i, D1.d i = D1.d j → D1.tab i = D1.tab j := fun i h => by unfold Dir.tab; rw [h]
 -- the new slot's row: new, or an old one
 have hrowj := hE.row_old hj
 obtain ⟨ρ', hρ1, hρ2⟩ : ∃ ρ' : Nat → Nat → Nat × Nat, (∀ x y u, H x = some u → ρ' x y = (x, y)) ∧ (∀ x y, H x = none → ρ' x y = ρ x y) := by
  classical
  exact ⟨fun x y => if H x = none then ρ x y else (x, y), fun x y u hu => if_neg (by rw [hu]; simp), fun x y hn => if_pos hn⟩
 have hρ : ∀ i, i < 2 ^ D1.gd → ∀ y, ρ' (D1.tab i).gb y = ρ (D1.tab i).gb y := fun i hi y => by
  rcases hE.row_old hi with hn | ⟨i0, hi0, e0, x, hx⟩
  ·exact hρ2 _ _ hn
  ·have e1 : (D1.tab i).gb = (D.tab i0).gb := by rw [hx]
   rw [e1, hρ1 _ _ _ (hA.grs i0 hi0)]
   exact (hE.same i0 i y hi0 hi e0).symm
 have hrow_gb : ∀ i, i < 2 ^ D1.gd → ((D1.setT (D1.d j) t').setE t'.gb s e |>.tab i).gb = (D1.tab i).gb := fun i hi => by
  rw [htab i hi]
  by_cases hij : D1.d i = D1.d j
  ·rw [if_pos hij, eqt i hij]; exact hgb
  ·rw [if_neg hij]
 have hrow_n : ∀ i, i < 2 ^ D1.gd → ((D1.setT (D1.d j) t').setE t'.gb s e |>.tab i).n = (D1.tab i).n := fun i hi => by
  rw [htab i hi]
  by_cases hij : D1.d i = D1.d j
  ·rw [if_pos hij, eqt i hij]; exact hP.n
  ·rw [if_neg hij]
 have hrow_ld : ∀ i, i < 2 ^ D1.gd → ((D1.setT (D1.d j) t').setE t'.gb s e |>.tab i).ld = (D1.tab i).ld := fun i hi => by
  rw [htab i hi]
  by_cases hij : D1.d i = D1.d j
  ·rw [if_pos hij, eqt i hij]; exact hP.ld
  ·rw [if_neg hij]
 -- the slots
 have hslot : ∀ i y, i < 2 ^ D1.gd → ¬ ((D1.tab i).gb = t'.gb ∧ y = s) → ((((D1.setT (D1.d j) t').setE t'.gb s e).tab i).G.c y < 128 ∧ True ↔ (D1.tab i).G.c y < 128) := fun i y hi hne => by
  rw [htab i hi]
  by_cases hij : D1.d i = D1.d j
  ·rw [if_pos hij]
   have hys : y ≠ s := fun e1 => hne ⟨by rw [eqt i hij, hgb], e1⟩
   rw [eqt i hij]
   exact ⟨fun ⟨hc, _⟩ => ((hP.full y).1 hc).resolve_right hys, fun hc => ⟨(hP.full y).2 (.inl hc), trivial⟩⟩
  ·rw [if_neg hij]; exact ⟨fun h => h.1, fun h => ⟨h, trivial⟩⟩
 have hval : ∀ i y, i < 2 ^ D1.gd → ¬ ((D1.tab i).gb = t'.gb ∧ y = s) → (((D1.setT (D1.d j) t').setE t'.gb s e).tab i).G.k y = (D1.tab i).G.k y ∧ (((D1.setT (D1.d j) t').setE t'.gb s e).tab i).G.e y = (D1.tab i).G.e y := fun i y hi hne => by
  rw [htab i hi]
  by_cases hij : D1.d i = D1.d j
  ·rw [if_pos hij]
   have hys : y ≠ s := fun e1 => hne ⟨by rw [eqt i hij, hgb], e1⟩
   rw [eqt i hij]
   refine ⟨?_, ?_⟩
   ·show t'.G.k y = _; rw [hP.key, if_neg hys]
   ·show (if y = s then e else t'.G.e y) = _; rw [if_neg hys, hP.elem]
  ·rw [if_neg hij]; exact ⟨rfl, rfl⟩
 have hN : NewR (.big db D) (Mv.setE (.big db1 (D1.setT (D1.d j) t')) t'.gb s e) t'.gb s k e ρ' := by
  refine ⟨⟨j, hj, by rw [hrow_gb j hj, hgb], by rw [hrow_n j hj]; exact hP.lt, by rw [htab j hj, if_pos rfl]; exact (hP.full s).2 (.inr rfl), by rw [htab j hj, if_pos rfl]; show t'.G.k s = k; rw [hP.key, if_pos rfl], by rw [htab j hj, if_pos rfl]; show (if s = s then e else _) = e; rw [if_pos rfl]⟩, fun x y k' e' hl => ?_, fun x y k1 e1 x' y' k2 e2 h1 h2 n1 n2 he => ?_, fun x y k' e' hl => ?_⟩
  ·obtain ⟨i, hi, hx, hy, hcy, hky, hey⟩ := hl
   rw [hrow_gb i hi] at hx
   rw [hrow_n i hi] at hy
   by_cases hn : (D1.tab i).gb = t'.gb ∧ y = s
   ·have hij : D1.d i = D1.d j := hD1.gbs i j hi hj (hn.1.trans hgb)
    rw [htab i hi, if_pos hij] at hky hey
    obtain ⟨hn1, rfl⟩ := hn
    refine .inl ⟨hx.trans hn1, rfl, ?_, ?_⟩
    ·rw [← hky]; show t'.G.k y = k; rw [hP.key, if_pos rfl]
    ·rw [← hey]; show (if y = y then e else _) = e; rw [if_pos rfl]
   ·refine .inr ⟨fun h => hn ⟨hx.symm.trans h.1, h.2⟩, ?_⟩
    have hc := (hslot i y hi hn).1 ⟨hcy, trivial⟩
    obtain ⟨v1, v2⟩ := hval i y hi hn
    rw [v1] at hky
    rw [v2] at hey
    rw [hx, hρ i hi]
    exact hE.back _ _ _ _ ⟨i, hi, rfl, hy, hc, hky, hey⟩
  ·obtain ⟨i, hi, hx, hy, hcy, _⟩ := h1
   obtain ⟨i', hi', hx', hy', hcy', _⟩ := h2
   rw [hrow_gb i hi] at hx
   rw [hrow_n i hi] at hy
   rw [hrow_gb i' hi'] at hx'
   rw [hrow_n i' hi'] at hy'
   have hn : ¬ ((D1.tab i).gb = t'.gb ∧ y = s) := fun h => n1 ⟨hx.trans h.1, h.2⟩
   have hn' : ¬ ((D1.tab i').gb = t'.gb ∧ y' = s) := fun h => n2 ⟨hx'.trans h.1, h.2⟩
   rw [hx, hx', hρ i hi, hρ i' hi'] at he
   rw [hx, hx']
   exact hE.inj _ _ _ _ _ _ _ _ ⟨i, hi, rfl, hy, (hslot i y hi hn).1 ⟨hcy, trivial⟩, rfl, rfl⟩ ⟨i', hi', rfl, hy', (hslot i' y' hi' hn').1 ⟨hcy', trivial⟩, rfl, rfl⟩ he
  ·obtain ⟨g', s', ⟨i, hi, rfl, hy, hcy, hky, hey⟩, hr⟩ := hE.onto _ _ _ _ hl
   have hn : ¬ ((D1.tab i).gb = t'.gb ∧ s' = s) := fun h => by
    have hij : D1.d i = D1.d j := hD1.gbs i j hi hj (h.1.trans hgb)
    rw [eqt i hij, h.2] at hcy
    exact hP.free hcy
   obtain ⟨v1, v2⟩ := hval i s' hi hn
   refine ⟨(D1.tab i).gb, s', ⟨i, hi, (hrow_gb i hi).symm, by rw [hrow_n i hi]; exact hy, ((hslot i s' hi hn).2 hcy).1, by rw [v1]; exact hky, by rw [v2]; exact hey⟩, fun h => hn h, by rw [hρ i hi]; exact hr⟩
 have hS' := hS.new hN
 have hids : ∀ x u, H x = some u → x ≠ t'.gb → ∀ y, newId id ρ' t'.gb s all.length x y = id x y := fun x u hu hx => mem_ids hx fun y => hρ1 x y u hu
 -- a block that is no row of the old directory is none of the new one's
 have hgne : ∀ x u, H x = some u → (∀ i, i < 2 ^ D.gd → (D.tab i).gb ≠ x) → ∀ i, i < 2 ^ D1.gd → (D1.tab i).gb ≠ x := fun x u hu hx i hi e1 => by
  rcases hE.row_old hi with hn | ⟨i0, hi0, _, y, hy⟩
  ·rw [e1, hu] at hn; cases hn
  ·exact hx i0 hi0 (by rw [← e1, hy])
 refine out_new hS hno hu ⟨EChg.append (hS.uni hV) (hS'.uni hM), hS', fun db0 D0 h0 => ?_, fun g0 G0 _ hd => absurd hd hV.big_len, fun g0 G0 h1 h2 _ => ?_⟩
 ·cases h0
  refine ⟨db1, _, rfl, fun x hx => ?_, hE.gd, fun x hx hj => hE.stay x hx hj, fun i hi => ?_, fun b t h1 h2 h3 => ?_⟩
  ·have hi := dirIdx_lt (gd := D1.gd) (by have := hD1.gd64; omega) hx
   refine Nat.le_trans (hE.deep x hx) (Nat.le_of_eq ?_)
   exact (hrow_ld _ hi).symm
  ·rcases hE.fate i hi with ⟨⟨i', hi', e1⟩, x, hx⟩ | ⟨hst, hm⟩
   ·have ht1 : D1.tab i' = { D.tab i with index := x } := by unfold Dir.tab; rw [e1, hx]
    have g1 : (D1.tab i').gb = (D.tab i).gb := by rw [ht1]
    have n1 : (D1.tab i').n = (D.tab i).n := by rw [ht1]
    have l1 : (D1.tab i').ld = (D.tab i).ld := by rw [ht1]
    have c1 : (D1.tab i').G = (D.tab i).G := by rw [ht1]
    refine .inl ⟨i', hi', e1, (hrow_n i' hi').trans n1, (hrow_ld i' hi').trans l1, (hrow_gb i' hi').trans g1, fun y hy hf hlt => ?_, fun y hy hf _ => ?_⟩
    ·have hn : ¬ ((D1.tab i').gb = t'.gb ∧ y = s) := fun h => by
      rw [← g1, h.1, h.2, newId_new] at hlt; omega
     refine ⟨by rw [← c1]; exact (hslot i' y hi' hn).1 ⟨hf, trivial⟩, ?_⟩
     rw [newId_old (fun h => hn ⟨g1.trans h.1, h.2⟩), hρ1 _ _ _ (hA.grs i hi)]
    ·have hn : ¬ ((D1.tab i').gb = t'.gb ∧ y = s) := fun h => by
      have hij : D1.d i' = D1.d j := hD1.gbs i' j hi' hj (h.1.trans hgb)
      rw [← c1, eqt i' hij, h.2] at hf
      exact hP.free hf
     refine ⟨((hslot i' y hi' hn).2 (by rw [c1]; exact hf)).1, ?_⟩
     rw [newId_old (fun h => hn ⟨g1.trans h.1, h.2⟩), hρ1 _ _ _ (hA.grs i hi)]
   ·have hne : t'.gb ≠ (D.tab i).gb := by rw [hgb]; exact (hst j hj).2
    refine .inr ⟨fun i' hi' => ⟨(hst i' hi').1, by rw [hrow_gb i' hi']; exact (hst i' hi').2⟩, hm, h.rest _ _ (hA.grs i hi) (ne_of_ty (hA.grs i hi) hV.cell rfl rfl rfl) (fun e1 => hne e1.symm) (fun ht => ?_), hids _ _ (hA.grs i hi) (fun e1 => hne e1.symm)⟩
    rcases ht with e1 | ⟨i2, hi2, e1⟩
    ·exact ne_of_ty (hA.grs i hi) hA.dir rfl rfl rfl e1
    ·exact ne_of_ty (hA.grs i hi) (hA.tabs i2 hi2) rfl rfl rfl e1
  ·have hgt : t'.gb ≠ t.gb := by rw [hgb]; exact hgne _ _ h2 (fun i hi => (h3 i hi).2) j hj
   have hgb2 : b ≠ t'.gb := fun e1 => by
    rcases hrowj with hn | ⟨i0, hi0, _, y, hy⟩
    ·rw [← hgb, ← e1, h1] at hn; cases hn
    ·exact ne_of_ty (hA.grs i0 hi0) h1 rfl rfl rfl (show (D.tab i0).gb = b by rw [e1, hgb, hy])
   refine ⟨h.rest _ _ h1 (ne_of_ty h1 hV.cell rfl rfl rfl) hgb2 (fun ht => ?_), h.rest _ _ h2 (ne_of_ty h2 hV.cell rfl rfl rfl) (fun e1 => hgt e1.symm) (fun ht => ?_), fun i hi => ⟨fun e1 => ?_, by rw [hrow_gb i hi]; exact hgne _ _ h2 (fun i hi => (h3 i hi).2) i hi⟩, hids _ _ h2 (fun e1 => hgt e1.symm)⟩
   ·rcases ht with rfl | ⟨i, hi, e1⟩
    ·exact ne_of_ty h1 hA.dir rfl rfl rfl rfl
    ·exact (h3 i hi).1 e1.symm
   ·rcases ht with e1 | ⟨i, hi, e1⟩
    ·exact ne_of_ty h2 hA.dir rfl rfl rfl e1
    ·exact ne_of_ty h2 (hA.tabs i hi) rfl rfl rfl e1
   ·have e1' : D1.d i = b := e1
    rcases hE.fresh i hi with ⟨i0, hi0, e0⟩ | ⟨hn, _⟩
    ·exact (h3 i0 hi0).1 (e0.symm.trans e1')
    ·rw [e1', h1] at hn; cases hn
 ·have hx : ∀ i, i < 2 ^ D.gd → (D.tab i).gb ≠ g0 := fun i hi e1 => h2 _ _ ⟨i, hi, e1.symm, rfl, rfl⟩
  have hx1 := hgne _ _ h1 hx
  have hgt : g0 ≠ t'.gb := fun e1 => hx1 j hj (by rw [← hgb, e1])
  refine ⟨h.rest _ _ h1 (ne_of_ty h1 hV.cell rfl rfl rfl) hgt (fun ht => ?_), hM.big_len, fun n' G' hr => ?_, hids _ _ h1 hgt⟩
  ·rcases ht with e1 | ⟨i, hi, e1⟩
   ·exact ne_of_ty h1 hA.dir rfl rfl rfl e1
   ·exact ne_of_ty h1 (hA.tabs i hi) rfl rfl rfl e1
  ·obtain ⟨i, hi, hx', _⟩ := hr
   rw [hrow_gb i hi] at hx'
   exact hx1 i hi hx'.symm
/-- A put. -/
theorem put_out {V V' : Mv} (hV : MapIs K H bm m V) (hS : Sim K V id all) (h : PutE K nu H bm m V k e N g s m' V' S) : PutOut K H S m m' V (V'.setE g s e) id all k e := by
 cases V with
 | nil => exact put_nil hV hS h
 | small sg G => exact put_small hV hS h
 | big db D =>
  rcases h.res with ⟨j, hj, _, hf, hg, hV', hu⟩ | ⟨hno, hu, db1, D1, ρ, j, t', hE, hD1, hj, _, hP, hg, hV'⟩
  ·exact put_set hV hS h hj hf hg hV' hu
  ·exact put_evo hV hS h hno hu hE hD1 hj hP hg hV'
end
end
end Go.Proofs.YtddpfkcofmfmpaaGreatDoor
