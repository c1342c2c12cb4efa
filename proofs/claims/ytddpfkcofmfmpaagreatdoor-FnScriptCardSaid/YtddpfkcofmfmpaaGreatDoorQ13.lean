/-
  Deleting from a map. Conditions stand in each contract. An entry put with her element. Conditions stand in each contract. Clearing. Conditions stand in each contract. A table cleared. Conditions stand in each contract. Plain theory: a map cleared; two pointers compared. Conditions stand in each lemma.
  Conditions stand in each lemma.
-/
import Derived.Test.YtddpfkcofmfmpaaGreatDoorQ12
import Derived.LaidEqlPtr
namespace Go.Proofs.YtddpfkcofmfmpaaGreatDoor
open Go Go.RowKit
set_option maxRecDepth 20000
section
variable {w0 w : World} {H : Heap}
theorem c87g (hM : Mem w0 w H) (hD : HasDb w0) {K : KT} {E : Heap} {bty : Nat} {nu : Bool} (hE : E.le H) (T : TypOK K w0 E bty nu) {bm sg : Nat} {mm : Mp} {G : Gr} (hb : H bm = some (encM mm)) (hs : mm.small = some ⟨sg, 0, none⟩) (hg : H sg = some (encG 1 G)) (hG : SlotsOK K 1 G) (hmu : 0 < mm.used) (hmu' : mm.used < 2 ^ 64)
  {bk ok k : Nat} {obk : Obj} (hk : H bk = some obk) (hkc : objCell obk ok = some (u64 k)) (hkl : k < 2 ^ 64) :
  Calls Tryz.prog 87 [.pointer (some ⟨bm, 0, none⟩), .pointer (some ⟨bty, 0, none⟩), u64 (K.hash k), .pointer (some ⟨bk, ok, none⟩)].toArray w (Gives w0 fun v S => v = .tuple #[] ∧
   ((find K 1 G k = none ∧ S = H) ∨ ∃ s, find K 1 G k = some s ∧ S bm = some (encM { mm with used := mm.used - 1 }) ∧ S sg = some (encG 1 ((G.setE s 0).setC s 128)) ∧ ∀ x, x ≠ bm → x ≠ sg → S x = H x)) := by
 have n1 : bm ≠ sg := ne_of_ty hb hg rfl rfl rfl
 refine (c87 hM hD hE T hb hs hg n1 hG hmu hmu' hk hkc hkl).mono fun r w' h => ?_
 unfold SmallDeleted at h
 cases hf : find K 1 G k with
 | some s =>
  rw [hf] at h
  obtain ⟨hr, hM'⟩ := h
  exact ⟨_, _, hr, hM', rfl, .inr ⟨s, rfl, by rw [Heap.upd_ne _ _ n1, Heap.upd_same], Heap.upd_same _ _ _, fun x hx hy => by rw [Heap.upd_ne _ _ hy, Heap.upd_ne _ _ hx]⟩⟩
 | none =>
  rw [hf] at h
  obtain ⟨hr, hM'⟩ := h
  exact ⟨_, _, hr, hM', rfl, .inl ⟨rfl, rfl⟩⟩
theorem c89g (hM : Mem w0 w H) (hD : HasDb w0) {K : KT} {E : Heap} {bty : Nat} {nu : Bool} (hE : E.le H) (T : TypOK K w0 E bty nu) {b bm : Nat} {t : Tb} {mm : Mp} (hb : H b = some (encT t)) (hg : H t.gb = some (encG t.n t.G)) (hm : H bm = some (encM mm)) (hmu : 0 < mm.used) (hmu' : mm.used < 2 ^ 64)
  (hT : TOK K t) {bk ok k : Nat} {obk : Obj} (hk : H bk = some obk) (hkc : objCell obk ok = some (u64 k)) (hkl : k < 2 ^ 64) :
  Calls Tryz.prog 89 [.pointer (some ⟨b, 0, none⟩), .pointer (some ⟨bty, 0, none⟩), .pointer (some ⟨bm, 0, none⟩), u64 (K.hash k), .pointer (some ⟨bk, ok, none⟩)].toArray w (Gives w0 fun v S => ∃ x, v = .bool x ∧
   ((find K t.n t.G k = none ∧ x = false ∧ S = H) ∨ ∃ s, find K t.n t.G k = some s ∧ S b = some (encT (t.del s)) ∧ S bm = some (encM { mm with used := mm.used - 1 }) ∧ S t.gb = some (encG t.n (t.del s).G) ∧ ∀ x, x ≠ bm → x ≠ b → x ≠ t.gb → S x = H x)) := by
 have n1 : b ≠ bm := ne_of_ty hb hm rfl rfl rfl
 have n2 : b ≠ t.gb := ne_of_ty hb hg rfl rfl rfl
 have n3 : bm ≠ t.gb := ne_of_ty hm hg rfl rfl rfl
 refine (c89 hM hD hE T hb hg hm hmu hmu' n1 n2 n3 hT hk hkc hkl).mono fun r w' h => ?_
 unfold Deleted at h
 cases hf : find K t.n t.G k with
 | some s =>
  rw [hf] at h
  obtain ⟨hr, hM'⟩ := h
  exact ⟨_, _, hr, hM', _, rfl, .inr ⟨s, rfl, by rw [Heap.upd_ne _ _ n2, Heap.upd_ne _ _ n1, Heap.upd_same], by rw [Heap.upd_ne _ _ n3, Heap.upd_same], Heap.upd_same _ _ _, fun x hx hy hz => by rw [Heap.upd_ne _ _ hz, Heap.upd_ne _ _ hx, Heap.upd_ne _ _ hy]⟩⟩
 | none =>
  rw [hf] at h
  obtain ⟨hr, hM'⟩ := h
  exact ⟨_, _, hr, hM', _, rfl, .inl ⟨rfl, rfl, rfl⟩⟩
/-- A map, her own cells changed where her entries do not hang on them. -/
theorem MapIs.cells' {K : KT} {S S' : Heap} {bm : Nat} {m : Mp} {V : Mv} (h : MapIs K S bm m V) (x y c : Nat) (tb : Bool) (h1 : S' bm = some (encM { m with wr := x, seed := y, tomb := tb, clr := c })) (h2 : ∀ x u, S x = some u → x ≠ bm → ¬ Plain u → S' x = some u) : MapIs K S' bm { m with wr := x, seed := y, tomb := tb, clr := c } V := by
 have np149 : ∀ n G, ¬ Plain (encG n G) := fun n G h => h.2.1 rfl
 have np158 : ∀ t, ¬ Plain (encT t) := fun t h => h.2.2.1 rfl
 have np101 : ∀ n d, ¬ Plain (encD n d) := fun n d h => h.2.2.2 rfl
 cases V with
 | nil => exact ⟨h1, h.2⟩
 | small sg G => exact ⟨h1, h.2.1, h.2.2.1, h.2.2.2.1, h2 _ _ h.2.2.2.2.1 (ne_of_ty h.2.2.2.2.1 h.1 rfl rfl rfl) (np149 _ _), h.2.2.2.2.2⟩
 | big db D =>
  obtain ⟨a, b, c, d⟩ := h
  exact ⟨h1, ⟨b.gd, b.len, b.gs, b.small, b.dirp⟩, ⟨h2 _ _ c.dir (ne_of_ty c.dir a rfl rfl rfl) (np101 _ _), fun i hi => h2 _ _ (c.tabs i hi) (ne_of_ty (c.tabs i hi) a rfl rfl rfl) (np158 _), fun i hi => h2 _ _ (c.grs i hi) (ne_of_ty (c.grs i hi) a rfl rfl rfl) (np149 _ _)⟩, d⟩
theorem encI_plain (n : Nat) : Plain (encI n) := ⟨by show (3 : Nat) ≠ 132; decide, by show (3 : Nat) ≠ 149; decide, by show (3 : Nat) ≠ 158; decide, by show (3 : Nat) ≠ 101; decide⟩
set_option maxHeartbeats 4000000 in
theorem c75 (hM : Mem w0 w H) (hDb : HasDb w0) {K : KT} {E : Heap} {bty cb n N : Nat} {nu : Bool} (hE : E.le H) (hEP : ∀ x u, E x = some u → Plain u) (hEc : E cb = none) (Ty : TypOK K w0 E bty nu) (R : Rnd w0 E cb Ty.rand) (hcb : H cb = some (encI n)) (hn : n < 2 ^ 62) {bm : Nat} {m : Mp} {V : Mv} (hV : MapIs K H bm m V) (hwr : m.wr = 0) (hU : m.used = 0 → ∀ g s k e, ¬ V.live g s k e) (hmu : m.used < 2 ^ 62) (hPot : V.Pot N)
  {bk ok k : Nat} {obk : Obj} (hk : H bk = some obk) (hkP : Plain obk) (hkc : objCell obk ok = some (u64 k)) (hkl : k < 2 ^ 64) :
  Calls Tryz.prog 75 [.pointer (some ⟨bm, 0, none⟩), .pointer (some ⟨bty, 0, none⟩), .pointer (some ⟨bk, ok, none⟩)].toArray w (Gives w0 fun v S => v = .tuple #[] ∧ ∃ m' V' n', n' ≤ n + 1 ∧ DelM K H bm cb m V k N m' V' n' S) := by
 have hb := hV.cell
 have hh := K.lt k
 have hbc : bm ≠ cb := ne_of_ty hb hcb rfl rfl rfl
 have hkm : bk ≠ bm := hkP.ne hk hb (.inl rfl)
 have hPot1 : V.Pot (N + 1) := by
  cases V with
  | nil => trivial
  | small sg G => exact Nat.le_succ_of_le hPot
  | big db D => exact fun i hi => Nat.le_succ_of_le (hPot i hi)
 refine calls_start Tryz.func75 rfl Tryz.ntmps75 (Nat.le_of_ble_eq_true rfl) ?_
 refine wp_seq ?_
 refine rs hM ?_
 refine mv ?_
 refine rw_bin rfl rfl rfl rfl (b_nil_eq (some _) Tryz.underlying96) ?_
 refine mv ?_
 refine mv ?_
 refine rw_callq cr66 rfl rfl (fun H' w hle hM => c66 hM (hle _ _ hb)) rfl ?_
 refine rw_bin rfl rfl rfl rfl (b_eq _ _) ?_
 refine rw_pick rfl rfl rfl rfl rfl ?_
 refine rw_nil ?_; intro w hM
 refine wp_if (tmp_lt rfl) rfl (fun hc => ?_) (fun hc => ?_)
 ·have h0 : m.used = 0 := by have : ((m.used : Nat) : Int) = 0 := beq_iff_eq.1 hc; omega
  have hnone := findM_empty (k := k) hV (hU h0)
  refine wp_ret ?_
  simp only [Exit.then]
  refine post_none' rfl ⟨_, H, rfl, hM, rfl, m, V, n, Nat.le_succ _, ⟨hV, ?_, ⟨rfl, rfl, fun _ => rfl⟩, .inl rfl, hcb, hPot1, fun x u hx _ _ _ _ => hx⟩⟩
  cases V with
  | nil => exact ⟨rfl, rfl⟩
  | small sg G => exact .inl ⟨by simpa [findM] using hnone, rfl, rfl⟩
  | big db D => exact .inl ⟨hnone, rfl, rfl⟩
 have hu0 : 0 < m.used := by
  rcases Nat.eq_zero_or_pos m.used with h | h
  ·have hc' : (((m.used : Nat) : Int) == 0) = false := hc
   rw [h] at hc'; simp at hc'
  ·exact h
 refine wp_skip ?_
 refine wp_seq ?_
 refine rs hM ?_
 refine mv ?_
 refine nck ?_
 refine fa fr132_7 ?_
 refine lo ld5 hb ?_
 refine rw_bin rfl rfl rfl rfl (b_false (b_ne _ _) (by rw [hwr]; rfl)) ?_
 refine rw_nil ?_; intro w hM
 refine wp_if (tmp_lt rfl) rfl (by nofun) (fun hc => ?_)
 refine wp_skip ?_
 refine wp_mix_seq [] [] [0, 1, 2, 3, 4, 5, 6, 7, 8, 9, 10] H mixed (by kernel_rfl) (Heap.le_refl _) hM ?_
 refine mv ?_
 refine nck ?_
 refine fa fr88_0 ?_
 refine lo ld85 (hE _ _ Ty.typ) ?_
 refine mv ?_
 refine mv ?_
 refine nck ?_
 refine fa fr132_1 ?_
 refine lo ld12 hb ?_
 refine rw_callvq (captured := Ty.ch) Ty.crh rfl rfl rfl (fun H' w hle2 hM => Ty.hasher hM (Heap.le_trans hE hle2) (hle2 _ _ hk) hkc hkl) rfl ?_
 refine asg ?_
 refine rw_nil ?_; intro w hM
 refine rs hM ?_
 refine mv ?_
 refine nck ?_
 refine fa fr132_7 ?_
 refine lo ld5 hb ?_
 refine rw_bin (v := u8 1) rfl rfl rfl rfl (bin_eq (b_xor8 m.wr 1 (by omega) (by decide)) (by rw [hwr]; rfl)) ?_
 refine nck ?_
 refine fa fr132_7 ?_
 refine rw_store1 (v := .int .u8 _) sz5 rfl rfl rfl rfl hb rfl rfl (by nofun) (fun S4 hS4 kS4 => ?_)
 refine rw_nil ?_; intro w hM
 have hS4' : S4 bm = some (encM { m with wr := 1 }) := by rw [hS4]; rfl
 have hV4 := hV.cells 1 hS4' kS4
 have hE4 : E.le S4 := fun x u hx => (kS4 _ ((hEP x u hx).ne (hE _ _ hx) hb (.inl rfl))).trans (hE _ _ hx)
 have hk4 := (kS4 _ hkm).trans hk
 have hcb4 := (kS4 _ hbc.symm).trans hcb
 refine wp_seq_mid (fun f w => ∃ S m2 V2, Know f [(0, .pointer (some ⟨bm, 0, none⟩)), (1, .pointer (some ⟨bty, 0, none⟩))] ∧ Mem w0 w S ∧ MapIs K S bm m2 V2 ∧ m2.wr = 1 ∧ m2.clr = m.clr ∧ (m2.tomb = m.tomb ∨ ∃ db D, V = .big db D) ∧ (findM K k V = none → m2 = { m with wr := 1 }) ∧ DelR K m k m2 V V2 ∧ S cb = some (encI n) ∧ E.le S ∧ V2.Pot (N + 1) ∧ ∀ x u, H x = some u → x ≠ bm → (∀ g s, findM K k V = some (g, s) → x ≠ g) → ¬ V.tblk x → S x = some u) ?_ ?_
 ·cases V with
  | nil => have := hV.2.2.2.2; omega
  | small sg G =>
   obtain ⟨_, h1, h2, h3, hg, ⟨hG, hGd⟩, hu⟩ := hV4
   have hgc : sg ≠ cb := ne_of_ty hg hcb4 rfl rfl rfl
   refine rs hM ?_
   refine mv ?_
   refine nck ?_
   refine fa fr132_4 ?_
   refine lo ld3 hS4' ?_
   refine rw_bin rfl rfl rfl rfl (b_true (b_eq _ _) (by rw [show m.dirLen = 0 from h1]; rfl)) ?_
   refine rw_nil ?_; intro w hM
   refine wp_if (tmp_lt rfl) rfl (fun hc => ?_) (by nofun)
   have hM4 := hM
   refine re hM ?_
   refine mv ?_
   refine mv ?_
   refine mv ?_
   refine mv ?_
   refine rw_callE cr87 rfl rfl (fun w hM => c87g hM hDb hE4 Ty hS4' h2 hg hG hu0 (by show m.used < _; omega) hk4 hkc hkl) rfl (by nofun) ?_; rintro _ S6 ⟨rfl, hv⟩
   refine rw_nil ?_; intro w hM
   rcases hv with ⟨hf, hSe⟩ | ⟨s, hf, hbm6, hg6, hr6⟩
   ·rw [hSe] at hM
    refine ⟨_, rfl, S4, { m with wr := 1 }, .small sg G, Know.of ⟨rfl, rfl, trivial⟩, hM, ⟨hS4', h1, h2, h3, hg, ⟨hG, hGd⟩, hu⟩, rfl, rfl, .inl rfl, fun _ => rfl, .inl ⟨hf, rfl, rfl⟩, hcb4, hE4, hPot1, fun x u hx a _ _ => (kS4 _ a).trans hx⟩
   ·obtain ⟨q1, q2, q3⟩ := find_spec hf
    have hfM : findM K k (.small sg G) = some (sg, s) := by simp [findM, hf]
    have hcnt := small_del_cnt (G := G) (s := s) (by omega) q2
    refine ⟨_, rfl, S6, { { m with wr := 1 } with used := m.used - 1 }, .small sg ((G.setE s 0).setC s 128), Know.of ⟨rfl, rfl, trivial⟩, hM, ⟨hbm6, h1, h2, h3, hg6, SmallOK.del ⟨hG, hGd⟩, ?_⟩, rfl, rfl, .inl rfl, fun e => (by rw [hfM] at e; cases e), .inr ⟨s, hf, rfl, by show m.used - 1 + 1 = m.used; omega⟩, ?_, fun x u hx => ?_, ?_, fun x u hx a b _ => ?_⟩
    ·show m.used - 1 = _; have : m.used = cnt (isFull G) 8 := hu; omega
    ·rw [hr6 _ hbc.symm hgc.symm]; exact hcb4
    ·rw [hr6 _ ((hEP x u hx).ne (hE _ _ hx) hb (.inl rfl)) ((hEP x u hx).ne (hE4 _ _ hx) hg (.inr (.inl rfl)))]; exact hE4 _ _ hx
    ·show cnt _ 8 ≤ N + 1; have : cnt (isFull G) 8 ≤ N := hPot; omega
    ·rw [hr6 _ a (b _ _ hfM)]; exact (kS4 _ a).trans hx
  | big db D =>
   obtain ⟨_, hmb, hAt, hDok, hgd40⟩ := hV4
   have hgd' : m.gd = D.gd := hmb.gd
   have hlen' : m.dirLen = 2 ^ D.gd := hmb.len
   have hlen0 : ((m.dirLen : Int) == 0) = false := by rw [hlen']; exact nz (Nat.two_pow_pos _)
   have hi0 : dirIdx D.gd (K.hash k) < 2 ^ D.gd := dirIdx_lt (by omega) hh
   have hb1 := hAt.tabs _ hi0
   have hg1 := hAt.grs _ hi0
   have hgc : (D.tab (dirIdx D.gd (K.hash k))).gb ≠ cb := ne_of_ty hg1 hcb4 rfl rfl rfl
   have hbc1 : D.d (dirIdx D.gd (K.hash k)) ≠ cb := ne_of_ty hb1 hcb4 rfl rfl rfl
   have hdir : S4 db = some (encD m.dirLen (fun i => some ⟨D.d i, 0, none⟩)) := by rw [hlen']; exact hAt.dir
   have h88 : ∀ {H' : Heap} {w : World}, S4.le H' → Mem w0 w H' → Calls Tryz.prog 88 [.pointer (some ⟨bm, 0, none⟩), u64 (K.hash k)].toArray w (Keeps w0 H' (u64 (dirIdx D.gd (K.hash k)))) := fun hle hM => by
    have := c88 (m := { m with wr := 1 }) (h := K.hash k) hM (hle _ _ hS4') (hmb.len.trans (by rw [hmb.gd])) (hmb.gs.trans (by rw [hmb.gd])) (by rw [hmb.gd]; omega) hh
    rw [hmb.gd] at this; exact this
   refine rs hM ?_
   refine mv ?_
   refine nck ?_
   refine fa fr132_4 ?_
   refine lo ld3 hS4' ?_
   refine rw_bin rfl rfl rfl rfl (b_false (b_eq _ _) hlen0) ?_
   refine rw_nil ?_; intro w hM
   refine wp_if (tmp_lt rfl) rfl (by nofun) (fun hc => ?_)
   refine rs hM ?_
   refine mv ?_
   refine mv ?_
   refine rw_callq (v := u64 (dirIdx D.gd (K.hash k))) cr88 rfl rfl (fun H' w hle hM => h88 hle hM) rfl ?_
   refine asg ?_
   refine rw_nil ?_; intro w hM
   refine rs hM ?_
   refine mv ?_
   refine mv ?_
   refine rw_callq cr77 rfl rfl (fun H' w hle hM => c77 hM (hle _ _ hS4') hmb.dirp (hle _ _ hdir) (by rw [show m.dirLen = _ from hlen']; exact hi0)) rfl ?_
   refine mv ?_
   refine mv ?_
   refine mv ?_
   refine mv ?_
   refine rw_callE cr89 rfl rfl (fun w hM => c89g hM hDb hE4 Ty hb1 hg1 hS4' hu0 (by show m.used < _; omega) (hDok.tok _ hi0) hk4 hkc hkl) rfl (by nofun) ?_; rintro _ S8 ⟨x, rfl, hv⟩
   refine rw_nil ?_; intro w hM
   rcases hv with ⟨hf, rfl, hSe⟩ | ⟨s, hf, hb8, hm8, hg8, hr8⟩
   ·have hfM : findM K k (.big db D) = none := by simp [findM, hf]
    rw [hSe] at hM
    refine wp_if (tmp_lt rfl) rfl (by nofun) (fun hc => ?_)
    refine wp_skip ?_
    refine ⟨_, rfl, S4, { m with wr := 1 }, .big db D, Know.of ⟨rfl, rfl, trivial⟩, hM, ⟨hS4', hmb, hAt, hDok, hgd40⟩, rfl, rfl, .inl rfl, fun _ => rfl, .inl ⟨hfM, rfl, rfl⟩, hcb4, hE4, hPot1, fun x u hx a _ _ => (kS4 _ a).trans hx⟩
   ·obtain ⟨q1, q2, q3⟩ := find_spec hf
    have hfM : findM K k (.big db D) = some ((D.tab (dirIdx D.gd (K.hash k))).gb, s) := by simp [findM, hf]
    obtain ⟨ht1, _, ht3⟩ := Tb.del_ok (hDok.tok _ hi0) q1 q2
    have hsame : SameTb (D.tab (dirIdx D.gd (K.hash k))) ((D.tab (dirIdx D.gd (K.hash k))).del s) := ⟨rfl, rfl, rfl, rfl⟩
    have hroute : ∀ u, u < 8 * ((D.tab (dirIdx D.gd (K.hash k))).del s).n → ((D.tab (dirIdx D.gd (K.hash k))).del s).G.c u < 128 → D.at (K.hash (((D.tab (dirIdx D.gd (K.hash k))).del s).G.k u)) = D.d (dirIdx D.gd (K.hash k)) := fun u hu hfu => by
     have h9 : (if u = s then gone (D.tab (dirIdx D.gd (K.hash k))).G (s / 8) else (D.tab (dirIdx D.gd (K.hash k))).G.c u) < 128 := hfu
     by_cases e : u = s
     ·rw [if_pos e] at h9
      rcases gone_ok (hDok.tok _ hi0).sl (show s / 8 < (D.tab (dirIdx D.gd (K.hash k))).n by omega) with ⟨h, _⟩ | ⟨h, _⟩ <;> omega
     ·rw [if_neg e] at h9; exact hDok.route _ u hi0 hu h9
    have hrest : ∀ S', (∀ x, x ≠ bm → S' x = S8 x) → (∀ x u, H x = some u → x ≠ bm → (∀ g s, findM K k (.big db D) = some (g, s) → x ≠ g) → ¬ (Mv.big db D).tblk x → S' x = some u) ∧ S' cb = some (encI n) ∧ E.le S' ∧ ∀ mm, S' bm = some (encM mm) → mm.gd = m.gd → mm.dirLen = m.dirLen → mm.gs = m.gs → mm.small = m.small → mm.dirp = m.dirp → MapIs K S' bm mm (.big db (D.setT (D.at (K.hash k)) ((D.tab (dirIdx D.gd (K.hash k))).del s))) := fun S' hS' => by
     refine ⟨fun x u hx a b c => ?_, ?_, fun x u hx => ?_, fun mm hmm a1 a2 a3 a4 a5 => ⟨hmm, ⟨a1.trans hmb.gd, a2.trans hmb.len, a3.trans hmb.gs, a4.trans hmb.small, a5.trans hmb.dirp⟩, hAt.setT hDok hi0 hsame ?_ ?_ (fun x u hx a b c => ?_), hDok.setT hi0 hsame ht1 hroute, hgd40⟩⟩
     ·rw [hS' _ a, hr8 _ a (fun e => c (.inr ⟨_, hi0, e⟩)) (b _ _ hfM)]; exact (kS4 _ a).trans hx
     ·rw [hS' _ hbc.symm, hr8 _ hbc.symm hbc1.symm hgc.symm]; exact hcb4
     ·have z1 := (hEP x u hx).ne (hE _ _ hx) hb (.inl rfl)
      rw [hS' _ z1, hr8 _ z1 ((hEP x u hx).ne (hE4 _ _ hx) hb1 (.inr (.inr (.inl rfl)))) ((hEP x u hx).ne (hE4 _ _ hx) hg1 (.inr (.inl rfl)))]; exact hE4 _ _ hx
     ·rw [hS' _ (ne_of_ty hb1 hS4' rfl rfl rfl)]; exact hb8
     ·show S' (D.tab (dirIdx D.gd (K.hash k))).gb = _; rw [hS' _ (ne_of_ty hg1 hS4' rfl rfl rfl)]; exact hg8
     ·have z1 : x ≠ bm := fun e => by
       subst e; rw [hS4'] at hx; cases hx
       rcases c with c | c | c
       ·exact absurd (show (132 : Nat) = 101 from c) (by decide)
       ·exact absurd (show (132 : Nat) = 149 from c) (by decide)
       ·exact absurd (show (132 : Nat) = 158 from c) (by decide)
      rw [hS' _ z1, hr8 _ z1 b a]; exact hx
    have hpot : (Mv.big db (D.setT (D.at (K.hash k)) ((D.tab (dirIdx D.gd (K.hash k))).del s))).Pot (N + 1) := Pot.setT hPot hi0 rfl ht3
    refine wp_if (tmp_lt rfl) rfl (fun hc => ?_) (fun hc => ?_)
    ·refine re hM ?_
     refine mv ?_
     refine nck ?_
     refine fa fr132_8 ?_
     refine rw_store1 (v := .bool _) sz4 rfl rfl rfl rfl hm8 rfl rfl (by nofun) (fun S9 hS9 kS9 => ?_)
     refine rw_nil ?_; intro w hM
     obtain ⟨r1, r2, r3, r4⟩ := hrest S9 kS9
     exact ⟨_, rfl, S9, { { { m with wr := 1 } with used := m.used - 1 } with tomb := true }, _, Know.of ⟨rfl, rfl, trivial⟩, hM, r4 _ (hS9.trans rfl) rfl rfl rfl rfl rfl, rfl, rfl, .inr ⟨_, _, rfl⟩, fun e => (by rw [hfM] at e; cases e), .inr ⟨s, hf, rfl, by show m.used - 1 + 1 = m.used; omega⟩, r2, r3, hpot, r1⟩
    ·refine wp_skip ?_
     obtain ⟨r1, r2, r3, r4⟩ := hrest S8 (fun _ _ => rfl)
     exact ⟨_, rfl, S8, { { m with wr := 1 } with used := m.used - 1 }, _, Know.of ⟨rfl, rfl, trivial⟩, hM, r4 _ hm8 rfl rfl rfl rfl rfl, rfl, rfl, .inr ⟨_, _, rfl⟩, fun e => (by rw [hfM] at e; cases e), .inr ⟨s, hf, rfl, by show m.used - 1 + 1 = m.used; omega⟩, r2, r3, hpot, r1⟩
 ·rintro f w ⟨S, m2, V2, ⟨g0, rfl⟩, hM, hV2, hw2, hc2, htb2, hn2, hR2, hcbS, hES, hP2, hrS⟩
  have hbS := hV2.cell
  have hfin : ∀ (S' : Heap) (m3 : Mp) (n' : Nat), n' ≤ n + 1 → S' bm = some (encM { m3 with wr := 0 }) → m3.used = m2.used → m3.clr = m2.clr ∧ m3.tomb = m2.tomb → MapIs K S' bm { m3 with wr := 0 } V2 → (findM K k V = none → m3 = m2) → S' cb = some (encI n') → (∀ x, x ≠ bm → x ≠ cb → S' x = S x) → ∃ m' V' n', n' ≤ n + 1 ∧ DelM K H bm cb m V k N m' V' n' S' := by
   intro S' m3 n' hn' h1 h2 h3 h4 h5 h6 h7
   refine ⟨{ m3 with wr := 0 }, V2, n', hn', h4, ?_, ⟨hwr.symm, h3.1.trans hc2, fun e => ?_⟩, htb2.imp (fun h => h3.2.trans h) id, h6, hP2, fun x u hx a b c d => (h7 x a b).trans (hrS x u hx a c d)⟩
   ·cases V with
    | nil => exact ⟨hR2.1, h2.trans hR2.2⟩
    | small sg G =>
     rcases hR2 with ⟨a, b, c⟩ | ⟨s, a, b, c⟩
     ·exact .inl ⟨a, b, h2.trans c⟩
     ·exact .inr ⟨s, a, b, by show m3.used + 1 = _; rw [h2]; exact c⟩
    | big db D =>
     rcases hR2 with ⟨a, b, c⟩ | ⟨s, a, b, c⟩
     ·exact .inl ⟨a, b, h2.trans c⟩
     ·exact .inr ⟨s, a, b, by show m3.used + 1 = _; rw [h2]; exact c⟩
   ·rw [h5 e, hn2 e]
    show { m with wr := 0 } = m
    rw [← hwr]
  refine wp_seq_mid (fun f w => ∃ S' m3 n', Know f [(0, .pointer (some ⟨bm, 0, none⟩))] ∧ Mem w0 w S' ∧ n' ≤ n + 1 ∧ MapIs K S' bm m3 V2 ∧ m3.wr = 1 ∧ m3.used = m2.used ∧ (m3.clr = m2.clr ∧ m3.tomb = m2.tomb) ∧ (findM K k V = none → m3 = m2) ∧ S' cb = some (encI n') ∧ ∀ x, x ≠ bm → x ≠ cb → S' x = S x) ?_ ?_
  ·refine rs hM ?_
   refine mv ?_
   refine nck ?_
   refine fa fr132_0 ?_
   refine lo ld22 hbS ?_
   refine rw_bin rfl rfl rfl rfl (b_eq _ _) ?_
   refine rw_nil ?_; intro w hM
   refine wp_if (tmp_lt rfl) rfl (fun hc => ?_) (fun hc => ?_)
   ·have hz : m2.used = 0 := by have : ((m2.used : Nat) : Int) = 0 := beq_iff_eq.1 hc; omega
    have hty := hES _ _ Ty.typ
    rw [R.val] at hty
    refine re hM ?_
    refine mv ?_
    refine mv ?_
    refine nck ?_
    refine fa fr88_3 ?_
    refine lo ld69 hty ?_
    refine rw_callvE (captured := R.cr) R.run rfl rfl rfl (fun w hM => R.call hM hES hcbS hn) rfl (by nofun) ?_; rintro _ S5 ⟨r, n', rfl, hr, hn', hcb5, hr5⟩
    refine nck ?_
    refine fa fr132_1 ?_
    refine rw_store1 (v := .int .u64 _) sz12 rfl rfl rfl rfl ((hr5 _ hbc).trans hbS) rfl rfl (by nofun) (fun S11 hS11 kS11 => ?_)
    refine rw_nil ?_; intro w hM
    refine ⟨_, rfl, S11, { m2 with seed := r }, n', Know.of ⟨rfl, trivial⟩, hM, hn', ?_, hw2, rfl, ⟨rfl, rfl⟩, fun e => ?_, (kS11 _ hbc.symm).trans hcb5, fun x a b => (kS11 _ a).trans (hr5 _ b)⟩
    ·refine hV2.cells' m2.wr r m2.clr m2.tomb hS11 (fun x u hx a b => ?_)
     rw [kS11 _ a, hr5 _ (fun e => by subst e; rw [hcbS] at hx; cases hx; exact b (encI_plain _))]; exact hx
    ·have := hn2 e; rw [this] at hz; exact absurd hz (by show m.used ≠ 0; omega)
   ·refine wp_skip ?_
    exact ⟨_, rfl, S, m2, n, Know.of ⟨rfl, trivial⟩, hM, Nat.le_succ _, hV2, hw2, rfl, ⟨rfl, rfl⟩, fun _ => rfl, hcbS, fun _ _ _ => rfl⟩
  ·rintro f w ⟨S', m3, n', ⟨g1, rfl⟩, hM, hn', hV3, hw3, hu3, hc3, he3, hcb3, hr3⟩
   have hb3 := hV3.cell
   refine wp_seq ?_
   refine rs hM ?_
   refine mv ?_
   refine nck ?_
   refine fa fr132_7 ?_
   refine lo ld5 hb3 ?_
   refine rw_bin rfl rfl rfl rfl (b_false (b_eq _ _) (by rw [hw3]; rfl)) ?_
   refine rw_nil ?_; intro w hM
   refine wp_if (tmp_lt rfl) rfl (by nofun) (fun hc => ?_)
   refine wp_skip ?_
   refine re hM ?_
   refine mv ?_
   refine nck ?_
   refine fa fr132_7 ?_
   refine lo ld5 hb3 ?_
   refine rw_bin (v := u8 0) rfl rfl rfl rfl (bin_eq (b_xor8 m3.wr 1 (by rw [hw3]; decide) (by decide)) (by rw [hw3]; rfl)) ?_
   refine nck ?_
   refine fa fr132_7 ?_
   refine rw_store1 (v := .int .u8 _) sz5 rfl rfl rfl rfl hb3 rfl rfl (by nofun) (fun S14 hS14 kS14 => ?_)
   refine rw_nil ?_; intro w hM
   have hS14' : S14 bm = some (encM { m3 with wr := 0 }) := by rw [hS14]; rfl
   exact post_none rfl ⟨_, S14, rfl, hM, rfl, hfin S14 m3 n' hn' hS14' hu3 hc3 (hV3.cells 0 hS14' kS14) he3 ((kS14 _ hbc.symm).trans hcb3) (fun x a b => (kS14 _ a).trans (hr3 x a b))⟩
end
section
variable {w0 w : World} {H : Heap}
/-- The rows of a map's groups. -/
def Mv.row : Mv → Nat → Nat → Gr → Prop
 | .nil, _, _, _ => False
 | .small sg G, g, n, G' => g = sg ∧ n = 1 ∧ G' = G
 | .big _ D, g, n, G' => ∃ i, i < 2 ^ D.gd ∧ g = (D.tab i).gb ∧ n = (D.tab i).n ∧ G' = (D.tab i).G
def Dir.setE (D : Dir) (g s : Nat) (e : Int) : Dir := { D with T := fun b => if (D.T b).gb = g then { D.T b with G := (D.T b).G.setE s e } else D.T b }
def Mv.setE : Mv → Nat → Nat → Int → Mv
 | .nil, _, _, _ => .nil
 | .small sg G, _, s, e => .small sg (G.setE s e)
 | .big db D, g, s, e => .big db (D.setE g s e)
theorem SlotsOK.setE {K : KT} {n : Nat} {G : Gr} (h : SlotsOK K n G) {s : Nat} {e : Int} (he : InI64 e) : SlotsOK K n (G.setE s e) :=
 ⟨Gr.ok_setE h.ok he, h.st, h.h2, h.probe, h.uniq, h.mix⟩
theorem TOK.setE {K : KT} {t : Tb} (h : TOK K t) {s : Nat} {e : Int} (he : InI64 e) : TOK K { t with G := t.G.setE s e } := ⟨h.pow, h.cap, h.sl.setE he, h.used, h.room⟩
theorem Dir.setE_tab (D : Dir) (g s : Nat) (e : Int) (i : Nat) : (D.setE g s e).tab i = if (D.tab i).gb = g then { D.tab i with G := (D.tab i).G.setE s e } else D.tab i := rfl
theorem Dir.setE_k (D : Dir) (g s : Nat) (e : Int) (i : Nat) : ((D.setE g s e).tab i).n = (D.tab i).n ∧ ((D.setE g s e).tab i).ld = (D.tab i).ld ∧ ((D.setE g s e).tab i).index = (D.tab i).index ∧ ((D.setE g s e).tab i).gb = (D.tab i).gb ∧ ((D.setE g s e).tab i).G.c = (D.tab i).G.c ∧ ((D.setE g s e).tab i).G.k = (D.tab i).G.k ∧ encT ((D.setE g s e).tab i) = encT (D.tab i) ∧ psi ((D.setE g s e).tab i) = psi (D.tab i) := by
 rw [Dir.setE_tab]; split <;> exact ⟨rfl, rfl, rfl, rfl, rfl, rfl, rfl, rfl⟩
theorem Dir.OK.setE {K : KT} {D : Dir} (h : D.OK K) {g s : Nat} {e : Int} (he : InI64 e) : (D.setE g s e).OK K := by
 have hk := D.setE_k g s e
 refine ⟨⟨fun i hi => ?_, fun i hi => ?_, fun i j hi hj hb => ?_⟩, fun i hi => ?_, fun i j hi hj hb => ?_, fun i u hi hu hf => ?_, h.gd64⟩
 ·show ((D.setE g s e).tab i).ld ≤ _; rw [(hk i).2.1]; exact h.dok.ld i hi
 ·show ((D.setE g s e).tab i).index = ((base D.gd ((D.setE g s e).tab i).ld i : Nat) : Int); rw [(hk i).2.1, (hk i).2.2.1]; exact h.dok.idx i hi
 ·have hb' : base D.gd ((D.setE g s e).tab i).ld i = base D.gd ((D.setE g s e).tab i).ld j := hb
  rw [(hk i).2.1] at hb'; exact h.dok.same i j hi hj hb'
 ·rw [Dir.setE_tab]; split
  ·exact (h.tok i hi).setE he
  ·exact h.tok i hi
 ·rw [(hk i).2.2.2.1, (hk j).2.2.2.1] at hb; exact h.gbs i j hi hj hb
 ·rw [(hk i).1] at hu; rw [(hk i).2.2.2.2.1] at hf; rw [(hk i).2.2.2.2.2.1]; exact h.route i u hi hu hf
theorem MapIs.setE {K : KT} {S S' : Heap} {bm : Nat} {m : Mp} {V : Mv} (h : MapIs K S bm m V) {g s n : Nat} {G : Gr} {e : Int} (hr : V.row g n G) (he : InI64 e) (h1 : S' g = some (encG n (G.setE s e))) (h2 : ∀ x, x ≠ g → S' x = S x) : MapIs K S' bm m (V.setE g s e) := by
 cases V with
 | nil => exact hr.elim
 | small sg G0 =>
  obtain ⟨rfl, rfl, rfl⟩ := hr
  obtain ⟨a, b, c, d, f, ⟨i1, i2⟩, j⟩ := h
  exact ⟨(h2 _ (ne_of_ty a f rfl rfl rfl)).trans a, b, c, d, h1, ⟨i1.setE he, i2⟩, j⟩
 | big db D =>
  obtain ⟨i0, hi0, rfl, rfl, rfl⟩ := hr
  obtain ⟨a, b, c, d, f⟩ := h
  have hg := c.grs i0 hi0
  have hk := D.setE_k (D.tab i0).gb s e
  refine ⟨(h2 _ (ne_of_ty a hg rfl rfl rfl)).trans a, ⟨b.gd, b.len, b.gs, b.small, b.dirp⟩, ⟨(h2 _ (ne_of_ty c.dir hg rfl rfl rfl)).trans c.dir, fun i hi => ?_, fun i hi => ?_⟩, d.setE he, f⟩
  ·rw [(hk i).2.2.2.2.2.2.1]; exact (h2 _ (ne_of_ty (c.tabs i hi) hg rfl rfl rfl)).trans (c.tabs i hi)
  ·rw [(hk i).2.2.2.1, (hk i).1, Dir.setE_tab]
   by_cases e1 : (D.tab i).gb = (D.tab i0).gb
   ·have := d.gbs i i0 hi hi0 e1
    have e2 : D.tab i = D.tab i0 := by unfold Dir.tab; rw [this]
    rw [if_pos e1, e2]; exact h1
   ·rw [if_neg e1]; exact (h2 _ e1).trans (c.grs i hi)
theorem Mv.Pot.setE {V : Mv} {N g s : Nat} {e : Int} (h : V.Pot N) : (V.setE g s e).Pot N := by
 cases V with
 | nil => trivial
 | small sg G => exact h
 | big db D =>
  intro i hi
  have hk := D.setE_k g s e i
  show 192 * (((D.setE g s e).tab i).ld - 12) + psi ((D.setE g s e).tab i) ≤ N
  rw [hk.2.1, hk.2.2.2.2.2.2.2]; exact h i hi
/-- The row of the entry that was put. -/
theorem PutR.row {K : KT} {nu : Bool} {S : Heap} {m : Mp} {k g s : Nat} {m' : Mp} {V V' : Mv} (h : PutR K nu H S m k g s m' V V') : ∃ n G, V'.row g n G ∧ s < 8 * n := by
 cases V with
 | nil => obtain ⟨_, h2, rfl, _⟩ := h; exact ⟨1, _, ⟨rfl, rfl, rfl⟩, by omega⟩
 | small sg G =>
  rcases h with ⟨h1, rfl, rfl, _⟩ | ⟨_, rfl, h2, _, rfl, _⟩ | ⟨_, _, db, nb, t0, t', σ, _, _, _, _, _, hP, rfl, rfl⟩
  ·exact ⟨1, _, ⟨rfl, rfl, rfl⟩, (find_spec h1).1⟩
  ·exact ⟨1, _, ⟨rfl, rfl, rfl⟩, by omega⟩
  ·exact ⟨t'.n, t'.G, ⟨0, (show 0 < 2 ^ 0 by decide), rfl, rfl, rfl⟩, by rw [hP.n]; exact hP.lt⟩
 | big db D =>
  rcases h with ⟨j, hj, _, hf, rfl, rfl, _⟩ | ⟨_, _, db1, D1, ρ, j, t', _, _, hj, _, hP, rfl, rfl⟩
  ·refine ⟨_, _, ⟨j, hj, ?_, rfl, rfl⟩, ?_⟩
   ·rw [Dir.setT_tab, if_pos rfl]
   ·rw [Dir.setT_tab, if_pos rfl]; exact (find_spec hf).1
  ·refine ⟨_, _, ⟨j, hj, ?_, rfl, rfl⟩, ?_⟩
   ·rw [Dir.setT_tab, if_pos rfl]
   ·rw [Dir.setT_tab, if_pos rfl, hP.n]; exact hP.lt
theorem MapIs.grs {K : KT} {S : Heap} {bm : Nat} {m : Mp} {V : Mv} (h : MapIs K S bm m V) {g n : Nat} {G : Gr} (hr : V.row g n G) : S g = some (encG n G) := by
 cases V with
 | nil => exact hr.elim
 | small sg G0 => obtain ⟨rfl, rfl, rfl⟩ := hr; exact h.2.2.2.2.1
 | big db D => obtain ⟨i, hi, rfl, rfl, rfl⟩ := hr; exact h.2.2.1.grs i hi
/-- What a put with an element leaves. -/
structure PutE (K : KT) (nu : Bool) (H : Heap) (bm : Nat) (m : Mp) (V : Mv) (k : Nat) (e : Int) (N : Nat) (g s : Nat) (m' : Mp) (V' : Mv) (S : Heap) : Prop where
 map : MapIs K S bm m' (V'.setE g s e)
 res : PutR K nu H S m k g s m' V V'
 same : m'.seed = m.seed ∧ m'.wr = m.wr ∧ m'.tomb = m.tomb ∧ m'.clr = m.clr
 pot : (V'.setE g s e).Pot (N + 1)
 rest : ∀ x u, H x = some u → x ≠ bm → x ≠ g → ¬ V.tblk x → S x = some u
theorem c73 (hM : Mem w0 w H) (hDb : HasDb w0) {K : KT} {E : Heap} {bty : Nat} {nu : Bool} (hE : E.le H) (hEP : ∀ x u, E x = some u → Plain u) (Ty : TypOK K w0 E bty nu) {bm N : Nat} {m : Mp} {V : Mv} (hV : MapIs K H bm m V) (hwr : m.wr = 0) (hN : N ≤ 6000) (hPot : V.Pot N) (hCls : V.Cls K) (hmu : m.used < 2 ^ 62)
  {bk ok k : Nat} {obk : Obj} (hk : H bk = some obk) (hkP : Plain obk) (hkc : objCell obk ok = some (u64 k)) (hkl : k < 2 ^ 64) {be oe : Nat} {e : Int} {obe : Obj} (hbe : H be = some obe) (heP : Plain obe) (hec : objCell obe oe = some (i64 e)) (he : InI64 e) :
  Calls Tryz.prog 73 [.pointer (some ⟨bm, 0, none⟩), .pointer (some ⟨bty, 0, none⟩), .pointer (some ⟨bk, ok, none⟩), .pointer (some ⟨be, oe, none⟩)].toArray w (Gives w0 fun v S => v = .tuple #[] ∧ ∃ g s m' V', PutE K nu H bm m V k e N g s m' V' S) := by
 refine calls_start Tryz.func73 rfl Tryz.ntmps73 (Nat.le_of_ble_eq_true rfl) ?_
 refine rs hM ?_
 refine mv ?_
 refine mv ?_
 refine mv ?_
 refine rw_callE cr85 rfl rfl (fun w hM => c85 hM hDb hE hEP Ty hV hwr hN hPot hCls hmu hk hkP hkc hkl) rfl (by nofun) ?_; rintro _ S0 ⟨g, s, m', V', rfl, hP⟩
 refine asg ?_
 refine rw_nil ?_; intro w hM
 obtain ⟨n, G, hrow, hs⟩ := hP.res.row
 have hg := hP.map.grs hrow
 have hbeg : be ≠ g := by
  intro h
  rcases Classical.em (be = bm) with h1 | h1
  ·exact heP.ne hbe hV.cell (.inl rfl) h1
  ·-- g is the row of a map: her kind is another, or she was not there
   subst h
   have hres := hP.res
   cases V with
   | nil => rw [hres.1] at hbe; cases hbe
   | small sg G0 =>
    rcases hres with ⟨_, h, _⟩ | ⟨_, h, _⟩ | ⟨_, _, _, _, t0, t', _, _, _, _, _, h, hP1, h2, _⟩
    ·exact heP.ne hbe hV.2.2.2.2.1 (.inr (.inl rfl)) h
    ·exact heP.ne hbe hV.2.2.2.2.1 (.inr (.inl rfl)) h
    ·rw [h2, hP1.gb, h] at hbe; cases hbe
   | big db D =>
    rcases hres with ⟨j, hj, _, _, h, _⟩ | ⟨_, _, _, D1, _, j, t', hEv, _, hj, _, hP1, h, _⟩
    ·exact heP.ne hbe (hV.2.2.1.grs j hj) (.inr (.inl rfl)) h
    ·rw [hP1.gb] at h
     rcases hEv.fresh j hj with ⟨i, hi, e1⟩ | ⟨_, e1⟩
     ·rcases hEv.fate i hi with ⟨_, x, hx⟩ | ⟨hx, _⟩
      ·have : (D1.tab j).gb = (D.tab i).gb := by unfold Dir.tab; rw [e1, hx]
       rw [this] at h
       exact heP.ne hbe (hV.2.2.1.grs i hi) (.inr (.inl rfl)) h
      ·exact (hx j hj).1 e1
     ·rw [h, e1] at hbe; cases hbe
 have hbe0 : S0 be = some obe := hP.rest _ _ hbe (heP.ne hbe hV.cell (.inl rfl)) hbeg (fun h => by
  cases V with
  | nil => exact h
  | small _ _ => exact h
  | big db D =>
   rcases h with h | ⟨i, hi, h⟩
   ·exact heP.ne hbe hV.2.2.1.dir (.inr (.inr (.inr rfl))) h
   ·exact heP.ne hbe (hV.2.2.1.tabs i hi) (.inr (.inr (.inl rfl))) h)
 have hs8 : s % 8 < 8 := by omega
 have hsn : s / 8 < n := by omega
 have es : 8 * (s / 8) + s % 8 = s := by omega
 refine re hM ?_
 refine mv ?_
 refine mv ?_
 refine nck ?_
 refine rw_load ld125 rfl rfl rfl hbe0 hec ?_
 refine nck ?_
 refine rw_storeE (v := .int .i64 _) (c' := arrG n (G.setE (8 * (s / 8) + s % 8) e)) sz125 rfl rfl rfl rfl hg (arrG_setE hsn hs8) (by rw [arrG_size]; omega) rfl (by nofun) (fun S1 hS1 kS1 => ?_)
 refine rw_nil ?_; intro w hM
 refine post_none rfl ⟨_, S1, rfl, hM, rfl, g, s, m', V', ⟨hP.map.setE hrow he (by rw [hS1, es]; rfl) kS1, ?_, hP.same, hP.pot.setE, fun x u hx a b c => (kS1 _ b).trans (hP.rest x u hx a b c)⟩⟩
 have hr := hP.res
 cases V with
 | nil => exact hr
 | small sg G => exact hr
 | big db D =>
  rcases hr with hr | ⟨a, b, db1, D1, ρ, j, t', hE, hr⟩
  ·exact .inl hr
  ·refine .inr ⟨a, b, db1, D1, ρ, j, t', ⟨hE.gd, hE.back, hE.inj, hE.onto, hE.same, fun i hi => ?_, hE.fresh, hE.deep, hE.stay⟩, hr⟩
   rcases hE.fate i hi with h3 | ⟨h3, h4⟩
   ·exact .inl h3
   ·exact .inr ⟨h3, (kS1 _ (ne_of_ty h4 hg rfl rfl rfl)).trans h4⟩
end
section
section
variable {P : Program} {ops : Array Oper} {sp br : List Nat} {d : Bool} {w0 : World} {K : Slots → World → Prop} {i : Nat} {rest : List Nat} {Hq H : Heap} {f : Slots}
variable {ty : TypeId} {pos : String} {aft : Array Edge} {g : Option (Nat × Bool)}
/-- Several cells of a block whose cells are known by a name. -/
theorem rw_storeM {t : TypeId} {x y : Operand} {n b off : Nat} {c c' : Array Value} {e : TypeId} {v : Value} (hs : SizeRun P t n) (ho : ops[i]? = some ⟨none, .store t x y, ty, pos, aft, g⟩) (hw : wantedS ops f ⟨none, .store t x y, ty, pos, aft, g⟩ = true)
  (hx : ev f x = .pointer (some ⟨b, off, none⟩)) (hy : ev f y = v) (hH : H b = some (.cells c e (0, 0))) (hE : setMany c off v.cells.toList = c') (hn : v.cells.size = n) (hoff : off + n ≤ c.size) (hv : v.cells.toList.all Value.oneCell' = true) (hd : d = true → sp.contains i = true ∧ br.contains i = true)
  (h : ∀ S : Heap, S b = some (.cells c' e (0, 0)) → (∀ k, k ≠ b → S k = H k) → RW P ops sp br d w0 K rest S S f) : RW P ops sp br d w0 K (i :: rest) Hq H f :=
 rw_storeU hs ho hw hx hy hH hn hoff hv hd (by subst hE; exact h _ (Heap.upd_same _ _ _) fun _ hk => Heap.upd_ne _ _ hk)
end
theorem setMany_get : ∀ (vs : List Value) (c : Array Value) (off t : Nat) (_ : t < c.size), (setMany c off vs)[t]? = if off ≤ t ∧ t < off + vs.length then vs[t - off]? else c[t]?
 | [], c, off, t, ht => by simp only [setMany, List.length_nil]; rw [if_neg (by omega)]
 | v :: vs, c, off, t, ht => by
  simp only [setMany, List.length_cons]
  rw [setMany_get vs _ _ _ (by simpa using ht)]
  by_cases h1 : off + 1 ≤ t ∧ t < off + 1 + vs.length
  ·rw [if_pos h1, if_pos (by omega), show t - off = t - (off + 1) + 1 by omega, List.getElem?_cons_succ]
  ·rw [if_neg h1]
   by_cases h2 : t = off
   ·subst h2; rw [if_pos (by omega)]; simp [ht]
   ·rw [if_neg (by omega), Array.getElem?_setIfInBounds_ne (fun e => h2 e.symm)]
/-- A group zeroed. -/
def Gr.zero (G : Gr) (g : Nat) : Gr := ⟨fun s => if s / 8 = g then 0 else G.c s, fun s => if s / 8 = g then 0 else G.k s, fun s => if s / 8 = g then 0 else G.e s⟩
theorem arrG_zero {n g : Nat} {G : Gr} (_ : g < n) : setMany (arrG n G) (17 * g) zeroCells.toList = arrG n (G.zero g) := by
 apply Array.ext
 ·simp [setMany_size, arrG_size]
 ·intro t h1 h2
  have ht : t < 17 * n := by simpa [arrG_size] using h2
  have h3 := setMany_get zeroCells.toList (arrG n G) (17 * g) t (by simpa [arrG_size] using ht)
  rw [Array.getElem?_eq_getElem h1] at h3
  apply Option.some.inj
  rw [h3]
  have hl : zeroCells.toList.length = 17 := rfl
  rw [hl]
  by_cases h4 : 17 * g ≤ t ∧ t < 17 * g + 17
  ·rw [if_pos h4]
   have hz := zeroCells_at (t - 17 * g) (by omega)
   have : zeroCells.toList[t - 17 * g]? = some zeroCells[t - 17 * g]! := by
    rw [Array.getElem?_toList]
    have hs : t - 17 * g < zeroCells.size := by show _ < 17; omega
    rw [Array.getElem?_eq_getElem hs, getElem!_pos zeroCells _ hs]
   rw [this, hz]
   simp only [arrG, Array.getElem_ofFn, cellG]
   have e1 : t / 17 = g := by omega
   have e2 : t % 17 = t - 17 * g := by omega
   rw [e1, e2]
   refine congrArg some ?_
   by_cases c0 : t - 17 * g = 0
   ·rw [if_pos c0, if_pos c0]
    have : word ((G.zero g).at g) = 0 := by
     rw [word_congr (d := fun _ => 0) (fun j hj => by simp only [Gr.at, Gr.zero]; rw [if_pos (by omega)])]; rfl
    rw [this]
   ·rw [if_neg c0, if_neg c0]
    by_cases c1 : t - 17 * g < 9
    ·rw [if_pos c1, if_pos c1]; simp only [Gr.zero]; rw [if_pos (by omega)]
    ·rw [if_neg c1, if_neg c1]; simp only [Gr.zero]; rw [if_pos (by omega)]
  ·have hs : t < (arrG n G).size := by rw [arrG_size]; exact ht
   rw [if_neg h4, Array.getElem?_eq_getElem hs]
   refine congrArg some ?_
   simp only [arrG, Array.getElem_ofFn, cellG]
   have e1 : t / 17 ≠ g := by omega
   by_cases c0 : t % 17 = 0
   ·rw [if_pos c0, if_pos c0]
    refine congrArg u64 (word_congr fun j hj => ?_)
    simp only [Gr.at, Gr.zero]; rw [if_neg (by omega)]
   ·rw [if_neg c0, if_neg c0]
    by_cases c1 : t % 17 < 9
    ·rw [if_pos c1, if_pos c1]; simp only [Gr.zero]; rw [if_neg (by omega)]
    ·rw [if_neg c1, if_neg c1]; simp only [Gr.zero]; rw [if_neg (by omega)]
def Gr.empty (G : Gr) (g : Nat) : Gr := { G with c := fun s => if s / 8 = g then 128 else G.c s }
theorem Gr.ok_zero {G : Gr} (h : G.ok) (g : Nat) : (G.zero g).ok := by
 refine ⟨fun s => ?_, fun s => ?_, fun s => ?_⟩
 ·show (if s / 8 = g then 0 else G.c s) < 256; split
  ·decide
  ·exact h.1 s
 ·show (if s / 8 = g then 0 else G.k s) < 2 ^ 64; split
  ·decide
  ·exact h.2.1 s
 ·show -_ ≤ (if s / 8 = g then (0 : Int) else G.e s) ∧ (if s / 8 = g then (0 : Int) else G.e s) < _; split
  ·decide
  ·exact h.2.2 s
theorem Gr.ok_empty {G : Gr} (h : G.ok) (g : Nat) : (G.empty g).ok := by
 refine ⟨fun s => ?_, h.2.1, h.2.2⟩
 show (if s / 8 = g then 128 else G.c s) < 256; split
 ·decide
 ·exact h.1 s
variable {w0 w : World} {H : Heap}
theorem c76 (hM : Mem w0 w H) {x : Option Addr} {bm sg : Nat} {m : Mp} {G : Gr} (hb : H bm = some (encM m)) (hs : m.small = some ⟨sg, 0, none⟩) (hg : H sg = some (encG 1 G)) :
  Calls Tryz.prog 76 [.pointer (some ⟨bm, 0, none⟩), .pointer x].toArray w (Gives w0 fun v S => v = .tuple #[] ∧ S bm = some (encM { m with used := 0 }) ∧ S sg = some (encG 1 ((G.zero 0).empty 0)) ∧ ∀ x u, H x = some u → x ≠ bm → x ≠ sg → S x = some u) := by
 have hbg : bm ≠ sg := ne_of_ty hb hg rfl rfl rfl
 refine calls_start Tryz.func76 rfl Tryz.ntmps76 (Nat.le_of_ble_eq_true rfl) ?_
 refine rs hM ?_
 refine mv ?_
 refine nck ?_
 refine fa fr132_2 ?_
 refine rw_load (v := .pointer (some ⟨sg, 0, none⟩)) ld102 rfl rfl rfl hb (by rw [← hs]; rfl) ?_
 refine rw_build (bd104_0 _) rfl rfl rfl ?_
 refine rw_allocN Tryz.zeroValue104 rfl rfl (fun b4 G4 n4 l4 e4 k4 => ?_)
 refine rw_store (v := .agg #[.pointer _]) sz104 rfl rfl rfl rfl e4 rfl rfl rfl (by nofun) (fun S0 hS0 kS0 => ?_)
 refine rw_nil ?_; intro w hM
 have hle := le_keep l4 n4 kS0
 have hg0 := hle _ _ hg
 have d4 : sg ≠ b4 := ne_of_ty hg0 hS0 rfl rfl rfl
 refine rs hM ?_
 refine fa fr104_0 ?_
 refine lo ld102 hS0 ?_
 refine rw_build (v := .agg zeroCells) bd149_ rfl rfl rfl ?_
 refine nck ?_
 refine rw_storeM (v := .agg zeroCells) (off := 0) (n := 17) sz149 rfl rfl rfl rfl hg0 (arrG_zero (n := 1) (g := 0) (by decide)) rfl (by rw [arrG_size]; decide) rfl (by nofun) (fun S1 hS1 kS1 => ?_)
 refine rw_nil ?_; intro w hM
 have h41 := (kS1 _ d4.symm).trans hS0
 refine rs hM ?_
 refine rw_callq cr90 rfl rfl (fun H' w hle hM => c90 hM (hle _ _ h41) rfl) rfl ?_
 refine rw_callS cr91 rfl rfl (fun w hM => c91 hM hS1 (by rw [arrG_size]; decide)) rfl (by nofun) (fun S2 hS2 kS2 => ?_)
 refine rw_nil ?_; intro w hM
 have hb2 := (kS2 _ hbg).trans ((kS1 _ hbg).trans (hle _ _ hb))
 refine re hM ?_
 refine mv ?_
 refine nck ?_
 refine fa fr132_0 ?_
 refine rw_store1 (v := .int .u64 _) sz22 rfl rfl rfl rfl hb2 rfl rfl (by nofun) (fun S3 hS3 kS3 => ?_)
 refine rw_nil ?_; intro w hM
 refine post_none rfl ⟨_, S3, rfl, hM, rfl, ?_, ?_, fun y u hy a b => ?_⟩
 ·rw [hS3]; rfl
 ·rw [kS3 _ hbg.symm, hS2]
  have := arrG_setW (n := 1) (g := 0) (G := G.zero 0) (by decide)
  rw [show 17 * 0 = 0 from rfl] at this
  rw [this]; rfl
 ·rw [kS3 _ a, kS2 _ b, kS1 _ b]; exact hle _ _ hy
end
section
variable {w0 w : World} {H : Heap}
/-- The groups below i are empty. -/
structure Emptied (w0 : World) (H : Heap) (b : Nat) (t : Tb) (i : Nat) (G : Gr) (w : World) (S : Heap) : Prop where
 mem : Mem w0 w S
 ok : G.ok
 emp : ∀ s, s < 8 * i → G.c s = 128
 tb : S b = some (encT t)
 grs : S t.gb = some (encG t.n G)
 rest : ∀ x u, H x = some u → x ≠ b → x ≠ t.gb → S x = some u
theorem c91g {S : Heap} (hM : Mem w0 w S) {gb n g : Nat} {G : Gr} (hg : S gb = some (encG n G)) (hlt : g < n) : Calls Tryz.prog 91 [.pointer (some ⟨gb, 17 * g, none⟩)].toArray w (Sets w0 S gb (encG n (G.empty g)) (.tuple #[])) := by
 have := c91 hM hg (off := 17 * g) (by rw [arrG_size]; omega)
 rw [arrG_setW hlt] at this
 exact this
set_option maxHeartbeats 2000000 in
theorem c78 (hM : Mem w0 w H) {K : KT} {x : Option Addr} {b : Nat} {t : Tb} (hb : H b = some (encT t)) (hg : H t.gb = some (encG t.n t.G)) (hT : TOK K t) :
  Calls Tryz.prog 78 [.pointer (some ⟨b, 0, none⟩), .pointer x].toArray w (Gives w0 fun v S => v = .tuple #[] ∧ ∃ G', G'.ok ∧ (∀ s, s < 8 * t.n → G'.c s = 128) ∧ S b = some (encT { t with used := 0, gl := 7 * t.n, G := G' }) ∧ S t.gb = some (encG t.n G') ∧ ∀ x u, H x = some u → x ≠ b → x ≠ t.gb → S x = some u) := by
 have hn := hT.npos
 have hroom := hT.room
 have hcap := hT.cap
 have hbg : b ≠ t.gb := ne_of_ty hb hg rfl rfl rfl
 refine calls_start Tryz.func78 rfl Tryz.ntmps78 (Nat.le_of_ble_eq_true rfl) ?_
 refine rs hM ?_
 refine mv ?_
 refine rw_callq cr92 rfl rfl (fun H' w hle hM => c92 hM (hle _ _ hb) rfl hcap hn.1 hn.2) rfl ?_
 refine asg ?_
 refine rw_nil ?_; intro w hM
 have hmain : ∀ (w : World) (f : Slots), Know f [(0, .pointer (some ⟨b, 0, none⟩)), (1, .pointer x), (4, u16 (7 * t.n))] → Mem w0 w H → True := fun _ _ _ _ => trivial
 refine wp_seq_mid (fun f w => Know f [(0, .pointer (some ⟨b, 0, none⟩)), (1, .pointer x), (4, u16 (7 * t.n))] ∧ Mem w0 w H) ?_ ?_
 ·by_cases hu : t.used = 0
  ·refine rs hM ?_
   refine mv ?_
   refine nck ?_
   refine fa fr158_0 ?_
   refine lo ld152 hb ?_
   refine rw_bin rfl rfl rfl rfl (b_true (b_eq _ _) (by rw [hu]; rfl)) ?_
   refine mv ?_
   refine mv ?_
   refine nck ?_
   refine fa fr158_2 ?_
   refine lo ld152 hb ?_
   refine mv ?_
   refine rw_bin rfl rfl rfl rfl (b_eq _ _) ?_
   refine rw_pick rfl rfl rfl rfl rfl ?_
   refine rw_nil ?_; intro w hM
   refine wp_if (tmp_lt rfl) rfl (fun hc => ?_) (fun hc => ?_)
   ·have hgl : t.gl = 7 * t.n := by have h1 : ((t.gl : Nat) : Int) = ((7 * t.n : Nat) : Int) := beq_iff_eq.1 hc; omega
    refine wp_ret ?_
    simp only [Exit.then]
    refine post_none' rfl ⟨_, H, rfl, hM, rfl, t.G, hT.sl.ok, fun s hs => ?_, ?_, hg, fun x u hx _ _ => hx⟩
    ·have h1 := hT.used
     rcases hT.sl.st s hs with h | h | h
     ·have := cnt_pos (q := isFull t.G) hs (by simp [isFull, h]); omega
     ·exact h
     ·have := cnt_pos (q := isDel t.G) hs (by simp [isDel, h]); omega
    ·rw [hb]
     have : ({ t with used := 0, gl := 7 * t.n, G := t.G } : Tb) = t := Tb.eta hu.symm hgl.symm rfl
     rw [this]
   ·refine wp_skip ?_
    exact ⟨_, rfl, Know.of ⟨rfl, rfl, rfl, trivial⟩, hM⟩
  ·refine rs hM ?_
   refine mv ?_
   refine nck ?_
   refine fa fr158_0 ?_
   refine lo ld152 hb ?_
   refine rw_bin rfl rfl rfl rfl (b_false (b_eq _ _) (by simp; omega)) ?_
   refine mv ?_
   refine rw_skip rfl rfl ?_
   refine rw_skip rfl rfl ?_
   refine rw_skip rfl rfl ?_
   refine rw_skip rfl rfl ?_
   refine rw_skip rfl rfl ?_
   refine rw_skip rfl rfl ?_
   refine rw_pick rfl rfl rfl rfl rfl ?_
   refine rw_nil ?_; intro w hM
   refine wp_if (tmp_lt rfl) rfl (by nofun) (fun hc => ?_)
   refine wp_skip ?_
   exact ⟨_, rfl, Know.of ⟨rfl, rfl, rfl, trivial⟩, hM⟩
 clear hM hmain
 rintro f w ⟨⟨g0, rfl⟩, hM⟩
 refine wp_mix_seq [] [] [0, 1, 2, 3, 4, 5, 6, 7, 8, 9, 10, 11, 12] H mixed (by kernel_rfl) (Heap.le_refl _) hM ?_
 refine mv ?_
 refine nck ?_
 refine fa fr158_0 ?_
 refine lo ld152 hb ?_
 refine rw_conv rfl rfl rfl (c_u64 Tryz.underlying152 Tryz.underlying22 _ (by omega)) ?_
 refine rw_bin rfl rfl rfl rfl (b_mul64 _ 4) ?_
 refine mv ?_
 refine nck ?_
 refine fa fr158_5 ?_
 refine fa fr156_1 ?_
 refine lo ld22 hb ?_
 refine rw_bin rfl rfl rfl rfl (b_le _ _) ?_
 refine asg ?_
 refine rw_nil ?_; intro w hM
 have hinit : ∀ w, Mem w0 w H → Emptied w0 H b t 0 t.G w H := fun w hM => ⟨hM, hT.sl.ok, fun s hs => by omega, hb, hg, fun _ _ hx _ _ => hx⟩
 have hmore : ∀ {i : Nat} {G : Gr} {w : World} {S S' : Heap}, Emptied w0 H b t i G w S → ∀ {w' : World} {G' : Gr}, i < t.n → Mem w0 w' S' → G'.ok → (∀ s, G'.c s = if s / 8 = i then 128 else G.c s) → S' b = S b → S' t.gb = some (encG t.n G') → (∀ x u, S x = some u → x ≠ t.gb → S' x = some u) → Emptied w0 H b t (i + 1) G' w' S' := by
  intro i G w S S' h w' G' hi hM hok hc h1 h2 h3
  refine ⟨hM, hok, fun s hs => ?_, h1.trans h.tb, h2, fun x u hx a b => h3 x u (h.rest x u hx a b) b⟩
  rw [hc]
  by_cases e : s / 8 = i
  ·rw [if_pos e]
  ·rw [if_neg e]; exact h.emp s (by omega)
 refine wp_seq_mid (fun f w => ∃ G S, Know f [(0, .pointer (some ⟨b, 0, none⟩)), (4, u16 (7 * t.n))] ∧ Emptied w0 H b t t.n G w S) ?_ ?_
 ·refine rs hM ?_
  refine mv ?_
  refine rw_nil ?_; intro w hM
  refine wp_if (tmp_lt rfl) rfl (fun _ => ?_) (fun _ => ?_)
  ·refine rs hM ?_
   refine asg ?_
   refine rw_nil ?_; intro w hM
   refine wp_block ?_
   refine wp_loop_s (fun k f w => ∃ i G S, k = t.n + 1 - i ∧ i ≤ t.n ∧ Know f [(0, .pointer (some ⟨b, 0, none⟩)), (1, .pointer x), (4, u16 (7 * t.n)), (6, u64 i)] ∧ Emptied w0 H b t i G w S) (t.n + 1 - 0) ?_ ?_
   ·exact ⟨0, t.G, H, rfl, by omega, Know.of ⟨rfl, rfl, rfl, rfl, trivial⟩, hinit _ hM⟩
   clear hM
   rintro k f w ⟨i, G, S, rfl, hi, ⟨g1, rfl⟩, hE⟩
   have hM := hE.mem
   have hbS := hE.tb
   have hgS := hE.grs
   refine wp_seq ?_
   refine rs hM ?_
   refine mv ?_
   refine mv ?_
   refine nck ?_
   refine fa fr158_5 ?_
   refine fa fr156_1 ?_
   refine lo ld22 hbS ?_
   refine rw_bin rfl rfl rfl rfl (b_le _ _) ?_
   refine rw_nil ?_; intro w hM
   refine wp_if (tmp_lt rfl) rfl (fun hc => ?_) (fun hc => ?_)
   ·have hi' : i < t.n := by have : (i : Int) ≤ ((t.n - 1 : Nat) : Int) := of_decide_eq_true hc; omega
    refine wp_skip ?_
    refine wp_seq ?_
    refine wp_block ?_
    refine rs hM ?_
    refine mv ?_
    refine nck ?_
    refine fa fr158_5 ?_
    refine mv ?_
    refine mv ?_
    refine rw_callq cr93 rfl rfl (fun H' w hle' hM => c93 hM (hle' _ _ hbS) rfl hi') rfl ?_
    refine rw_allocN Tryz.zeroValue104 rfl rfl (fun b7 G7 n7 l7 e7 k7 => ?_)
    refine rw_store (v := .agg #[.pointer _]) sz104 rfl rfl rfl rfl e7 rfl rfl rfl (by nofun) (fun S7 hS7 kS7 => ?_)
    refine rw_nil ?_; intro w hM
    have hle7 := le_keep l7 n7 kS7
    have hg7 := hle7 _ _ hgS
    have hb7 := hle7 _ _ hbS
    have hgr := Gr.bytes hE.ok i
    have d7 : b7 ≠ t.gb := ne_of_ty hS7 hg7 rfl rfl rfl
    refine wp_seq ?_
    refine rs hM ?_
    refine rw_callq cr90 rfl rfl (fun H' w hle hM => c90 hM (hle _ _ hS7) rfl) rfl ?_
    refine nck ?_
    refine rw_load ld145 rfl rfl rfl hg7 (encG_ctrl hi') ?_
    refine rw_callq cr94 rfl rfl (fun H' w hle hM => c94 hM _ hgr) rfl ?_
    refine rw_nil ?_; intro w hM
    refine wp_if (tmp_lt rfl) rfl (fun hc => ?_) (fun hc => ?_)
    ·refine re hM ?_
     refine fa fr104_0 ?_
     refine lo ld102 hS7 ?_
     refine rw_build (v := .agg zeroCells) bd149_ rfl rfl rfl ?_
     refine nck ?_
     refine rw_storeM (v := .agg zeroCells) (off := 17 * i) (n := 17) sz149 rfl rfl rfl rfl hg7 (arrG_zero hi') rfl (by rw [arrG_size]; omega) rfl (by nofun) (fun S9 hS9 kS9 => ?_)
     refine rw_nil ?_; intro w hM
     simp only [Exit.then]
     have h79 := (kS9 _ d7).trans hS7
     refine re hM ?_
     refine rw_callq cr90 rfl rfl (fun H' w hle hM => c90 hM (hle _ _ h79) rfl) rfl ?_
     refine rw_callS cr91 rfl rfl (fun w hM => c91g hM hS9 hi') rfl (by nofun) (fun S10 hS10 kS10 => ?_)
     refine rw_nil ?_; intro w hM
     simp only [Exit.then, Exit.inBlock]
     refine re hM ?_
     refine mv ?_
     refine rw_bin rfl rfl rfl rfl (b_add64 _ 1) ?_
     refine asg ?_
     refine rw_nil ?_; intro w hM
     refine ⟨t.n + 1 - (i + 1), _, rfl, by omega, i + 1, _, S10, rfl, by omega, Know.of ⟨rfl, rfl, rfl, congrArg u64 (show (i + 1) % 2 ^ 64 = i + 1 by omega), trivial⟩, hmore hE hi' hM (Gr.ok_empty (Gr.ok_zero hE.ok i) i) (fun s => ?_) ?_ hS10 (fun x u hx a => ?_)⟩
     ·show (if s / 8 = i then 128 else if s / 8 = i then 0 else G.c s) = _
      split <;> rfl
     ·rw [kS10 _ hbg, kS9 _ hbg, hb7, hbS]
     ·rw [kS10 _ a, kS9 _ a]; exact hle7 _ _ hx
    ·refine wp_skip ?_
     refine re hM ?_
     refine rw_callq cr90 rfl rfl (fun H' w hle hM => c90 hM (hle _ _ hS7) rfl) rfl ?_
     refine rw_callS cr91 rfl rfl (fun w hM => c91g hM hg7 hi') rfl (by nofun) (fun S10 hS10 kS10 => ?_)
     refine rw_nil ?_; intro w hM
     simp only [Exit.then, Exit.inBlock]
     refine re hM ?_
     refine mv ?_
     refine rw_bin rfl rfl rfl rfl (b_add64 _ 1) ?_
     refine asg ?_
     refine rw_nil ?_; intro w hM
     refine ⟨t.n + 1 - (i + 1), _, rfl, by omega, i + 1, _, S10, rfl, by omega, Know.of ⟨rfl, rfl, rfl, congrArg u64 (show (i + 1) % 2 ^ 64 = i + 1 by omega), trivial⟩, hmore hE hi' hM (Gr.ok_empty hE.ok i) (fun s => rfl) ?_ hS10 (fun x u hx a => ?_)⟩
     ·rw [kS10 _ hbg, hb7, hbS]
     ·rw [kS10 _ a]; exact hle7 _ _ hx
   ·have hi' : i = t.n := by have : ¬ (i : Int) ≤ ((t.n - 1 : Nat) : Int) := of_decide_eq_false hc; omega
    subst hi'
    refine wp_exit ?_
    simp only [Exit.then, Exit.inBlock, if_true]
    exact ⟨_, rfl, G, S, Know.of ⟨rfl, rfl, trivial⟩, ⟨hM, hE.ok, hE.emp, hE.tb, hE.grs, hE.rest⟩⟩
  ·refine rs hM ?_
   refine asg ?_
   refine rw_nil ?_; intro w hM
   refine wp_block ?_
   refine wp_loop_s (fun k f w => ∃ i G S, k = t.n + 1 - i ∧ i ≤ t.n ∧ Know f [(0, .pointer (some ⟨b, 0, none⟩)), (1, .pointer x), (4, u16 (7 * t.n)), (8, u64 i)] ∧ Emptied w0 H b t i G w S) (t.n + 1 - 0) ?_ ?_
   ·exact ⟨0, t.G, H, rfl, by omega, Know.of ⟨rfl, rfl, rfl, rfl, trivial⟩, hinit _ hM⟩
   clear hM
   rintro k f w ⟨i, G, S, rfl, hi, ⟨g1, rfl⟩, hE⟩
   have hM := hE.mem
   have hbS := hE.tb
   have hgS := hE.grs
   refine wp_seq ?_
   refine rs hM ?_
   refine mv ?_
   refine mv ?_
   refine nck ?_
   refine fa fr158_5 ?_
   refine fa fr156_1 ?_
   refine lo ld22 hbS ?_
   refine rw_bin rfl rfl rfl rfl (b_le _ _) ?_
   refine rw_nil ?_; intro w hM
   refine wp_if (tmp_lt rfl) rfl (fun hc => ?_) (fun hc => ?_)
   ·have hi' : i < t.n := by have : (i : Int) ≤ ((t.n - 1 : Nat) : Int) := of_decide_eq_true hc; omega
    refine wp_skip ?_
    refine wp_seq ?_
    refine wp_block ?_
    refine rs hM ?_
    refine mv ?_
    refine nck ?_
    refine fa fr158_5 ?_
    refine mv ?_
    refine mv ?_
    refine rw_callq cr93 rfl rfl (fun H' w hle' hM => c93 hM (hle' _ _ hbS) rfl hi') rfl ?_
    refine rw_allocN Tryz.zeroValue104 rfl rfl (fun b9 G9 n9 l9 e9 k9 => ?_)
    refine rw_store (v := .agg #[.pointer _]) sz104 rfl rfl rfl rfl e9 rfl rfl rfl (by nofun) (fun S14 hS14 kS14 => ?_)
    refine rw_nil ?_; intro w hM
    have hle7 := le_keep l9 n9 kS14
    have hg7 := hle7 _ _ hgS
    have hb7 := hle7 _ _ hbS
    have d7 : b9 ≠ t.gb := ne_of_ty hS14 hg7 rfl rfl rfl
    refine rs hM ?_
    refine fa fr104_0 ?_
    refine lo ld102 hS14 ?_
    refine rw_build (v := .agg zeroCells) bd149_ rfl rfl rfl ?_
    refine nck ?_
    refine rw_storeM (v := .agg zeroCells) (off := 17 * i) (n := 17) sz149 rfl rfl rfl rfl hg7 (arrG_zero hi') rfl (by rw [arrG_size]; omega) rfl (by nofun) (fun S9 hS9 kS9 => ?_)
    refine rw_nil ?_; intro w hM
    have h79 := (kS9 _ d7).trans hS14
    refine re hM ?_
    refine rw_callq cr90 rfl rfl (fun H' w hle hM => c90 hM (hle _ _ h79) rfl) rfl ?_
    refine rw_callS cr91 rfl rfl (fun w hM => c91g hM hS9 hi') rfl (by nofun) (fun S10 hS10 kS10 => ?_)
    refine rw_nil ?_; intro w hM
    simp only [Exit.then, Exit.inBlock]
    refine re hM ?_
    refine mv ?_
    refine rw_bin rfl rfl rfl rfl (b_add64 _ 1) ?_
    refine asg ?_
    refine rw_nil ?_; intro w hM
    refine ⟨t.n + 1 - (i + 1), _, rfl, by omega, i + 1, _, S10, rfl, by omega, Know.of ⟨rfl, rfl, rfl, congrArg u64 (show (i + 1) % 2 ^ 64 = i + 1 by omega), trivial⟩, hmore hE hi' hM (Gr.ok_empty (Gr.ok_zero hE.ok i) i) (fun s => ?_) ?_ hS10 (fun x u hx a => ?_)⟩
    ·show (if s / 8 = i then 128 else if s / 8 = i then 0 else G.c s) = _
     split <;> rfl
    ·rw [kS10 _ hbg, kS9 _ hbg, hb7, hbS]
    ·rw [kS10 _ a, kS9 _ a]; exact hle7 _ _ hx
   ·have hi' : i = t.n := by have : ¬ (i : Int) ≤ ((t.n - 1 : Nat) : Int) := of_decide_eq_false hc; omega
    subst hi'
    refine wp_exit ?_
    simp only [Exit.then, Exit.inBlock, if_true]
    exact ⟨_, rfl, G, S, Know.of ⟨rfl, rfl, trivial⟩, ⟨hM, hE.ok, hE.emp, hE.tb, hE.grs, hE.rest⟩⟩
 ·rintro f w ⟨G, S, ⟨g1, rfl⟩, hE⟩
  have hM := hE.mem
  have hbS := hE.tb
  refine rs hM ?_
  refine mv ?_
  refine nck ?_
  refine fa fr158_0 ?_
  refine rw_store1 (v := .int .u16 _) sz152 rfl rfl rfl rfl hbS rfl rfl (by nofun) (fun S17 hS17 kS17 => ?_)
  refine rw_nil ?_; intro w hM
  refine re hM ?_
  refine mv ?_
  refine mv ?_
  refine nck ?_
  refine fa fr158_2 ?_
  refine rw_store1 (v := .int .u16 _) sz152 rfl rfl rfl rfl hS17 rfl rfl (by nofun) (fun S18 hS18 kS18 => ?_)
  refine rw_nil ?_; intro w hM
  refine post_none rfl ⟨_, S18, rfl, hM, rfl, G, hE.ok, hE.emp, ?_, ?_, fun y u hy a b => ?_⟩
  ·rw [hS18]; rfl
  ·rw [kS18 _ hbg.symm, kS17 _ hbg.symm]; exact hE.grs
  ·rw [kS18 _ a, kS17 _ a]; exact hE.rest y u hy a b
end
section
section
variable {P : Program} {ops : Array Oper} {sp br : List Nat} {d : Bool} {w0 : World} {K : Slots → World → Prop} {i : Nat} {rest : List Nat} {Hq H : Heap} {f : Slots}
variable {dst : Tmp} {ty : TypeId} {pos : String} {aft : Array Edge} {g : Option (Nat × Bool)}
/-- Two pointers to variables of their own. -/
theorem rw_ptrEq {t te u : TypeId} {j : TypeInfo} {x y : Operand} {b b' : Nat} {ca cb : Array Value} {ta tb : TypeId} (hp : P.underlying t = some (.pointer te)) (hte : P.info? te = some j) (hsz : j.size ≠ 0) (ho : ops[i]? = some ⟨some dst, .binOp .eql t x y u, ty, pos, aft, g⟩) (hw : wantedS ops f ⟨some dst, .binOp .eql t x y u, ty, pos, aft, g⟩ = true) (hx : ev f x = .pointer (some ⟨b, 0, none⟩)) (hy : ev f y = .pointer (some ⟨b', 0, none⟩))
  (h1 : Hq b = some (.cells ca ta (0, 0))) (h2 : Hq b' = some (.cells cb tb (0, 0))) (h : RW P ops sp br d w0 K rest Hq H (f.set dst (.bool (Nat.beq b b')))) : RW P ops sp br d w0 K (i :: rest) Hq H f :=
 rw_q ho hw (v := .bool (Nat.beq b b')) (fun H' w hle hM => by
  have hv : (binOp .eql t (.pointer (some ⟨b, 0, none⟩)) (.pointer (some ⟨b', 0, none⟩))).run P w = .ok (.bool (Nat.beq b b')) w := by
   by_cases e : b = b'
   ·subst e
    rw [nat_beq.2 rfl]; exact run_eql_ptr_same w _ hp hte
   ·rw [nat_beq_f.2 e]
    exact run_eql_ptr_other w hp hte hsz (fun h => e (congrArg Addr.block h)) (hM.own _ _ (hle _ _ h1)).2 (hM.own _ _ (hle _ _ h2)).2
  simp only [execOp, hx, hy, eqGuard]
  show Sem.run P (Sem.bind _ _) w = _
  rw [Sem.run_bind']
  have : (do (if (!(BinOp.eql matches .eql | .neq)) = true then pure PUnit.unit else (pure () : Sem Unit)); binOp .eql t (.pointer (some ⟨b, 0, none⟩)) (.pointer (some ⟨b', 0, none⟩)) : Sem Value).run P w = .ok (.bool (Nat.beq b b')) w := hv
  first
   | rw [this]; rfl
   | (simp only [bind, pure, Sem.bind, Sem.run_bind'] at *; rw [hv]; rfl)) h
end
/-- A table without entries and tombstones. -/
theorem TOK.cleared {K : KT} {t : Tb} (h : TOK K t) {G : Gr} (hG : G.ok) (he : ∀ s, s < 8 * t.n → G.c s = 128) : TOK K { t with used := 0, gl := 7 * t.n, G := G } := by
 have hsl : SlotsOK K t.n G := by
  refine ⟨hG, fun s hs => .inr (.inl (he s hs)), fun s hs hf => ?_, fun s hs hf _ => ?_, fun s u hs _ hf _ _ => ?_, fun g q r hg _ hr _ h2 => ?_⟩
  ·have := he s hs; omega
  ·have := he s hs; omega
  ·have := he s hs; omega
  ·have := he _ (show 8 * g + r < 8 * t.n by omega); omega
 refine ⟨h.pow, h.cap, hsl, ?_, ?_⟩
 ·exact (cnt_zero fun s hs => by simp [isFull, he s hs]).symm
 ·show 7 * t.n + 0 + cnt (isDel G) (8 * t.n) = 7 * t.n
  rw [cnt_zero fun s hs => by simp [isDel, he s hs]]; omega
/-- What a clearing leaves. -/
def ClearR : Mv → Mv → Prop
 | .nil, V' => V' = .nil
 | .small sg _, V' => ∃ G', V' = .small sg G' ∧ ∀ s, s < 8 → G'.c s = 128
 | .big db D, V' => ∃ T, V' = .big db { D with T := T } ∧ ∀ i, i < 2 ^ D.gd → SameTb (D.tab i) (T (D.d i)) ∧ ∀ s, s < 8 * (T (D.d i)).n → (T (D.d i)).G.c s = 128
structure ClearM (K : KT) (H : Heap) (bm cb : Nat) (m : Mp) (V : Mv) (m' : Mp) (V' : Mv) (n' : Nat) (S : Heap) : Prop where
 map : MapIs K S bm m' V'
 wr : m'.wr = m.wr
 tomb : m'.tomb = false
 used : m'.used = 0
 res : (V' = V ∧ m' = m ∧ S = H ∧ ∀ g s k e, ¬ V.live g s k e) ∨ (m'.clr = (m.clr + 1) % 2 ^ 64 ∧ ClearR V V')
 rnd : S cb = some (encI n')
 pot : ∀ N, V.Pot N → V'.Pot N
 rest : ∀ x u, H x = some u → x ≠ bm → x ≠ cb → (∀ g n G, V.row g n G → x ≠ g) → ¬ V.tblk x → S x = some u
end
end Go.Proofs.YtddpfkcofmfmpaaGreatDoor
