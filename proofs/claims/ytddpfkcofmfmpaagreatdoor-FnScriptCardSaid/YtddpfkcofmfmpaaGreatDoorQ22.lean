/-
  The doors of a map: put, get, delete, clear, length. Conditions stand in each contract. The doors of a map: floats, iterators. Conditions stand in each contract.
  Conditions stand in each lemma.
-/
import Derived.Test.YtddpfkcofmfmpaaGreatDoorQ21
namespace Go.Proofs.YtddpfkcofmfmpaaGreatDoor
open Go Go.RowKit
set_option maxRecDepth 20000
section
/-- A map in memory beside the reference's, after N steps. -/
structure Live (K : KT) (E : Heap) (bty cb bm bT : Nat) (S : Heap) (m : Mp) (V : Mv) (n : Nat) (id : Nat → Nat → Nat) (all : List Ent) (N : Nat) : Prop where
 ele : E.le S
 tab : S bT = some (.cells #[.pointer (some ⟨bty, 0, none⟩), .pointer (some ⟨bm, 0, none⟩)] 98 (0, 0))
 map : MapIs K S bm m V
 wr : m.wr = 0
 sim : Sim K V id all
 used : m.used = lenE all
 tomb : (∃ db D, V = .big db D) ∨ m.tomb = false
 clr : m.clr ≤ N
 pot : V.Pot N
 cnt : S cb = some (encI n)
 cntN : n ≤ 3 * N + 1
 len : all.length ≤ N
theorem Live.mono {K : KT} {E : Heap} {bty cb bm bT : Nat} {S S' : Heap} {m : Mp} {V : Mv} {n : Nat} {id : Nat → Nat → Nat} {all : List Ent} {N : Nat} (h : Live K E bty cb bm bT S m V n id all N) (hle : S.le S') : Live K E bty cb bm bT S' m V n id all N :=
 ⟨Heap.le_trans h.ele hle, hle _ _ h.tab, h.map.mono hle, h.wr, h.sim, h.used, h.tomb, h.clr, h.pot, hle _ _ h.cnt, h.cntN, h.len⟩
theorem putE_len (K : KT) (all : List Ent) (k : Nat) (e : Int) : (putE K all k e).length ≤ all.length + 1 := by
 unfold putE; split
 ·simp [setElem]
 ·simp
theorem delE_len (K : KT) (all : List Ent) (k : Nat) : (delE K all k).length = all.length := by
 unfold delE; split
 ·simp [goneAt]
 ·rfl
theorem lenE_le (all : List Ent) : lenE all ≤ all.length := cnt_le _ _
theorem Live.no {K : KT} {E : Heap} {bty cb bm bT : Nat} {S : Heap} {m : Mp} {V : Mv} {n : Nat} {id : Nat → Nat → Nat} {all : List Ent} {N : Nat} (h : Live K E bty cb bm bT S m V n id all N) : m.used = 0 → ∀ g s k e, ¬ V.live g s k e := fun h0 g s k e hl => by
 obtain ⟨a, a1, a2, _⟩ := h.sim.live _ _ _ _ hl
 have h1 : liv all (id g s) = true := liv_iff.2 ⟨a, a1, a2⟩
 have h2 := cnt_pos (liv_lt h1) h1
 have h3 := h.used
 unfold lenE at h3
 omega
/-- Plain blocks but the counter are kept. -/
def KeepP (H S : Heap) (cb : Nat) : Prop := ∀ x u, H x = some u → Plain u → x ≠ cb → S x = some u
theorem MChg.weaken {K : KT} {H H' S : Heap} {m m' : Mp} {V V' : Mv} {id id' : Nat → Nat → Nat} {all all' : List Ent} (hle : H.le H') (h : MChg K H' S m m' V V' id id' all all') : MChg K H S m m' V V' id id' all all' :=
 ⟨h.e, h.s', fun db D e => by
  obtain ⟨db', D', e', hD⟩ := h.dir db D e
  exact ⟨db', D', e', hD.deep, hD.gd, hD.stay, hD.tabs, fun b t h1 h2 h3 => hD.old b t (hle _ _ h1) (hle _ _ h2) h3⟩, h.sm, fun g G h1 h2 h3 => h.st g G (hle _ _ h1) h2 h3⟩
theorem plain_ne_g {K : KT} {H : Heap} {bm : Nat} {m : Mp} {V : Mv} {g n : Nat} {G : Gr} (hV : MapIs K H bm m V) (hr : V.row g n G) {x : Nat} {u : Obj} (hx : H x = some u) (hp : Plain u) : x ≠ g := fun e => by
 have := hV.grs hr
 rw [← e, hx] at this
 cases this
 exact hp.2.1 rfl
theorem PutE.keep {K : KT} {nu : Bool} {H S : Heap} {bm : Nat} {m m' : Mp} {V V' : Mv} {k N g s : Nat} {e : Int} (hV : MapIs K H bm m V) (h : PutE K nu H bm m V k e N g s m' V' S) : ∀ x u, H x = some u → Plain u → S x = some u := fun x u hx hp => by
 refine h.rest x u hx (fun e => ?_) (fun e => ?_) (fun ht => ?_)
 ·have := hV.cell; rw [← e, hx] at this; cases this; exact hp.1 rfl
 ·have hres := h.res
  cases V with
  | nil => rw [e, hres.1] at hx; cases hx
  | small sg G =>
   rcases hres with ⟨_, e1, _⟩ | ⟨_, e1, _⟩ | ⟨_, _, db, nb, t0, t', σ, _, _, _, _, hng, hP, e1, _⟩
   ·exact plain_ne_g hV ⟨rfl, rfl, rfl⟩ hx hp (e.trans e1)
   ·exact plain_ne_g hV ⟨rfl, rfl, rfl⟩ hx hp (e.trans e1)
   ·rw [e, e1, hP.gb, hng] at hx; cases hx
  | big db D =>
   rcases hres with ⟨j, hj, _, _, e1, _⟩ | ⟨_, _, db1, D1, ρ, j, t', hE, _, hj, _, hP, e1, _⟩
   ·exact plain_ne_g hV ⟨j, hj, rfl, rfl, rfl⟩ hx hp (e.trans e1)
   ·rcases hE.row_old hj with hn | ⟨i, hi, _, y, hy⟩
    ·rw [e, e1, hP.gb, hn] at hx; cases hx
    ·exact plain_ne_g hV ⟨i, hi, rfl, rfl, rfl⟩ hx hp (e.trans (e1.trans (hP.gb.trans (by rw [hy]))))
 ·cases V with
  | nil => exact ht
  | small sg G => exact ht
  | big db D =>
   have hA := hV.2.2.1
   rcases ht with e1 | ⟨i, hi, e1⟩
   ·have := hA.dir; rw [← e1, hx] at this; cases this; exact hp.2.2.2 rfl
   ·have := hA.tabs i hi; rw [← e1, hx] at this; cases this; exact hp.2.2.1 rfl
/-- Iterators are carried over. -/
def IterT (K : KT) (H S : Heap) (m m' : Mp) (V V' : Mv) (id id' : Nat → Nat → Nat) (all all' : List Ent) (bm bty : Nat) : Prop := ∀ b it gs was, (∀ j, all.length ≤ j → gs j = false) → (∀ j, j ∈ was → j < all.length) → ItI K m V H id all bm bty b it gs was → ItI K m' V' S id' all' bm bty b it gs was
theorem encIt_plain (it : ItV) : Plain (encIt it) := plain_of rfl
theorem keep_it {H S : Heap} {cb n b : Nat} {it : ItV} (h : KeepP H S cb) (hcb : H cb = some (encI n)) (hb : H b = some (encIt it)) : S b = H b := by
 rw [hb]; exact h b _ hb (encIt_plain it) (ne_of_ty hb hcb rfl rfl rfl)
theorem iterT_chg {K : KT} {E : Heap} {bty cb bm bT : Nat} {H S : Heap} {m m' : Mp} {V V' : Mv} {n : Nat} {id id' : Nat → Nat → Nat} {all all' : List Ent} {N : Nat} (hL : Live K E bty cb bm bT H m V n id all N) (hV' : MapIs K S bm m' V') (h : MChg K H S m m' V V' id id' all all') (hc : m'.clr = m.clr) (hk : KeepP H S cb) : IterT K H S m m' V V' id id' all all' bm bty :=
 fun _ _ _ _ hg hw hI => hI.chg hL.map hL.sim hV' h hc (keep_it hk hL.cnt hI.blk) hg hw
theorem findM_row {K : KT} {k : Nat} {V : Mv} {g s : Nat} (hg : ∀ db D, V = .big db D → D.gd ≤ 64) (h : findM K k V = some (g, s)) : ∃ n G, V.row g n G := by
 cases V with
 | nil => cases h
 | small sg G =>
  simp only [findM, Option.map_eq_some_iff] at h
  obtain ⟨_, _, h⟩ := h
  cases h
  exact ⟨1, G, rfl, rfl, rfl⟩
 | big db D =>
  simp only [findM, Option.map_eq_some_iff] at h
  obtain ⟨_, _, h⟩ := h
  cases h
  exact ⟨_, _, _, dirIdx_lt (hg db D rfl) (K.lt k), rfl, rfl, rfl⟩
theorem MapIs.gd64 {K : KT} {H : Heap} {bm : Nat} {m : Mp} {V : Mv} (hV : MapIs K H bm m V) : ∀ db D, V = .big db D → D.gd ≤ 64 := fun db D e => by
 subst e; have := hV.2.2.2.2; omega
theorem not_tblk {K : KT} {H : Heap} {bm : Nat} {m : Mp} {V : Mv} (hV : MapIs K H bm m V) {x : Nat} {u : Obj} (hx : H x = some u) (hp : Plain u) : ¬ V.tblk x := fun ht => by
 cases V with
 | nil => exact ht
 | small sg G => exact ht
 | big db D =>
  have hA := hV.2.2.1
  rcases ht with e1 | ⟨i, hi, e1⟩
  ·have := hA.dir; rw [← e1, hx] at this; cases this; exact hp.2.2.2 rfl
  ·have := hA.tabs i hi; rw [← e1, hx] at this; cases this; exact hp.2.2.1 rfl
theorem ne_bm {K : KT} {H : Heap} {bm : Nat} {m : Mp} {V : Mv} (hV : MapIs K H bm m V) {x : Nat} {u : Obj} (hx : H x = some u) (hp : Plain u) : x ≠ bm := fun e => by
 have := hV.cell; rw [← e, hx] at this; cases this; exact hp.1 rfl
theorem DelM.keep {K : KT} {H S : Heap} {bm cb : Nat} {m m' : Mp} {V V' : Mv} {k N n' : Nat} (hV : MapIs K H bm m V) (h : DelM K H bm cb m V k N m' V' n' S) : KeepP H S cb := fun x u hx hp hc =>
 h.rest x u hx (ne_bm hV hx hp) hc (fun g s hf e => by
  obtain ⟨n, G, hr⟩ := findM_row hV.gd64 hf
  exact plain_ne_g hV hr hx hp e) (not_tblk hV hx hp)
theorem ClearM.keep {K : KT} {H S : Heap} {bm cb : Nat} {m m' : Mp} {V V' : Mv} {n' : Nat} (hV : MapIs K H bm m V) (h : ClearM K H bm cb m V m' V' n' S) : KeepP H S cb := fun x u hx hp hc =>
 h.rest x u hx (ne_bm hV hx hp) hc (fun _ _ _ hr => plain_ne_g hV hr hx hp) (not_tblk hV hx hp)
variable {w0 w : World} {H : Heap}
section
variable {K : KT} {E : Heap} {bty cb bm bT n N : Nat} {nu : Bool} {m : Mp} {V : Mv} {id : Nat → Nat → Nat} {all : List Ent}
theorem c60 (hM : Mem w0 w H) (hDb : HasDb w0) (hEP : ∀ x u, E x = some u → Plain u) (Ty : TypOK K w0 E bty nu) (hL : Live K E bty cb bm bT H m V n id all N) (hN : N ≤ 6000) (hCls : V.Cls K) {k : Nat} {e : Int} (hk : k < 2 ^ 64) (he : InI64 e) :
  Calls Tryz.prog 60 [.pointer (some ⟨bT, 0, none⟩), u64 k, i64 e].toArray w (Gives w0 fun v S => v = .tuple #[] ∧ ∃ m' V' id', Live K E bty cb bm bT S m' V' n id' (putE K all k e) (N + 1) ∧ IterT K H S m m' V V' id id' all (putE K all k e) bm bty ∧ KeepP H S cb) := by
 have hmu : m.used < 2 ^ 62 := by have := lenE_le all; rw [hL.used]; have := hL.len; omega
 refine calls_start Tryz.func60 rfl Tryz.ntmps60 (Nat.le_of_ble_eq_true rfl) ?_
 refine rs hM ?_
 refine mv ?_
 refine mv ?_
 refine rw_allocN Tryz.zeroValue84 rfl rfl (fun b6 G6 n6 l6 e6 k6 => ?_)
 refine rw_allocN Tryz.zeroValue125 rfl rfl (fun b7 G7 n7 l7 e7 k7 => ?_)
 refine rw_store1 (v := .int .u64 _) sz84 rfl rfl rfl rfl (l7 _ _ e6) rfl rfl (by nofun) (fun S0 hS0 kS0 => ?_)
 refine rw_store1 (v := .int .i64 _) sz125 rfl rfl rfl rfl ((kS0 _ (ne_of_none n7 e6).symm).trans e7) rfl rfl (by nofun) (fun S0_5 hS0_5 kS0_5 => ?_)
 refine rw_nil ?_; intro w hM
 have hle : H.le S0_5 := le_keep (le_keep (Heap.le_trans l6 l7) n6 kS0) (le_none l6 n7) kS0_5
 have hkb : S0_5 b6 = some (.cells #[u64 k] 84 (0, 0)) := (kS0_5 _ (ne_of_none n7 e6)).trans (hS0.trans rfl)
 have heb : S0_5 b7 = some (.cells #[i64 e] 125 (0, 0)) := hS0_5.trans rfl
 have hL1 := hL.mono hle
 refine wp_mix_end [8] [8] [0, 1, 2, 3, 4, 5, 6, 7, 8] S0_5 mixed (by kernel_rfl) (Heap.le_refl _) hM ?_
 refine mv ?_
 refine nck ?_
 refine fa fr98_1 ?_
 refine lo (v := .pointer (some ⟨bm, 0, none⟩)) ld96 hL1.tab ?_
 refine mv ?_
 refine nck ?_
 refine fa fr98_0 ?_
 refine lo (v := .pointer (some ⟨bty, 0, none⟩)) ld82 hL1.tab ?_
 refine rw_callE cr73 rfl rfl (fun w hM => c73 hM hDb hL1.ele hEP Ty hL1.map hL1.wr hN hL1.pot hCls hmu hkb (plain_of rfl) rfl hk heb (plain_of rfl) rfl he) rfl (fun _ => ⟨rfl, rfl⟩) ?_; rintro _ S8 ⟨rfl, g, s, m', V', hP⟩
 refine rw_nil ?_; intro w hM
 obtain ⟨id', hMC, hu⟩ := put_out hL1.map hL1.sim hP
 have hkeep := hP.keep hL1.map
 have hkp : KeepP H S8 cb := fun x u hx hp _ => hkeep x u (hle _ _ hx) hp
 refine post_none rfl ⟨_, S8, rfl, hM, rfl, m', V'.setE g s e, id', ⟨fun x u hx => hkeep x u (hL1.ele _ _ hx) (hEP x u hx), hkeep _ _ hL1.tab (plain_of rfl), hP.map, hP.same.2.1.trans hL1.wr, hMC.s', ?_, ?_, by rw [hP.same.2.2.2]; have := hL1.clr; omega, hP.pot, hkeep _ _ hL1.cnt (encI_plain n), by have := hL1.cntN; omega, ?_⟩, iterT_chg hL hP.map (hMC.weaken hle) hP.same.2.2.2 hkp, hkp⟩
 ·rcases hu with ⟨a, b⟩ | ⟨a, b⟩
  ·rw [a, b]; exact hL1.used
  ·rw [a, b, hL1.used]
 ·rw [hP.same.2.2.1]
  rcases hL1.tomb with ⟨db, D, rfl⟩ | h
  ·obtain ⟨db', D', e', _⟩ := hMC.dir db D rfl
   exact .inl ⟨db', D', e'⟩
  ·exact .inr h
 ·have := putE_len K all k e
  have := hL1.len
  omega
theorem c64 (hM : Mem w0 w H) (hDb : HasDb w0) (hEP : ∀ x u, E x = some u → Plain u) (hEc : E cb = none) (Ty : TypOK K w0 E bty nu) (R : Rnd w0 E cb Ty.rand) (hL : Live K E bty cb bm bT H m V n id all N) (hN : N ≤ 6000) {k : Nat} (hk : k < 2 ^ 64) :
  Calls Tryz.prog 64 [.pointer (some ⟨bT, 0, none⟩), u64 k].toArray w (Gives w0 fun v S => v = .tuple #[] ∧ ∃ m' V' n', Live K E bty cb bm bT S m' V' n' id (delE K all k) (N + 1) ∧ IterT K H S m m' V V' id id all (delE K all k) bm bty ∧ KeepP H S cb) := by
 have hmu : m.used < 2 ^ 62 := by have := lenE_le all; rw [hL.used]; have := hL.len; omega
 refine calls_start Tryz.func64 rfl Tryz.ntmps64 (Nat.le_of_ble_eq_true rfl) ?_
 refine rs hM ?_
 refine mv ?_
 refine rw_allocN Tryz.zeroValue84 rfl rfl (fun b4 G4 n4 l4 e4 k4 => ?_)
 refine rw_store1 (v := .int .u64 _) sz84 rfl rfl rfl rfl e4 rfl rfl (by nofun) (fun S0 hS0 kS0 => ?_)
 refine rw_nil ?_; intro w hM
 have hle : H.le S0 := le_keep l4 n4 kS0
 have hkb : S0 b4 = some (.cells #[u64 k] 84 (0, 0)) := hS0.trans rfl
 have hL1 := hL.mono hle
 have hn : n < 2 ^ 62 := by have := hL.cntN; omega
 refine wp_mix_end [8] [8] [0, 1, 2, 3, 4, 5, 6, 7, 8] S0 mixed (by kernel_rfl) (Heap.le_refl _) hM ?_
 refine mv ?_
 refine nck ?_
 refine fa fr98_1 ?_
 refine lo (v := .pointer (some ⟨bm, 0, none⟩)) ld96 hL1.tab ?_
 refine mv ?_
 refine nck ?_
 refine fa fr98_0 ?_
 refine lo (v := .pointer (some ⟨bty, 0, none⟩)) ld82 hL1.tab ?_
 refine rw_callE cr75 rfl rfl (fun w hM => c75 hM hDb hL1.ele hEP hEc Ty R hL1.cnt hn hL1.map hL1.wr hL1.no hmu hL1.pot hkb (plain_of rfl) rfl hk) rfl (fun _ => ⟨rfl, rfl⟩) ?_; rintro _ S8 ⟨rfl, m', V', n', hn', hP⟩
 refine rw_nil ?_; intro w hM
 obtain ⟨hMC, hu⟩ := del_out hL1.map hL1.cnt hL1.sim hP
 have hkeep := hP.keep hL1.map
 have hkp : KeepP H S8 cb := fun x u hx hp hc => hkeep x u (hle _ _ hx) hp hc
 have hTc : bT ≠ cb := ne_of_ty hL1.tab hL1.cnt rfl rfl rfl
 refine post_none rfl ⟨_, S8, rfl, hM, rfl, m', V', n', ⟨fun x u hx => hkeep x u (hL1.ele _ _ hx) (hEP x u hx) (ne_of_none hEc hx), hkeep _ _ hL1.tab (plain_of rfl) hTc, hP.map, hP.same.1.trans hL1.wr, hMC.s', ?_, ?_, by rw [hP.same.2.1]; have := hL1.clr; omega, hP.pot, hP.rnd, by have := hL1.cntN; omega, by rw [delE_len]; have := hL1.len; omega⟩, iterT_chg hL hP.map (hMC.weaken hle) hP.same.2.1 hkp, hkp⟩
 ·have := hL1.used
  rcases hu with ⟨a, b⟩ | ⟨a, b⟩ <;> omega
 ·rcases hL1.tomb with ⟨db, D, rfl⟩ | h
  ·obtain ⟨db', D', e', _⟩ := hMC.dir db D rfl
   exact .inl ⟨db', D', e'⟩
  ·rcases hP.tomb with h1 | ⟨db, D, rfl⟩
   ·exact .inr (h1.trans h)
   ·obtain ⟨db', D', e', _⟩ := hMC.dir db D rfl
    exact .inl ⟨db', D', e'⟩
theorem Mv.Pot.succ {V : Mv} {N : Nat} (h : V.Pot N) : V.Pot (N + 1) := by
 cases V with
 | nil => trivial
 | small sg G => exact Nat.le_succ_of_le h
 | big db D => exact fun i hi => Nat.le_succ_of_le (h i hi)
theorem cleared_no {V V' : Mv} (h : ClearR V V') : ∀ g s k e, ¬ V'.live g s k e := fun g s k e hl => by
 cases V with
 | nil =>
  have h' : V' = .nil := h
  rw [h'] at hl; exact hl
 | small sg G =>
  obtain ⟨G', rfl, hG⟩ := h
  obtain ⟨_, hs, hf, _⟩ := hl
  have := hG s hs; omega
 | big db D =>
  obtain ⟨T, rfl, hT⟩ := h
  obtain ⟨i, hi, _, hs, hf, _⟩ := hl
  have := (hT i hi).2 s hs
  have hf' : (T (D.d i)).G.c s < 128 := hf
  omega
theorem c46 (hM : Mem w0 w H) (hEP : ∀ x u, E x = some u → Plain u) (hEc : E cb = none) (Ty : TypOK K w0 E bty nu) (R : Rnd w0 E cb Ty.rand) (hL : Live K E bty cb bm bT H m V n id all N) (hN : N ≤ 6000) :
  Calls Tryz.prog 46 [.pointer (some ⟨bT, 0, none⟩)].toArray w (Gives w0 fun v S => v = .tuple #[] ∧ ∃ m' V' n', Live K E bty cb bm bT S m' V' n' id (goneAll all) (N + 1) ∧ IterT K H S m m' V V' id id all (goneAll all) bm bty ∧ KeepP H S cb) := by
 have hmu : m.used < 2 ^ 62 := by have := lenE_le all; rw [hL.used]; have := hL.len; omega
 have hn : n < 2 ^ 62 := by have := hL.cntN; omega
 refine calls_start Tryz.func46 rfl Tryz.ntmps46 (Nat.le_of_ble_eq_true rfl) ?_
 refine wp_mix_end [8] [8] [0, 1, 2, 3, 4, 5, 6, 7, 8] H mixed (by kernel_rfl) (Heap.le_refl _) hM ?_
 refine mv ?_
 refine nck ?_
 refine fa fr98_1 ?_
 refine lo (v := .pointer (some ⟨bm, 0, none⟩)) ld96 hL.tab ?_
 refine mv ?_
 refine nck ?_
 refine fa fr98_0 ?_
 refine lo (v := .pointer (some ⟨bty, 0, none⟩)) ld82 hL.tab ?_
 refine rw_callE cr65 rfl rfl (fun w hM => c65 hM hL.ele hEP Ty R hL.cnt hn hL.map hL.wr hL.no hmu hL.tomb) rfl (fun _ => ⟨rfl, rfl⟩) ?_; rintro _ S8 ⟨rfl, m', V', n', hn', hP⟩
 refine rw_nil ?_; intro w hM
 have hkeep := hP.keep hL.map
 have hTc : bT ≠ cb := ne_of_ty hL.tab hL.cnt rfl rfl rfl
 have hno : ∀ g s k e, ¬ V'.live g s k e := by
  rcases hP.res with ⟨rfl, _, _, h⟩ | ⟨_, h⟩
  ·exact h
  ·exact cleared_no h
 have hclr := hL.clr
 refine post_none rfl ⟨_, S8, rfl, hM, rfl, m', V', n', ⟨fun x u hx => hkeep x u (hL.ele _ _ hx) (hEP x u hx) (ne_of_none hEc hx), hkeep _ _ hL.tab (plain_of rfl) hTc, hP.map, hP.wr.trans hL.wr, Sim.void _ hno (liv_goneAll all), by rw [hP.used, lenE_goneAll], .inr hP.tomb, ?_, (hP.pot N hL.pot).succ, hP.rnd, by have := hL.cntN; omega, by have := hL.len; simp [goneAll]; omega⟩, fun b it gs was _ _ hI => hI.clear hL.map hL.sim hL.cnt hP (by omega) (keep_it hkeep hL.cnt hI.blk) (liv_goneAll all), hkeep⟩
 rcases hP.res with ⟨_, rfl, _⟩ | ⟨h, _⟩ <;> omega
theorem c47 (hM : Mem w0 w H) (hL : Live K E bty cb bm bT H m V n id all N) (hN : N ≤ 6000) : Calls Tryz.prog 47 [.pointer (some ⟨bT, 0, none⟩)].toArray w (Keeps w0 H (i64 (lenE all : Nat))) := by
 have hmu : m.used < 2 ^ 62 := by have := lenE_le all; rw [hL.used]; have := hL.len; omega
 refine calls_start Tryz.func47 rfl Tryz.ntmps47 (Nat.le_of_ble_eq_true rfl) ?_
 refine rs hM ?_
 refine asg ?_
 refine rw_nil ?_; intro w hM
 refine rs hM ?_
 refine mv ?_
 refine nck ?_
 refine fa fr98_1 ?_
 refine lo (v := .pointer (some ⟨bm, 0, none⟩)) ld96 hL.tab ?_
 refine rw_callq cr66 rfl rfl (fun H' w hle hM => c66 hM (hle _ _ hL.map.cell)) rfl ?_
 refine rw_conv rfl rfl rfl (c_i64 Tryz.underlying22 Tryz.underlying3 (by omega) (by omega)) ?_
 refine asg ?_
 refine rw_nil ?_; intro w hM
 refine wp_ret ?_
 exact post_tmp (v := i64 (m.used : Nat)) rfl rfl rfl (keep (by rw [hL.used]) hM)
theorem Sim.get (hS : Sim K V id all) (hV : MapIs K H bm m V) (k : Nat) : (findM K k V = none ∧ getE K all k = Ans.no) ∨ ∃ g s n G, findM K k V = some (g, s) ∧ V.row g n G ∧ s < 8 * n ∧ getE K all k = ⟨true, 0, G.e s⟩ ∧ InI64 (G.e s) := by
 have hf := hS.find hV k
 cases h : findM K k V with
 | none => rw [h] at hf; exact .inl ⟨rfl, by unfold getE; rw [hf]; rfl⟩
 | some p =>
  obtain ⟨g, s⟩ := p
  rw [h] at hf
  obtain ⟨k', e, hl, _⟩ := findM_some hV h
  obtain ⟨n, G, hr, hs, hc, rfl, rfl⟩ := live_row hl
  obtain ⟨a, a1, _, a3, _⟩ := hS.live _ _ _ _ hl
  refine .inr ⟨g, s, n, G, rfl, hr, hs, ?_, ?_⟩
  ·unfold getE
   simp only [Option.map_some] at hf
   simp only [hf, a1, Option.map_some, Option.getD_some, a3]
  ·cases V with
   | nil => exact hr.elim
   | small sg G0 => obtain ⟨_, _, rfl⟩ := hr; exact hV.2.2.2.2.2.1.1.ok.2.2 s
   | big db D => obtain ⟨i, hi, _, _, rfl⟩ := hr; exact (hV.2.2.2.1.tok i hi).sl.ok.2.2 s
theorem encG_at {n s : Nat} {G : Gr} (hs : s < 8 * n) : objCell (encG n G) (17 * (s / 8) + 9 + s % 8) = some (i64 (G.e s)) ∧ objCell (encG n G) (17 * (s / 8) + 1 + s % 8) = some (u64 (G.k s)) := by
 have h1 := encG_elem (n := n) (g := s / 8) (i := s % 8) (G := G) (by omega) (Nat.mod_lt _ (by decide))
 have h2 := encG_key (n := n) (g := s / 8) (i := s % 8) (G := G) (by omega) (Nat.mod_lt _ (by decide))
 rw [show 8 * (s / 8) + s % 8 = s by omega] at h1 h2
 exact ⟨h1, h2⟩
theorem c62 (hM : Mem w0 w H) (hDb : HasDb w0) (Ty : TypOK K w0 E bty nu) (hL : Live K E bty cb bm bT H m V n id all N) {k : Nat} (hk : k < 2 ^ 64) :
  Calls Tryz.prog 62 [.pointer (some ⟨bT, 0, none⟩), u64 k].toArray w (Keeps w0 H (.tuple #[i64 (getE K all k).elem, .bool (getE K all k).ok])) := by
 refine calls_start Tryz.func62 rfl Tryz.ntmps62 (Nat.le_of_ble_eq_true rfl) ?_
 refine rs hM ?_
 refine asg ?_
 refine asg ?_
 refine rw_nil ?_; intro w hM
 refine rs hM ?_
 refine mv ?_
 refine rw_allocN Tryz.zeroValue84 rfl rfl (fun b6 G6 n6 l6 e6 k6 => ?_)
 refine rw_store1 (v := .int .u64 _) sz84 rfl rfl rfl rfl e6 rfl rfl (by nofun) (fun S1 hS1 kS1 => ?_)
 refine rw_nil ?_; intro w hM
 have hle : H.le S1 := le_keep l6 n6 kS1
 have hkb : S1 b6 = some (.cells #[u64 k] 84 (0, 0)) := hS1.trans rfl
 have hL1 := hL.mono hle
 obtain ⟨pa, pc, hp⟩ := elemM_shape (findM K k V)
 have hc := fun {H' : Heap} {w : World} (hle' : S1.le H') (hM : Mem w0 w H') => c74 (ok := 0) hM hDb (Heap.le_trans hL1.ele hle') Ty (hL1.map.mono hle') hL1.wr hL1.no (hle' _ _ hkb) rfl hk
 rw [hp] at hc
 refine wp_seq ?_
 refine wp_mix_seq [] [] [0, 1, 2, 3, 4, 5, 6, 7, 8, 9, 10, 11, 12, 13] S1 mixed (by kernel_rfl) (Heap.le_refl _) hM ?_
 refine mv ?_
 refine nck ?_
 refine fa fr98_1 ?_
 refine lo (v := .pointer (some ⟨bm, 0, none⟩)) ld96 hL1.tab ?_
 refine mv ?_
 refine nck ?_
 refine fa fr98_0 ?_
 refine lo (v := .pointer (some ⟨bty, 0, none⟩)) ld82 hL1.tab ?_
 refine rw_callq cr74 rfl rfl (fun H' w hle hM => hc hle hM) rfl ?_
 refine mv ?_
 refine rw_extract rfl rfl rfl rfl ?_
 refine rw_extract rfl rfl rfl rfl ?_
 refine asg ?_
 refine asg ?_
 refine rw_nil ?_; intro w hM
 refine rs hM ?_
 refine mv ?_
 refine rw_nil ?_; intro w hM
 rcases hL1.sim.get hL1.map k with ⟨h1, h2⟩ | ⟨g, s, n', G, h1, h2, h3, h4, _⟩
 ·rw [h1] at hp
  simp only [elemM, Value.tuple.injEq, Array.mk.injEq, List.cons.injEq, Value.bool.injEq] at hp
  obtain ⟨_, rfl, _⟩ := hp
  refine wp_if (tmp_lt rfl) rfl (fun hz => by cases hz) (fun hz => ?_)
  refine wp_skip ?_
  simp only [Exit.then]
  refine rs hM ?_
  refine asg ?_
  refine asg ?_
  refine rw_nil ?_; intro w hM
  refine wp_ret ?_
  exact post_tmp2 (v := i64 0) (v' := .bool false) rfl rfl rfl rfl rfl (keep (by rw [h2]; rfl) (hM.mono hle))
 ·rw [h1] at hp
  simp only [elemM, Value.tuple.injEq, Array.mk.injEq, List.cons.injEq, Value.bool.injEq, Value.pointer.injEq] at hp
  obtain ⟨rfl, rfl, _⟩ := hp
  refine wp_if (tmp_lt rfl) rfl (fun hz => ?_) (fun hz => by cases hz)
  refine rs hM ?_
  refine mv ?_
  refine nck ?_
  refine rw_load (v := i64 (G.e s)) ld125 rfl rfl rfl (hL1.map.grs h2) (encG_at h3).1 ?_
  refine asg ?_
  refine asg ?_
  refine rw_nil ?_; intro w hM
  refine wp_ret ?_
  simp only [Exit.then]
  exact post_tmp2 (v := i64 (G.e s)) (v' := .bool true) rfl rfl rfl rfl rfl (keep (by rw [h4]) (hM.mono hle))
end
end
section
variable {w0 w : World} {H : Heap}
theorem c59 {bT k : Nat} {e : Int} {Φ : Heap → Prop} (hM : Mem w0 w H) (hc : ∀ w, Mem w0 w H → Calls Tryz.prog 60 [.pointer (some ⟨bT, 0, none⟩), u64 k, i64 e].toArray w (Gives w0 fun v S => v = .tuple #[] ∧ Φ S)) : Calls Tryz.prog 59 [.pointer (some ⟨bT, 0, none⟩), .float .f64 k, i64 e].toArray w (Gives w0 fun v S => v = .tuple #[] ∧ Φ S) := by
 refine calls_start Tryz.func59 rfl Tryz.ntmps59 (Nat.le_of_ble_eq_true rfl) ?_
 refine re hM ?_
 refine mv ?_
 refine mv ?_
 refine rw_ext (v := u64 k) rfl rfl (ext55 k) rfl ?_
 refine mv ?_
 refine rw_callE cr60 rfl rfl (fun w hM => hc w hM) rfl (by nofun) ?_; rintro _ S4 ⟨rfl, hP⟩
 refine rw_nil ?_; intro w hM
 exact post_none rfl ⟨_, S4, rfl, hM, rfl, hP⟩
theorem c63 {bT k : Nat} {Φ : Heap → Prop} (hM : Mem w0 w H) (hc : ∀ w, Mem w0 w H → Calls Tryz.prog 64 [.pointer (some ⟨bT, 0, none⟩), u64 k].toArray w (Gives w0 fun v S => v = .tuple #[] ∧ Φ S)) : Calls Tryz.prog 63 [.pointer (some ⟨bT, 0, none⟩), .float .f64 k].toArray w (Gives w0 fun v S => v = .tuple #[] ∧ Φ S) := by
 refine calls_start Tryz.func63 rfl Tryz.ntmps63 (Nat.le_of_ble_eq_true rfl) ?_
 refine re hM ?_
 refine mv ?_
 refine mv ?_
 refine rw_ext (v := u64 k) rfl rfl (ext55 k) rfl ?_
 refine rw_callE cr64 rfl rfl (fun w hM => hc w hM) rfl (by nofun) ?_; rintro _ S4 ⟨rfl, hP⟩
 refine rw_nil ?_; intro w hM
 exact post_none rfl ⟨_, S4, rfl, hM, rfl, hP⟩
theorem c61 {bT k : Nat} {e : Int} {b : Bool} (hM : Mem w0 w H) (hc : ∀ w, Mem w0 w H → Calls Tryz.prog 62 [.pointer (some ⟨bT, 0, none⟩), u64 k].toArray w (Keeps w0 H (.tuple #[i64 e, .bool b]))) : Calls Tryz.prog 61 [.pointer (some ⟨bT, 0, none⟩), .float .f64 k].toArray w (Keeps w0 H (.tuple #[i64 e, .bool b])) := by
 refine calls_start Tryz.func61 rfl Tryz.ntmps61 (Nat.le_of_ble_eq_true rfl) ?_
 refine rs hM ?_
 refine asg ?_
 refine asg ?_
 refine rw_nil ?_; intro w hM
 refine rs hM ?_
 refine mv ?_
 refine mv ?_
 refine rw_ext (v := u64 k) rfl rfl (ext55 k) rfl ?_
 refine rw_callE cr62 rfl rfl (fun w hM => (hc w hM).mono fun r w' ⟨h1, h2⟩ => (⟨_, H, h1, h2, rfl, rfl⟩ : Gives w0 (fun v S => v = .tuple #[i64 e, .bool b] ∧ S = H) r w')) rfl (by nofun) ?_; rintro _ S4 ⟨rfl, rfl⟩
 refine rw_extract rfl rfl rfl rfl ?_
 refine rw_extract rfl rfl rfl rfl ?_
 refine asg ?_
 refine asg ?_
 refine rw_nil ?_; intro w hM
 refine wp_ret ?_
 exact post_tmp2 (v := i64 e) (v' := .bool b) rfl rfl rfl rfl rfl (keep rfl hM)
section
variable {K : KT} {E : Heap} {bty cb bm bT n N : Nat} {nu : Bool} {m : Mp} {V : Mv} {id : Nat → Nat → Nat} {all : List Ent}
theorem wasE_nil (h : lenE all = 0) : wasE all = [] := by
 unfold wasE
 rw [List.filter_eq_nil_iff]
 intro i hi hl
 have := cnt_pos (List.mem_range.1 hi) hl
 unfold lenE at h; omega
theorem c48 (hM : Mem w0 w H) (hEc : E cb = none) (Ty : TypOK K w0 E bty nu) (R : Rnd w0 E cb Ty.rand) (hL : Live K E bty cb bm bT H m V n id all N) (hN : N ≤ 6000) :
  Calls Tryz.prog 48 [.pointer (some ⟨bT, 0, none⟩)].toArray w (Gives w0 fun v S => ∃ b it n', v = .pointer (some ⟨b, 0, none⟩) ∧ H b = none ∧ E b = none ∧ Live K E bty cb bm bT S m V n' id all (N + 1) ∧ ItI K m V S id all bm bty b it (fun _ => false) (wasE all) ∧ ∀ x u, H x = some u → x ≠ cb → S x = some u) := by
 have hn : n + 1 < 2 ^ 62 := by have := hL.cntN; omega
 refine calls_start Tryz.func48 rfl Tryz.ntmps48 (Nat.le_of_ble_eq_true rfl) ?_
 refine rs hM ?_
 refine asg ?_
 refine rw_nil ?_; intro w hM
 refine rs hM ?_
 refine rw_build bd108_ rfl rfl rfl ?_
 refine rw_boxN (v := .agg #[.pointer _, .pointer _, .pointer _, .pointer _, .int .u64 _, .int .u64 _, .int .u64 _, .int .u8 _, .int .i64 _, .pointer _, .pointer _, .int .u64 _]) rfl rfl rfl (fun b5 G5 n5 l5 e5 k5 => ?_)
 refine asg ?_
 refine rw_nil ?_; intro w hM
 have hb : G5 b5 = some (encIt zeroIt) := e5.trans rfl
 have hL1 := hL.mono l5
 have hEb : E b5 = none := le_none hL.ele n5
 refine wp_mix_seq [11] [11] [0, 1, 2, 3, 4, 5, 6, 7, 8, 9, 10, 11] G5 mixed (by kernel_rfl) (Heap.le_refl _) hM ?_
 refine mv ?_
 refine nck ?_
 refine fa fr108_0 ?_
 refine mv ?_
 refine nck ?_
 refine fa fr98_0 ?_
 refine lo (v := .pointer (some ⟨bty, 0, none⟩)) ld82 hL1.tab ?_
 refine mv ?_
 refine nck ?_
 refine fa fr98_1 ?_
 refine lo (v := .pointer (some ⟨bm, 0, none⟩)) ld96 hL1.tab ?_
 refine rw_callE cr67 rfl rfl (fun w hM => c67 (K := K) hM hL1.ele Ty R hL1.cnt hn hb hEb hEc hL1.map.cell) rfl (fun _ => ⟨rfl, rfl⟩) ?_; rintro _ S11 ⟨rfl, n', hn', hcb, hrest, hit⟩
 refine rw_nil ?_; intro w hM
 refine rs hM ?_
 refine mv ?_
 refine asg ?_
 refine rw_nil ?_; intro w hM
 refine wp_ret ?_
 have hr : ∀ x u, H x = some u → x ≠ cb → S11 x = some u := fun x u hx hc => hrest x u (l5 _ _ hx) hc (ne_of_none n5 hx)
 have hV : MapIs K S11 bm m V := by
  have hc : ∀ x u, G5 x = some u → ¬ Plain u → S11 x = some u := fun x u hx hp => hrest x u hx (fun e => hp (by rw [e, hL1.cnt] at hx; cases hx; exact encI_plain n)) (fun e => hp (by rw [e, hb] at hx; cases hx; exact encIt_plain _))
  have h0 := hL1.map
  have h1 := h0.cells' m.wr m.seed m.clr m.tomb (S' := S11) (hc _ _ h0.cell (fun hp => hp.1 rfl)) (fun x u hx _ hp => hc x u hx hp)
  exact h1
 have hTc : bT ≠ cb := ne_of_ty hL.tab hL.cnt rfl rfl rfl
 have hL2 : Live K E bty cb bm bT S11 m V n' id all (N + 1) := ⟨fun x u hx => hr x u (hL.ele _ _ hx) (ne_of_none hEc hx), hr _ _ hL.tab hTc, hV, hL.wr, hL.sim, hL.used, hL.tomb, Nat.le_succ_of_le hL.clr, hL.pot.succ, hcb, by have := hL.cntN; omega, Nat.le_succ_of_le hL.len⟩
 rcases hit with ⟨h0, hb'⟩ | ⟨h0, r1, r2, hr1, hr2, hb'⟩
 ·refine post_tmp (v := .pointer (some ⟨b5, 0, none⟩)) rfl rfl rfl ⟨_, S11, rfl, hM, b5, { zeroIt with typ := some ⟨bty, 0, none⟩ }, n', rfl, n5, hEb, hL2, ?_, hr⟩
  rw [wasE_nil (by rw [← hL.used]; exact h0)]
  exact ItI.init0 hb'
 ·exact post_tmp (v := .pointer (some ⟨b5, 0, none⟩)) rfl rfl rfl ⟨_, S11, rfl, hM, b5, _, n', rfl, n5, hEb, hL2, ItI.init1 hV hL.sim h0 hr1 hr2 hb', hr⟩
theorem c79n (hM : Mem w0 w H) {b : Nat} {it : ItV} (hb : H b = some (encIt it)) (him : it.m = none) :
  Calls Tryz.prog 79 [.pointer (some ⟨b, 0, none⟩)].toArray w (Gives w0 fun v S => v = .tuple #[] ∧ S b = some (encIt { it with key := none, elem := none }) ∧ ∀ x, x ≠ b → S x = H x) := by
 refine calls_start Tryz.func79 rfl Tryz.ntmps79 (Nat.le_of_ble_eq_true rfl) ?_
 refine wp_seq ?_
 refine rs hM ?_
 refine mv ?_
 refine nck ?_
 refine fa fr106_3 ?_
 refine rw_load (v := .pointer none) ld96 rfl rfl rfl hb (by rw [← him]; rfl) ?_
 refine rw_bin rfl rfl rfl rfl (b_nil_eq none Tryz.underlying96) ?_
 refine rw_nil ?_; intro w hM
 refine wp_if (tmp_lt rfl) rfl (fun hc => ?_) (by nofun)
 refine rs hM ?_
 refine mv ?_
 refine nck ?_
 refine fa fr106_0 ?_
 refine rw_store1 (v := .pointer _) sz83 rfl rfl rfl rfl hb rfl rfl (by nofun) (fun S1 hS1 kS1 => ?_)
 refine rw_nil ?_; intro w hM
 refine rs hM ?_
 refine mv ?_
 refine nck ?_
 refine fa fr106_1 ?_
 refine rw_store1 (v := .pointer _) sz100 rfl rfl rfl rfl hS1 rfl rfl (by nofun) (fun S2 hS2 kS2 => ?_)
 refine rw_nil ?_; intro w hM
 refine wp_ret ?_
 simp only [Exit.then]
 exact post_none' rfl ⟨_, S2, rfl, hM, rfl, hS2.trans rfl, fun x hx => by rw [kS2 _ hx, kS1 _ hx]⟩
/-- What a walk comes to. -/
def WalkOut (K : KT) (m : Mp) (V : Mv) (S : Heap) (id : Nat → Nat → Nat) (all : List Ent) (bm bty b : Nat) (gs : Nat → Bool) (was : List Nat) (a : Ans) : Prop :=
 (a = Ans.no ∧ ∀ j, j ∈ was → liv all j = true → gs j = true) ∨
 ∃ j x it', a.ok = true ∧ gs j = false ∧ ItI K m V S id all bm bty b it' (flip1 gs j) was ∧ all[j]? = some x ∧ x.gone = false ∧ x.elem = a.elem ∧ K.alike x.key a.key = true ∧ a.key < 2 ^ 64 ∧ InI64 a.elem
theorem c68 (hM : Mem w0 w H) (hDb : HasDb w0) (Ty : TypOK K w0 E bty nu) (hL : Live K E bty cb bm bT H m V n id all N) {b : Nat} {it : ItV} {gs : Nat → Bool} {was : List Nat} (hEb : E b = none) (hI : ItI K m V H id all bm bty b it gs was) :
  Calls Tryz.prog 68 [.pointer (some ⟨b, 0, none⟩)].toArray w (Gives w0 fun v S => ∃ a : Ans, v = .tuple #[u64 a.key, i64 a.elem, .bool a.ok] ∧ (∀ x u, H x = some u → x ≠ b → S x = some u) ∧ WalkOut K m V S id all bm bty b gs was a) := by
 -- the step of the iterator
 have h79 : ∀ w, Mem w0 w H → Calls Tryz.prog 79 [.pointer (some ⟨b, 0, none⟩)].toArray w (Gives w0 fun v S => v = .tuple #[] ∧ ∃ it', S b = some (encIt it') ∧ NextOut K m V S id all bm bty b it' gs was ∧ ∀ x u, H x = some u → x ≠ b → S x = some u) := fun w hM => by
  rcases hI.body with ⟨h1, h2⟩ | ⟨h1, h2, h3, h4⟩
  ·refine (c79n hM hI.blk h1).mono fun r w' hg => hg.mono fun v S ⟨a1, a2, a3⟩ => ⟨a1, _, a2, .inl ⟨rfl, fun j hj => by rw [h2] at hj; cases hj⟩, fun x u hx hne => (a3 x hne).trans hx⟩
  ·rcases h4 with ⟨h4, g, G, h5, h6, h7, h8, h9⟩ | ⟨db, D, d, tab, T, h5, h6, h7, h8, h9, h10, h11, h12⟩
   ·refine (c79s (fun _ => ⟨0, 0, 0, 0, 0, 0, 0, emptyGr⟩) hM hDb hL.ele Ty hEb hL.map hL.wr hL.no hI.blk h1 hI.typ h4 h5 h6 h8.sl.ok h7).mono fun r w' hg => hg.mono fun v S ⟨a1, it', a2, a3, a4⟩ => ⟨a1, it', a2, hI.nextS _ hL.map hL.sim h1 h2 h3 h4 h5 h6 h8 h9 a3 a2 a4, a4⟩
   ·subst h5
    obtain ⟨x1, x2, x3, x4, x5⟩ := ItI.big hL.map h8 h9 h10 h11 h12
    have hM' : Mem w0 w (⟨K, m, .big db D, H, scT D T tab⟩ : Scene).H := hM
    refine (c79b hM' hDb hL.ele Ty hEb hL.map rfl x1 hL.wr hL.no hI.blk h1 hI.typ h6 h7 h8 hI.off x3 x4 x5).mono fun r w' hg => hg.mono fun v S ⟨a1, it', a2, a3, a4⟩ => ?_
    have hrest : ∀ x u, H x = some u → x ≠ b → S x = some u := fun x u hx hne => (a4 x hne).trans hx
    exact ⟨a1, it', a2, hI.nextB hL.map hL.sim h1 h2 h3 h8 x1 x2 a3 a2 hrest, hrest⟩
 refine calls_start Tryz.func68 rfl Tryz.ntmps68 (Nat.le_of_ble_eq_true rfl) ?_
 refine rs hM ?_
 refine asg ?_
 refine asg ?_
 refine asg ?_
 refine rw_nil ?_; intro w hM
 refine rs hM ?_
 refine mv ?_
 refine nck ?_
 refine fa fr108_0 ?_
 refine rw_callE cr79 rfl rfl (fun w hM => h79 w hM) rfl (by nofun) ?_; rintro _ S1 ⟨rfl, it', hb, hN, hrest⟩
 refine rw_nil ?_; intro w hM
 refine wp_seq ?_
 rcases hN with ⟨hk, hall⟩ | ⟨ka, ea, j, hka, hea, hj, hI', g', n', G', s', a, t1, t2, t3, t4, t5, t6, t7, t8, t9⟩
 ·refine rs hM ?_
  refine mv ?_
  refine nck ?_
  refine fa fr108_0 ?_
  refine fa fr106_0 ?_
  refine rw_load (v := .pointer none) ld83 rfl rfl rfl hb (by rw [← hk]; rfl) ?_
  refine rw_bin rfl rfl rfl rfl (b_nil_eq none Tryz.underlying83) ?_
  refine rw_nil ?_; intro w hM
  refine wp_if (tmp_lt rfl) rfl (fun hc => ?_) (by nofun)
  refine rs hM ?_
  refine asg ?_
  refine asg ?_
  refine asg ?_
  refine rw_nil ?_; intro w hM
  refine wp_ret ?_
  simp only [Exit.then]
  exact post_tmp3 (v := u64 0) (v' := i64 0) (v'' := .bool false) rfl rfl rfl rfl rfl rfl rfl ⟨_, S1, rfl, hM, Ans.no, rfl, hrest, .inl ⟨rfl, hall⟩⟩
 ·refine rs hM ?_
  refine mv ?_
  refine nck ?_
  refine fa fr108_0 ?_
  refine fa fr106_0 ?_
  refine rw_load (v := .pointer (some ka)) ld83 rfl rfl rfl hb (by rw [← hka]; rfl) ?_
  refine rw_bin rfl rfl rfl rfl (b_nil_eq (some _) Tryz.underlying83) ?_
  refine rw_nil ?_; intro w hM
  refine wp_if (tmp_lt rfl) rfl (by nofun) (fun hc => ?_)
  refine wp_skip ?_
  subst t4
  subst t5
  refine wp_mix_seq [] [] [0, 1, 2, 3, 4, 5, 6, 7, 8, 9, 10, 11, 12, 13, 14, 15, 16] S1 mixed (by kernel_rfl) (Heap.le_refl _) hM ?_
  refine mv ?_
  refine nck ?_
  refine fa fr108_0 ?_
  refine fa fr106_0 ?_
  refine rw_load (v := .pointer (some ⟨g', 17 * (s' / 8) + 1 + s' % 8, none⟩)) ld83 rfl rfl rfl hb (by rw [← hka]; rfl) ?_
  refine nck ?_
  refine rw_load (v := u64 (G'.k s')) ld84 rfl rfl rfl t1 (encG_at t2).2 ?_
  refine mv ?_
  refine nck ?_
  refine fa fr108_0 ?_
  refine fa fr106_1 ?_
  refine rw_load (v := .pointer (some ⟨g', 17 * (s' / 8) + 9 + s' % 8, none⟩)) ld100 rfl rfl rfl hb (by rw [← hea]; rfl) ?_
  refine nck ?_
  refine rw_load (v := i64 (G'.e s')) ld125 rfl rfl rfl t1 (encG_at t2).1 ?_
  refine asg ?_
  refine asg ?_
  refine asg ?_
  refine rw_nil ?_; intro w hM
  refine wp_ret ?_
  exact post_tmp3 (v := u64 (G'.k s')) (v' := i64 (G'.e s')) (v'' := .bool true) rfl rfl rfl rfl rfl rfl rfl ⟨_, S1, rfl, hM, ⟨true, G'.k s', G'.e s'⟩, rfl, hrest, .inr ⟨j, a, it', rfl, hj, hI', t6, t7, t8, t9, t3.2.1 s', t3.2.2 s'⟩⟩
end
end
end Go.Proofs.YtddpfkcofmfmpaaGreatDoor
