/-
  Iterators: from table to table. Conditions stand in each contract. Plain theory: how an iterator goes on. Conditions stand in each definition. An iterator goes on. Conditions stand in the contract.
  Conditions stand in each lemma.
-/
import Derived.Test.YtddpfkcofmfmpaaGreatDoorQ14
namespace Go.Proofs.YtddpfkcofmfmpaaGreatDoor
open Go Go.RowKit
set_option maxRecDepth 20000
section
variable {w0 w : World} {H : Heap}
theorem c99 (hM : Mem w0 w H) {b bm tb : Nat} {m : Mp} {t : Tb} {i : ItV} (hb : H b = some (encIt i)) (hm : H bm = some (encM m)) (ht : H tb = some (encT t)) (him : i.m = some ⟨bm, 0, none⟩) (hit : i.tab = some ⟨tb, 0, none⟩) (hl : t.ld ≤ m.gd) (hg : m.gd ≤ 40) (h0 : 0 ≤ i.di) (h1 : i.di ≤ 2 ^ 50) :
  Calls Tryz.prog 99 [.pointer (some ⟨b, 0, none⟩)].toArray w (Sets w0 H b (encIt { i with di := i.di + ((2 ^ (m.gd - t.ld) : Nat) : Int), tab := none, grp := none, ei := 0 }) (.tuple #[])) := by
 have hp : 2 ^ (m.gd - t.ld) ≤ 2 ^ 40 := Nat.pow_le_pow_right (by omega) (by omega)
 have e1 : (1 : Int) * 2 ^ (m.gd - t.ld) = ((2 ^ (m.gd - t.ld) : Nat) : Int) := by simp
 generalize hn : 2 ^ (m.gd - t.ld) = n at hp e1 ⊢
 refine calls_start Tryz.func99 rfl Tryz.ntmps99 (Nat.le_of_ble_eq_true rfl) ?_
 refine wp_mix_seq [] [] [0, 1, 2, 3, 4, 5, 6, 7, 8, 9, 10, 11, 12, 13, 14, 15, 16] H mixed (by kernel_rfl) (Heap.le_refl _) hM ?_
 refine mv ?_
 refine nck ?_
 refine fa fr106_3 ?_
 refine rw_load (v := .pointer (some ⟨bm, 0, none⟩)) ld96 rfl rfl rfl hb (by rw [← him]; rfl) ?_
 refine nck ?_
 refine fa fr132_5 ?_
 refine lo (v := u8 m.gd) ld5 hm ?_
 refine mv ?_
 refine nck ?_
 refine fa fr106_9 ?_
 refine rw_load (v := .pointer (some ⟨tb, 0, none⟩)) ld101 rfl rfl rfl hb (by rw [← hit]; rfl) ?_
 refine nck ?_
 refine fa fr158_3 ?_
 refine lo (v := u8 t.ld) ld5 ht ?_
 refine rw_bin rfl rfl rfl rfl (b_sub8 _ _ hl (by omega)) ?_
 refine rw_bin (v := i64 (n : Int)) rfl rfl rfl rfl (bin_eq (b_shli (x := 1) _ (m.gd - t.ld) (by omega) (by rw [e1]; omega) (by rw [e1]; omega)) (by rw [e1])) ?_
 refine asg ?_
 refine rw_nil ?_; intro w hM
 refine rs hM ?_
 refine mv ?_
 refine nck ?_
 refine fa fr106_8 ?_
 refine lo ld3 hb ?_
 refine mv ?_
 refine rw_bin rfl rfl rfl rfl (b_addi (by omega) (by omega)) ?_
 refine nck ?_
 refine fa fr106_8 ?_
 refine rw_store1 (v := .int .i64 _) sz3 rfl rfl rfl rfl hb rfl rfl (by nofun) (fun S1 hS1 kS1 => ?_)
 refine rw_nil ?_; intro w hM
 refine rs hM ?_
 refine mv ?_
 refine nck ?_
 refine fa fr106_9 ?_
 refine rw_store1 (v := .pointer _) sz101 rfl rfl rfl rfl hS1 rfl rfl (by nofun) (fun S2 hS2 kS2 => ?_)
 refine rw_nil ?_; intro w hM
 refine rs hM ?_
 refine mv ?_
 refine rw_build bd104_ rfl rfl rfl ?_
 refine nck ?_
 refine fa fr106_10 ?_
 refine rw_store (v := .agg #[.pointer _]) sz104 rfl rfl rfl rfl hS2 rfl rfl rfl (by nofun) (fun S3 hS3 kS3 => ?_)
 refine rw_nil ?_; intro w hM
 refine re hM ?_
 refine mv ?_
 refine nck ?_
 refine fa fr106_11 ?_
 refine rw_store1 (v := .int .u64 _) sz22 rfl rfl rfl rfl hS3 rfl rfl (by nofun) (fun S4 hS4 kS4 => ?_)
 refine rw_nil ?_; intro w hM
 exact post_none rfl ⟨rfl, S4, hM, hS4.trans rfl, fun x hx => by rw [kS4 _ hx, kS3 _ hx, kS2 _ hx, kS1 _ hx]⟩
theorem MapIs.mono {K : KT} {H S : Heap} {bm : Nat} {m : Mp} {V : Mv} (h : MapIs K H bm m V) (hle : H.le S) : MapIs K S bm m V := by
 cases V with
 | nil => exact ⟨hle _ _ h.1, h.2⟩
 | small sg G => exact ⟨hle _ _ h.1, h.2.1, h.2.2.1, h.2.2.2.1, hle _ _ h.2.2.2.2.1, h.2.2.2.2.2⟩
 | big db D =>
  obtain ⟨a, b, c, d⟩ := h
  exact ⟨hle _ _ a, b, ⟨hle _ _ c.dir, fun i hi => hle _ _ (c.tabs i hi), fun i hi => hle _ _ (c.grs i hi)⟩, d⟩
/-- What is handed back for an entry of a table that was replaced. -/
def grownRes (K : KT) (V : Mv) (same : Bool) (k g ok oe : Nat) : Value :=
 match findM K k V with
 | some (g', s) => keyM (some (g', s))
 | none => if same && !K.eqk k k then .tuple #[.pointer (some ⟨g, ok, none⟩), .pointer (some ⟨g, oe, none⟩), .bool true] else .tuple #[.pointer none, .pointer none, .bool false]
set_option maxHeartbeats 2000000 in
theorem c100 (hM : Mem w0 w H) (hDb : HasDb w0) {K : KT} {E : Heap} {bty : Nat} {nu : Bool} (hE : E.le H) (Ty : TypOK K w0 E bty nu) {b bm : Nat} {m : Mp} {V : Mv} (hV : MapIs K H bm m V) (hwr : m.wr = 0) (hU : m.used = 0 → ∀ g s k e, ¬ V.live g s k e)
  {i : ItV} (hb : H b = some (encIt i)) (him : i.m = some ⟨bm, 0, none⟩) (hity : i.typ = some ⟨bty, 0, none⟩) {g n gi q k : Nat} {G : Gr} (hg : H g = some (encG n G)) (hig : i.grp = some ⟨g, 17 * gi, none⟩) (hgi : gi < n) (hq : q < 8) (hk : G.k (8 * gi + q) = k) (hkl : k < 2 ^ 64) :
  Calls Tryz.prog 100 [.pointer (some ⟨b, 0, none⟩), .pointer (some ⟨g, 17 * gi + 1 + q, none⟩), u64 q].toArray w (Keeps w0 H (grownRes K V (decide (i.clr = m.clr)) k g (17 * gi + 1 + q) (17 * gi + 9 + q))) := by
 have hm := hV.cell
 have hkc : objCell (encG n G) (17 * gi + 1 + q) = some (u64 k) := by rw [← hk]; exact encG_key hgi hq
 obtain ⟨pa, pb, pc, hp⟩ := keyM_shape (findM K k V)
 have h97 : ∀ {H' : Heap} {w : World}, H.le H' → Mem w0 w H' → Calls Tryz.prog 97 [.pointer (some ⟨bm, 0, none⟩), .pointer (some ⟨bty, 0, none⟩), .pointer (some ⟨g, 17 * gi + 1 + q, none⟩)].toArray w (Keeps w0 H' (.tuple #[.pointer pa, .pointer pb, .bool pc])) := fun hle hM => by
  have := c97 hM hDb (Heap.le_trans hE hle) Ty (hV.mono hle) hwr hU (hle _ _ hg) hkc hkl
  rw [hp] at this; exact this
 have heq : ∀ {H' : Heap} {w : World}, H.le H' → Mem w0 w H' → Calls Tryz.prog Ty.fe ([Value.pointer (some ⟨g, 17 * gi + 1 + q, none⟩), .pointer (some ⟨g, 17 * gi + 1 + q, none⟩)] ++ []).toArray w (Keeps w0 H' (.bool (K.eqk k k))) := fun hle hM => Ty.equal hM (Heap.le_trans hE hle) (hle _ _ hg) hkc hkl (hle _ _ hg) hkc hkl
 refine calls_start Tryz.func100 rfl Tryz.ntmps100 (Nat.le_of_ble_eq_true rfl) ?_
 refine rs hM ?_
 refine asg ?_
 refine asg ?_
 refine asg ?_
 refine rw_nil ?_; intro w hM
 refine wp_mix_seq [] [] [0, 1, 2, 3, 4, 5, 6, 7, 8, 9, 10, 11, 12, 13, 14, 15, 16] H mixed (by kernel_rfl) (Heap.le_refl _) hM ?_
 refine mv ?_
 refine nck ?_
 refine fa fr106_3 ?_
 refine rw_load (v := .pointer (some ⟨bm, 0, none⟩)) ld96 rfl rfl rfl hb (by rw [← him]; rfl) ?_
 refine mv ?_
 refine nck ?_
 refine fa fr106_2 ?_
 refine rw_load (v := .pointer (some ⟨bty, 0, none⟩)) ld82 rfl rfl rfl hb (by rw [← hity]; rfl) ?_
 refine mv ?_
 refine rw_callq (v := .tuple #[.pointer pa, .pointer pb, .bool pc]) cr97 rfl rfl (fun H' w hle hM => h97 hle hM) rfl ?_
 refine mv ?_
 refine rw_extract rfl rfl rfl rfl ?_
 refine rw_extract rfl rfl rfl rfl ?_
 refine rw_extract rfl rfl rfl rfl ?_
 refine asg ?_
 refine asg ?_
 refine asg ?_
 refine rw_nil ?_; intro w hM
 refine wp_seq ?_
 refine rs hM ?_
 refine mv ?_
 refine rw_un rfl rfl rfl (u_not _) ?_
 refine rw_nil ?_; intro w hM
 refine wp_if (tmp_lt rfl) rfl (fun hc => ?_) (fun hc => ?_)
 ·have hpc : pc = false := by simpa using hc
  have hf : findM K k V = none := by
   cases h : findM K k V with
   | none => rfl
   | some p => rw [h] at hp; simp only [keyM, Value.tuple.injEq, Array.mk.injEq, List.cons.injEq, Value.bool.injEq] at hp; rw [hpc] at hp; cases hp.2.2.1
  refine wp_seq ?_
  by_cases hcl : i.clr = m.clr
  ·refine wp_mix_seq [] [] [0, 1, 2, 3, 4, 5, 6, 7, 8, 9, 10, 11, 12, 13, 14, 15, 16, 17, 18, 19, 20, 21, 22, 23, 24] H mixed (by kernel_rfl) (Heap.le_refl _) hM ?_
   refine mv ?_
   refine nck ?_
   refine fa fr106_6 ?_
   refine lo (v := u64 i.clr) ld22 hb ?_
   refine mv ?_
   refine nck ?_
   refine fa fr106_3 ?_
   refine rw_load (v := .pointer (some ⟨bm, 0, none⟩)) ld96 rfl rfl rfl hb (by rw [← him]; rfl) ?_
   refine nck ?_
   refine fa fr132_9 ?_
   refine lo (v := u64 m.clr) ld22 hm ?_
   refine rw_bin rfl rfl rfl rfl (b_true (b_eq _ _) (beq_iff_eq.2 (by rw [hcl]))) ?_
   refine mv ?_
   refine mv ?_
   refine nck ?_
   refine fa fr106_2 ?_
   refine rw_load (v := .pointer (some ⟨bty, 0, none⟩)) ld82 rfl rfl rfl hb (by rw [← hity]; rfl) ?_
   refine nck ?_
   refine fa fr88_1 ?_
   refine lo (v := .func (.func Ty.fe) #[] #[]) ld86 (hE _ _ Ty.typ) ?_
   refine mv ?_
   refine mv ?_
   refine rw_callvq (captured := []) Ty.cre rfl rfl rfl (fun H' w hle hM => heq hle hM) rfl ?_
   refine rw_un rfl rfl rfl (u_not _) ?_
   refine rw_pick rfl rfl rfl rfl rfl ?_
   refine rw_nil ?_; intro w hM
   refine wp_if (tmp_lt rfl) rfl (fun hz => ?_) (fun hz => ?_)
   ·have hgr : objCell (encIt i) 10 = some (.pointer (some ⟨g, 17 * gi, none⟩)) := by rw [← hig]; rfl
    refine wp_mix_seq [] [] [0, 1, 2, 3, 4, 5, 6, 7, 8, 9] H mixed (by kernel_rfl) (Heap.le_refl _) hM ?_
    refine mv ?_
    refine nck ?_
    refine fa fr106_10 ?_
    refine mv ?_
    refine nck ?_
    refine fa fr106_2 ?_
    refine rw_load (v := .pointer (some ⟨bty, 0, none⟩)) ld82 rfl rfl rfl hb (by rw [← hity]; rfl) ?_
    refine mv ?_
    refine rw_callq cr98 rfl rfl (fun H' w hle hM => c98 hM (hle _ _ hb) hgr hq) rfl ?_
    refine asg ?_
    refine rw_nil ?_; intro w hM
    refine rs hM ?_
    refine mv ?_
    refine mv ?_
    refine asg ?_
    refine asg ?_
    refine asg ?_
    refine rw_nil ?_; intro w hM
    refine wp_ret ?_
    simp only [Exit.then]
    refine post_tmp3 (v := .pointer _) (v' := .pointer _) (v'' := .bool _) rfl rfl rfl rfl rfl rfl rfl (keep ?_ hM)
    unfold grownRes
    rw [hf, decide_eq_true hcl]
    have hz' : (!K.eqk k k) = true := hz
    simp only [hz', Bool.true_and, if_true]
   ·refine wp_skip ?_
    simp only [Exit.then]
    refine rs hM ?_
    refine asg ?_
    refine asg ?_
    refine asg ?_
    refine rw_nil ?_; intro w hM
    refine wp_ret ?_
    simp only [Exit.then]
    refine post_tmp3 (v := .pointer _) (v' := .pointer _) (v'' := .bool _) rfl rfl rfl rfl rfl rfl rfl (keep ?_ hM)
    unfold grownRes
    have hz' : (!K.eqk k k) = false := hz
    rw [hf, hz', Bool.and_false]; rfl
  ·have hne : ((i.clr : Int) == (m.clr : Int)) = false := by
    cases h : ((i.clr : Int) == (m.clr : Int)) with
    | false => rfl
    | true => have := beq_iff_eq.1 h; exact absurd (by omega) hcl
   refine wp_mix_seq [] [] [0, 1, 2, 3, 4, 5, 6, 7, 8, 9, 10, 11, 12, 13, 14, 15, 16, 17, 18, 19, 20, 21, 22, 23, 24] H mixed (by kernel_rfl) (Heap.le_refl _) hM ?_
   refine mv ?_
   refine nck ?_
   refine fa fr106_6 ?_
   refine lo (v := u64 i.clr) ld22 hb ?_
   refine mv ?_
   refine nck ?_
   refine fa fr106_3 ?_
   refine rw_load (v := .pointer (some ⟨bm, 0, none⟩)) ld96 rfl rfl rfl hb (by rw [← him]; rfl) ?_
   refine nck ?_
   refine fa fr132_9 ?_
   refine lo (v := u64 m.clr) ld22 hm ?_
   refine rw_bin rfl rfl rfl rfl (b_false (b_eq _ _) hne) ?_
   refine mv ?_
   refine rw_skip rfl rfl ?_
   refine rw_skip rfl rfl ?_
   refine rw_skip rfl rfl ?_
   refine rw_skip rfl rfl ?_
   refine rw_skip rfl rfl ?_
   refine rw_skip rfl rfl ?_
   refine rw_skip rfl rfl ?_
   refine rw_skip rfl rfl ?_
   refine rw_skip rfl rfl ?_
   refine rw_skip rfl rfl ?_
   refine rw_skip rfl rfl ?_
   refine rw_pick rfl rfl rfl rfl rfl ?_
   refine rw_nil ?_; intro w hM
   refine wp_if (tmp_lt rfl) rfl (fun hz => by cases hz) (fun hz => ?_)
   refine wp_skip ?_
   simp only [Exit.then]
   refine rs hM ?_
   refine asg ?_
   refine asg ?_
   refine asg ?_
   refine rw_nil ?_; intro w hM
   refine wp_ret ?_
   simp only [Exit.then]
   refine post_tmp3 (v := .pointer _) (v' := .pointer _) (v'' := .bool _) rfl rfl rfl rfl rfl rfl rfl (keep ?_ hM)
   unfold grownRes
   rw [hf, decide_eq_false hcl]; rfl
 ·have hpc : pc = true := by simpa using hc
  subst hpc
  refine wp_skip ?_
  refine rs hM ?_
  refine mv ?_
  refine mv ?_
  refine asg ?_
  refine asg ?_
  refine asg ?_
  refine rw_nil ?_; intro w hM
  refine wp_ret ?_
  refine post_tmp3 (v := .pointer _) (v' := .pointer _) (v'' := .bool _) rfl rfl rfl rfl rfl rfl rfl (keep ?_ hM)
  unfold grownRes
  cases h : findM K k V with
  | none => rw [h] at hp; simp only [keyM, Value.tuple.injEq, Array.mk.injEq, List.cons.injEq, Value.bool.injEq] at hp; cases hp.2.2.1
  | some p => rw [h] at hp; exact hp.symm
end
/-- What an iterator meets: the map, the tables by their blocks (those of the map, and the one that she walks), memory. -/
structure Scene where
 K : KT
 m : Mp
 V : Mv
 H : Heap
 T : Nat → Tb
/-- The entry of slot s of the row g is no more: her slot is not full, or (the row is no more a part of the map) the map has no such key. -/
def Scene.dead (X : Scene) (same grown : Bool) (G : Gr) (s : Nat) : Prop := 128 ≤ G.c s ∨ (grown = true ∧ findM X.K (G.k s) X.V = none ∧ (same && !X.K.eqk (G.k s) (G.k s)) = false)
/-- What is told of slot s. -/
def Scene.told (X : Scene) (same grown : Bool) (g s : Nat) (G : Gr) (ka ea : Addr) : Prop := G.c s < 128 ∧
 ((grown = false ∧ ka = ⟨g, 17 * (s / 8) + 1 + s % 8, none⟩ ∧ ea = ⟨g, 17 * (s / 8) + 9 + s % 8, none⟩) ∨
  (grown = true ∧ ∃ g' s', findM X.K (G.k s) X.V = some (g', s') ∧ ka = ⟨g', 17 * (s' / 8) + 1 + s' % 8, none⟩ ∧ ea = ⟨g', 17 * (s' / 8) + 9 + s' % 8, none⟩) ∨
  (grown = true ∧ findM X.K (G.k s) X.V = none ∧ (same && !X.K.eqk (G.k s) (G.k s)) = true ∧ ka = ⟨g, 17 * (s / 8) + 1 + s % 8, none⟩ ∧ ea = ⟨g, 17 * (s / 8) + 9 + s % 8, none⟩))
/-- Where an iterator stands: directory place, its offset, table, place in the table. -/
structure Pos where
 di : Nat
 off : Nat
 tab : Option Nat
 ei : Nat
/-- A table of the map is the table of her block. -/
def Scene.OK (X : Scene) : Prop := ∀ db D i, X.V = .big db D → i < 2 ^ D.gd → X.T (D.d i) = D.tab i
/-- One step that finds nothing. same: no clearing since the iterator began; eo: her offset in the tables. -/
inductive Scene.Step (X : Scene) (same : Bool) (eo : Nat) : Pos → Pos → Prop
 | resolve {di off idx ix : Nat} {db : Nat} {D : Dir} : X.V = .big db D → di < 2 ^ D.gd → idx = (di + off) % 2 ^ D.gd → (D.tab idx).index = (ix : Nat) → ix ≤ idx → X.Step same eo ⟨di, off, none, 0⟩ ⟨di, (off + 2 ^ 64 - (idx - ix)) % 2 ^ 64, some (D.d idx), 0⟩
 | skip {di off b ei : Nat} : ei < 8 * (X.T b).n → X.dead same (decide ((X.T b).index = -1)) (X.T b).G ((ei + eo) % (8 * (X.T b).n)) → X.Step same eo ⟨di, off, some b, ei⟩ ⟨di, off, some b, ei + 1⟩
 | next {di off b ei : Nat} : 8 * (X.T b).n ≤ ei → (X.T b).ld ≤ X.m.gd → X.Step same eo ⟨di, off, some b, ei⟩ ⟨di + 2 ^ (X.m.gd - (X.T b).ld), off, none, 0⟩
 | over {di off b ei ei' : Nat} : 8 * (X.T b).n ≤ ei → ei ≤ ei' → X.Step same eo ⟨di, off, some b, ei⟩ ⟨di, off, some b, ei'⟩
inductive Scene.Steps (X : Scene) (same : Bool) (eo : Nat) : Pos → Pos → Prop
 | refl (p : Pos) : X.Steps same eo p p
 | step {p q r : Pos} : X.Steps same eo p q → X.Step same eo q r → X.Steps same eo p r
theorem Scene.Steps.trans {X : Scene} {same : Bool} {eo : Nat} {p q r : Pos} (h1 : X.Steps same eo p q) (h2 : X.Steps same eo q r) : X.Steps same eo p r := by
 induction h2 with
 | refl => exact h1
 | step _ h ih => exact ih.step h
/-- Slots that are skipped one after the other. -/
theorem Scene.Steps.skips {X : Scene} {same : Bool} {eo di off b ei : Nat} : ∀ (k : Nat), (∀ y, ei ≤ y → y < ei + k → y < 8 * (X.T b).n ∧ X.dead same (decide ((X.T b).index = -1)) (X.T b).G ((y + eo) % (8 * (X.T b).n))) → X.Steps same eo ⟨di, off, some b, ei⟩ ⟨di, off, some b, ei + k⟩
 | 0, _ => .refl _
 | k + 1, h => by
  have := h (ei + k) (by omega) (by omega)
  exact (Scene.Steps.skips k fun y h1 h2 => h y h1 (by omega)).step (.skip this.1 this.2)
/-- Slots that are skipped, to the row's end or beyond. -/
theorem Scene.Steps.jump {X : Scene} {same : Bool} {eo di off b ei k : Nat} (h : ∀ y, ei ≤ y → y < ei + k → y < 8 * (X.T b).n → X.dead same (decide ((X.T b).index = -1)) (X.T b).G ((y + eo) % (8 * (X.T b).n))) : X.Steps same eo ⟨di, off, some b, ei⟩ ⟨di, off, some b, ei + k⟩ := by
 by_cases h1 : ei + k ≤ 8 * (X.T b).n
 ·exact Scene.Steps.skips k fun y a c => ⟨by omega, h y a c (by omega)⟩
 ·by_cases h2 : ei < 8 * (X.T b).n
  ·have h3 : X.Steps same eo ⟨di, off, some b, ei⟩ ⟨di, off, some b, ei + (8 * (X.T b).n - ei)⟩ := Scene.Steps.skips _ fun y a c => ⟨by omega, h y a (by omega) (by omega)⟩
   rw [show ei + (8 * (X.T b).n - ei) = 8 * (X.T b).n by omega] at h3
   exact h3.step (.over (Nat.le_refl _) (by omega))
  ·exact (Scene.Steps.refl _).step (.over (by omega) (by omega))
section
variable {w0 w : World} {H : Heap}
/-- A small map's iterator: what she comes to. -/
def NextSmall (X : Scene) (it : ItV) (g : Nat) (G : Gr) (it' : ItV) : Prop :=
 ∃ x, (∀ y, it.ei ≤ y → y < x → X.dead (decide (it.clr = X.m.clr)) (decide (X.m.dirLen ≠ 0)) G ((y + it.eo) % 8)) ∧
  ((8 ≤ x ∧ it.ei ≤ x ∧ it' = { it with key := none, elem := none, ei := x }) ∨
   (x < 8 ∧ it.ei ≤ x ∧ ∃ ka ea, X.told (decide (it.clr = X.m.clr)) (decide (X.m.dirLen ≠ 0)) g ((x + it.eo) % 8) G ka ea ∧ it' = { it with key := some ka, elem := some ea, ei := x + 1 }))
theorem full_bit {c : Nat} (hc : c < 256) : ((((c &&& 128 : Nat) : Int) == (128 : Int)) = decide (128 ≤ c)) := byte_top c hc
theorem MapIs.off {K : KT} {H S : Heap} {bm b : Nat} {m : Mp} {V : Mv} {it : ItV} (h : MapIs K H bm m V) (hb : H b = some (encIt it)) (hr : ∀ y, y ≠ b → S y = H y) : MapIs K S bm m V := by
 have h0 : H.le S ∨ True := .inr trivial
 have hm := (hr _ (ne_of_ty h.cell hb rfl rfl rfl)).trans h.cell
 cases V with
 | nil => exact ⟨hm, h.2⟩
 | small sg G => exact ⟨hm, h.2.1, h.2.2.1, h.2.2.2.1, (hr _ (ne_of_ty h.2.2.2.2.1 hb rfl rfl rfl)).trans h.2.2.2.2.1, h.2.2.2.2.2⟩
 | big db D =>
  obtain ⟨a, b', c, d⟩ := h
  exact ⟨hm, b', ⟨(hr _ (ne_of_ty c.dir hb rfl rfl rfl)).trans c.dir, fun i hi => (hr _ (ne_of_ty (c.tabs i hi) hb rfl rfl rfl)).trans (c.tabs i hi), fun i hi => (hr _ (ne_of_ty (c.grs i hi) hb rfl rfl rfl)).trans (c.grs i hi)⟩, d⟩
/-- .. the contract's end. -/
def NextR (X : Scene) (it : ItV) (it' : ItV) : Prop :=
 (it.m = none ∧ it' = { it with key := none, elem := none }) ∨
 (it.m ≠ none ∧ it.di < 0 ∧ ∃ g G, it.grp = some ⟨g, 0, none⟩ ∧ X.H g = some (encG 1 G) ∧ NextSmall X it g G it')
set_option maxHeartbeats 8000000 in
theorem c79s (T : Nat → Tb) (hM : Mem w0 w H) (hDb : HasDb w0) {K : KT} {E : Heap} {bty : Nat} {nu : Bool} (hE : E.le H) (Ty : TypOK K w0 E bty nu) {b bm : Nat} (hEb : E b = none) {m : Mp} {V : Mv} (hV : MapIs K H bm m V) (hwr : m.wr = 0) (hU : m.used = 0 → ∀ g s k e, ¬ V.live g s k e)
  {it : ItV} (hb : H b = some (encIt it)) (him : it.m = some ⟨bm, 0, none⟩) (hity : it.typ = some ⟨bty, 0, none⟩) (hdi : it.di < 0) {g : Nat} {G : Gr} (hgr : it.grp = some ⟨g, 0, none⟩) (hg : H g = some (encG 1 G)) (hG : G.ok) (hei : it.ei ≤ 8) :
  Calls Tryz.prog 79 [.pointer (some ⟨b, 0, none⟩)].toArray w (Gives w0 fun v S => v = .tuple #[] ∧ ∃ it', S b = some (encIt it') ∧ NextSmall ⟨K, m, V, H, T⟩ it g G it' ∧ ∀ x u, H x = some u → x ≠ b → S x = some u) := by
 have hm := hV.cell
 have hbm : bm ≠ b := ne_of_ty hm hb rfl rfl rfl
 have hgb : g ≠ b := ne_of_ty hg hb rfl rfl rfl
 refine calls_start Tryz.func79 rfl Tryz.ntmps79 (Nat.le_of_ble_eq_true rfl) ?_
 refine wp_seq ?_
 refine rs hM ?_
 refine mv ?_
 refine nck ?_
 refine fa fr106_3 ?_
 refine rw_load (v := .pointer (some ⟨bm, 0, none⟩)) ld96 rfl rfl rfl hb (by rw [← him]; rfl) ?_
 refine rw_bin rfl rfl rfl rfl (b_nil_eq (some _) Tryz.underlying96) ?_
 refine rw_nil ?_; intro w hM
 refine wp_if (tmp_lt rfl) rfl (by nofun) (fun hc => ?_)
 refine wp_skip ?_
 refine wp_seq ?_
 refine rs hM ?_
 refine mv ?_
 refine nck ?_
 refine fa fr106_3 ?_
 refine rw_load (v := .pointer (some ⟨bm, 0, none⟩)) ld96 rfl rfl rfl hb (by rw [← him]; rfl) ?_
 refine nck ?_
 refine fa fr132_7 ?_
 refine lo (v := u8 m.wr) ld5 hm ?_
 refine rw_bin rfl rfl rfl rfl (b_false (b_ne _ _) (by rw [hwr]; rfl)) ?_
 refine rw_nil ?_; intro w hM
 refine wp_if (tmp_lt rfl) rfl (by nofun) (fun hc => ?_)
 refine wp_skip ?_
 refine wp_seq ?_
 refine rs hM ?_
 refine mv ?_
 refine nck ?_
 refine fa fr106_8 ?_
 refine lo ld3 hb ?_
 refine rw_bin rfl rfl rfl rfl (b_true (b_lt _ _) (decide_eq_true hdi)) ?_
 refine rw_nil ?_; intro w hM
 refine wp_if (tmp_lt rfl) rfl (fun hc => ?_) (by nofun)
 refine wp_seq ?_
 refine wp_block ?_
 refine wp_loop_s (fun k f w => ∃ x S, k = 8 - x ∧ it.ei ≤ x ∧ x ≤ 8 ∧ Know f [(0, .pointer (some ⟨b, 0, none⟩))] ∧ Mem w0 w S ∧ S b = some (encIt { it with ei := x }) ∧ (∀ y, y ≠ b → S y = H y) ∧ ∀ y, it.ei ≤ y → y < x → Scene.dead ⟨K, m, V, H, T⟩ (decide (it.clr = m.clr)) (decide (m.dirLen ≠ 0)) G ((y + it.eo) % 8)) (8 - it.ei) ?_ ?_
 ·exact ⟨it.ei, H, rfl, Nat.le_refl _, hei, Know.of ⟨rfl, trivial⟩, hM, hb, fun _ _ => rfl, fun y h1 h2 => by omega⟩
 clear hM
 rintro k f w ⟨x, S, rfl, hx, hx8, ⟨g0, rfl⟩, hM, hbS, hr, hdead⟩
 have hgS : S g = some (encG 1 G) := (hr _ hgb).trans hg
 have hmS : S bm = some (encM m) := (hr _ hbm).trans hm
 have hES : E.le S := fun y u hy => (hr y (ne_of_none hEb hy)).trans (hE _ _ hy)
 refine wp_seq ?_
 refine rs hM ?_
 refine mv ?_
 refine nck ?_
 refine fa fr106_11 ?_
 refine lo ld22 hbS ?_
 refine rw_bin rfl rfl rfl rfl (b_lt _ _) ?_
 refine rw_nil ?_; intro w hM
 refine wp_if (tmp_lt rfl) rfl (fun hz => ?_) (fun hz => ?_)
 ·have hx' : x < 8 := by have : ((x : Nat) : Int) < 8 := of_decide_eq_true hz; omega
  refine wp_skip ?_
  refine wp_seq ?_
  refine wp_block ?_
  obtain ⟨q, hq⟩ : ∃ q, q = (x + it.eo) % 8 := ⟨_, rfl⟩
  have hq8 : q < 8 := by omega
  refine wp_mix_seq [] [] [0, 1, 2, 3, 4, 5, 6, 7, 8, 9, 10] S mixed (by kernel_rfl) (Heap.le_refl _) hM ?_
  refine mv ?_
  refine nck ?_
  refine fa fr106_11 ?_
  refine lo ld22 hbS ?_
  refine mv ?_
  refine nck ?_
  refine fa fr106_4 ?_
  refine lo ld22 hbS ?_
  refine rw_bin rfl rfl rfl rfl (b_add64 _ _) ?_
  refine rw_bin (v := u64 q) rfl rfl rfl rfl (bin_eq (b_rem64 ((x + it.eo) % 2 ^ 64) 8 (by decide)) (congrArg u64 (by omega))) ?_
  refine asg ?_
  refine rw_nil ?_; intro w hM
  have hgrp : objCell (encIt { it with ei := x }) 10 = some (.pointer (some ⟨g, 0, none⟩)) := by rw [← hgr]; rfl
  have hctrl : objCell (encG 1 G) 0 = some (u64 (word (G.at 0))) := encG_ctrl (n := 1) (g := 0) (by decide)
  have hgrb := Gr.bytes hG 0
  have hat : G.at 0 q = G.c q := by show G.c (8 * 0 + q) = _; rw [show 8 * 0 + q = q by omega]
  refine wp_seq ?_
  refine rs hM ?_
  refine mv ?_
  refine nck ?_
  refine fa fr106_10 ?_
  refine rw_callq cr90 rfl rfl (fun H' w hle hM => c90 hM (hle _ _ hbS) hgrp) rfl ?_
  refine mv ?_
  refine rw_callq cr95 rfl rfl (fun H' w hle hM => c95 hM hgrb (hle _ _ hgS) hctrl hq8) rfl ?_
  refine rw_bin rfl rfl rfl rfl (b_and8 _ 128 (hG.1 _) (by decide)) ?_
  refine rw_bin rfl rfl rfl rfl (b_eq _ _) ?_
  refine rw_nil ?_; intro w hM
  refine wp_if (tmp_lt rfl) rfl (fun hy => ?_) (fun hy => ?_)
  ·have hy' : 128 ≤ G.c q := by rw [← hat]; exact of_decide_eq_true ((byte_top _ (hG.1 _)).symm.trans hy)
   refine wp_exit ?_
   simp only [Exit.then, Exit.inBlock, if_true]
   refine re hM ?_
   refine mv ?_
   refine nck ?_
   refine fa fr106_11 ?_
   refine lo ld22 hbS ?_
   refine rw_bin rfl rfl rfl rfl (b_add64 _ 1) ?_
   refine nck ?_
   refine fa fr106_11 ?_
   refine rw_store1 (v := .int .u64 _) sz22 rfl rfl rfl rfl hbS rfl rfl (by nofun) (fun S7 hS7 kS7 => ?_)
   refine rw_nil ?_; intro w hM
   refine ⟨8 - (x + 1), _, rfl, by omega, x + 1, S7, rfl, by omega, by omega, Know.of ⟨rfl, trivial⟩, hM, ?_, fun y hyb => (kS7 _ hyb).trans (hr y hyb), fun y h1 h2 => ?_⟩
   ·rw [hS7, show (x + 1) % 2 ^ 64 = x + 1 by omega]; rfl
   ·rcases Nat.lt_or_ge y x with h | h
    ·exact hdead y h1 h
    ·rw [show y = x by omega, ← hq]; exact .inl hy'
  ·have hy' : G.c q < 128 := by
    rw [← hat]; have h9 : ¬ 128 ≤ G.at 0 q := of_decide_eq_false ((byte_top _ (hG.1 _)).symm.trans hy); omega
   refine wp_skip ?_
   have htyS : objCell (encIt { it with ei := x }) 2 = some (.pointer (some ⟨bty, 0, none⟩)) := by rw [← hity]; rfl
   have hmpS : objCell (encIt { it with ei := x }) 3 = some (.pointer (some ⟨bm, 0, none⟩)) := by rw [← him]; rfl
   refine wp_mix_seq [] [] [0, 1, 2, 3, 4, 5, 6, 7, 8, 9] S mixed (by kernel_rfl) (Heap.le_refl _) hM ?_
   refine mv ?_
   refine nck ?_
   refine fa fr106_10 ?_
   refine mv ?_
   refine nck ?_
   refine fa fr106_2 ?_
   refine rw_load (v := .pointer (some ⟨bty, 0, none⟩)) ld82 rfl rfl rfl hbS htyS ?_
   refine mv ?_
   refine rw_callq cr96 rfl rfl (fun H' w hle hM => c96 hM (hle _ _ hbS) hgrp hq8) rfl ?_
   refine asg ?_
   refine rw_nil ?_; intro w hM
   refine rs hM ?_
   refine mv ?_
   refine nck ?_
   refine fa fr106_3 ?_
   refine rw_load (v := .pointer (some ⟨bm, 0, none⟩)) ld96 rfl rfl rfl hbS hmpS ?_
   refine nck ?_
   refine fa fr132_4 ?_
   refine lo (v := i64 (m.dirLen : Nat)) ld3 hmS ?_
   refine rw_bin rfl rfl rfl rfl (b_gt _ _) ?_
   refine asg ?_
   refine rw_nil ?_; intro w hM
   refine rs hM ?_
   refine asg ?_
   refine rw_nil ?_; intro w hM
   have hkq : objCell (encG 1 G) (0 + 1 + q) = some (u64 (G.k q)) := by
    have := encG_key (n := 1) (g := 0) (G := G) (by decide) hq8
    rw [show 8 * 0 + q = q by omega] at this; exact this
   have hkl := hG.2.1 q
   have hVS : MapIs K S bm m V := hV.off hb hr
   obtain ⟨pa, pb, pc, hp⟩ := keyM_shape (findM K (G.k q) V)
   refine wp_seq_mid (fun f w => ∃ ka ea, Know f [(0, .pointer (some ⟨b, 0, none⟩)), (3, .pointer (some ka)), (5, .pointer (some ea))] ∧ Scene.told ⟨K, m, V, H, T⟩ (decide (it.clr = m.clr)) (decide (m.dirLen ≠ 0)) g q G ka ea ∧ Mem w0 w S) ?_ ?_
   ·have h97 : ∀ {H' : Heap} {w : World}, S.le H' → Mem w0 w H' → Calls Tryz.prog 97 [.pointer (some ⟨bm, 0, none⟩), .pointer (some ⟨bty, 0, none⟩), .pointer (some ⟨g, 0 + 1 + q, none⟩)].toArray w (Keeps w0 H' (.tuple #[.pointer pa, .pointer pb, .bool pc])) := fun hle hM => by
     have := c97 hM hDb (Heap.le_trans hES hle) Ty (hVS.mono hle) hwr hU (hle _ _ hgS) hkq hkl
     rw [hp] at this; exact this
    have heq : ∀ {H' : Heap} {w : World}, S.le H' → Mem w0 w H' → Calls Tryz.prog Ty.fe ([Value.pointer (some ⟨g, 0 + 1 + q, none⟩), .pointer (some ⟨g, 0 + 1 + q, none⟩)] ++ []).toArray w (Keeps w0 H' (.bool (K.eqk (G.k q) (G.k q)))) := fun hle hM => Ty.equal hM (Heap.le_trans hES hle) (hle _ _ hgS) hkq hkl (hle _ _ hgS) hkq hkl
    have eka : (⟨g, 0 + 1 + q, none⟩ : Addr) = ⟨g, 17 * (q / 8) + 1 + q % 8, none⟩ := by rw [show 0 + 1 + q = 17 * (q / 8) + 1 + q % 8 by omega]
    have eea : (⟨g, 0 + 9 + q, none⟩ : Addr) = ⟨g, 17 * (q / 8) + 9 + q % 8, none⟩ := by rw [show 0 + 9 + q = 17 * (q / 8) + 9 + q % 8 by omega]
    by_cases hd0 : m.dirLen = 0
    ·have hgz : decide (((m.dirLen : Nat) : Int) > 0) = false := decide_eq_false (by omega)
     refine rs hM ?_
     refine rw_move (v := .bool false) rfl rfl (congrArg Value.bool hgz) ?_
     refine rw_nil ?_; intro w hM
     refine wp_if (tmp_lt rfl) rfl (by nofun) (fun hc => ?_)
     refine wp_mix_end [] [] [0, 1, 2, 3, 4, 5, 6, 7, 8, 9] S mixed (by kernel_rfl) (Heap.le_refl _) hM ?_
     refine mv ?_
     refine nck ?_
     refine fa fr106_10 ?_
     refine mv ?_
     refine nck ?_
     refine fa fr106_2 ?_
     refine rw_load (v := .pointer (some ⟨bty, 0, none⟩)) ld82 rfl rfl rfl hbS htyS ?_
     refine mv ?_
     refine rw_callq cr98 rfl rfl (fun H' w hle hM => c98 hM (hle _ _ hbS) hgrp hq8) rfl ?_
     refine asg ?_
     refine rw_nil ?_; intro w hM
     exact ⟨_, rfl, ⟨g, 0 + 1 + q, none⟩, ⟨g, 0 + 9 + q, none⟩, Know.of ⟨rfl, rfl, rfl, trivial⟩, ⟨hy', .inl ⟨decide_eq_false (fun h => h hd0), eka, eea⟩⟩, hM⟩
    ·have hgz : decide (((m.dirLen : Nat) : Int) > 0) = true := decide_eq_true (by omega)
     have hgt : decide (m.dirLen ≠ 0) = true := decide_eq_true hd0
     refine rs hM ?_
     refine rw_move (v := .bool true) rfl rfl (congrArg Value.bool hgz) ?_
     refine rw_nil ?_; intro w hM
     refine wp_if (tmp_lt rfl) rfl (fun hc => ?_) (by nofun)
     refine rs hM ?_
     refine asg ?_
     refine rw_nil ?_; intro w hM
     refine wp_mix_seq [] [] [0, 1, 2, 3, 4, 5, 6, 7, 8, 9, 10, 11, 12, 13, 14, 15, 16] S mixed (by kernel_rfl) (Heap.le_refl _) hM ?_
     refine mv ?_
     refine nck ?_
     refine fa fr106_3 ?_
     refine rw_load (v := .pointer (some ⟨bm, 0, none⟩)) ld96 rfl rfl rfl hbS hmpS ?_
     refine mv ?_
     refine nck ?_
     refine fa fr106_2 ?_
     refine rw_load (v := .pointer (some ⟨bty, 0, none⟩)) ld82 rfl rfl rfl hbS htyS ?_
     refine mv ?_
     refine rw_callq (v := .tuple #[.pointer pa, .pointer pb, .bool pc]) cr97 rfl rfl (fun H' w hle hM => h97 hle hM) rfl ?_
     refine mv ?_
     refine rw_extract rfl rfl rfl rfl ?_
     refine rw_extract rfl rfl rfl rfl ?_
     refine rw_extract rfl rfl rfl rfl ?_
     refine asg ?_
     refine asg ?_
     refine asg ?_
     refine rw_nil ?_; intro w hM
     refine rs hM ?_
     refine mv ?_
     refine rw_un rfl rfl rfl (u_not _) ?_
     refine rw_nil ?_; intro w hM
     refine wp_if (tmp_lt rfl) rfl (fun hc => ?_) (fun hc => ?_)
     ·have hpc : pc = false := by simpa using hc
      have hf : findM K (G.k q) V = none := by
       cases h : findM K (G.k q) V with
       | none => rfl
       | some p => rw [h] at hp; simp only [keyM, Value.tuple.injEq, Array.mk.injEq, List.cons.injEq, Value.bool.injEq] at hp; rw [hpc] at hp; cases hp.2.2.1
      by_cases hcl : it.clr = m.clr
      ·refine wp_mix_seq [] [] [0, 1, 2, 3, 4, 5, 6, 7, 8, 9, 10, 11, 12, 13, 14, 15, 16, 17, 18, 19, 20, 21, 22, 23, 24] S mixed (by kernel_rfl) (Heap.le_refl _) hM ?_
       refine mv ?_
       refine nck ?_
       refine fa fr106_6 ?_
       refine lo (v := u64 it.clr) ld22 hbS ?_
       refine mv ?_
       refine nck ?_
       refine fa fr106_3 ?_
       refine rw_load (v := .pointer (some ⟨bm, 0, none⟩)) ld96 rfl rfl rfl hbS hmpS ?_
       refine nck ?_
       refine fa fr132_9 ?_
       refine lo (v := u64 m.clr) ld22 hmS ?_
       refine rw_bin rfl rfl rfl rfl (b_true (b_eq _ _) (beq_iff_eq.2 (by rw [hcl]))) ?_
       refine mv ?_
       refine mv ?_
       refine nck ?_
       refine fa fr106_2 ?_
       refine rw_load (v := .pointer (some ⟨bty, 0, none⟩)) ld82 rfl rfl rfl hbS htyS ?_
       refine nck ?_
       refine fa fr88_1 ?_
       refine lo (v := .func (.func Ty.fe) #[] #[]) ld86 (hES _ _ Ty.typ) ?_
       refine mv ?_
       refine mv ?_
       refine rw_callvq (captured := []) Ty.cre rfl rfl rfl (fun H' w hle hM => heq hle hM) rfl ?_
       refine rw_un rfl rfl rfl (u_not _) ?_
       refine rw_pick rfl rfl rfl rfl rfl ?_
       refine rw_nil ?_; intro w hM
       refine wp_if (tmp_lt rfl) rfl (fun hz => ?_) (fun hz => ?_)
       ·have hz' : (!K.eqk (G.k q) (G.k q)) = true := hz
        refine wp_mix_end [] [] [0, 1, 2, 3, 4, 5, 6, 7, 8, 9] S mixed (by kernel_rfl) (Heap.le_refl _) hM ?_
        refine mv ?_
        refine nck ?_
        refine fa fr106_10 ?_
        refine mv ?_
        refine nck ?_
        refine fa fr106_2 ?_
        refine rw_load (v := .pointer (some ⟨bty, 0, none⟩)) ld82 rfl rfl rfl hbS htyS ?_
        refine mv ?_
        refine rw_callq cr98 rfl rfl (fun H' w hle hM => c98 hM (hle _ _ hbS) hgrp hq8) rfl ?_
        refine asg ?_
        refine rw_nil ?_; intro w hM
        exact ⟨_, rfl, ⟨g, 0 + 1 + q, none⟩, ⟨g, 0 + 9 + q, none⟩, Know.of ⟨rfl, rfl, rfl, trivial⟩, ⟨hy', .inr (.inr ⟨hgt, hf, by rw [decide_eq_true hcl, hz']; rfl, eka, eea⟩)⟩, hM⟩
       ·have hz' : (!K.eqk (G.k q) (G.k q)) = false := hz
        refine wp_exit ?_
        simp only [Exit.then, Exit.inBlock, if_true]
        refine re hM ?_
        refine mv ?_
        refine nck ?_
        refine fa fr106_11 ?_
        refine lo ld22 hbS ?_
        refine rw_bin rfl rfl rfl rfl (b_add64 _ 1) ?_
        refine nck ?_
        refine fa fr106_11 ?_
        refine rw_store1 (v := .int .u64 _) sz22 rfl rfl rfl rfl hbS rfl rfl (by nofun) (fun S7 hS7 kS7 => ?_)
        refine rw_nil ?_; intro w hM
        refine ⟨8 - (x + 1), _, rfl, by omega, x + 1, S7, rfl, by omega, by omega, Know.of ⟨rfl, trivial⟩, hM, ?_, fun y hyb => (kS7 _ hyb).trans (hr y hyb), fun y h1 h2 => ?_⟩
        ·rw [hS7, show (x + 1) % 2 ^ 64 = x + 1 by omega]; rfl
        ·rcases Nat.lt_or_ge y x with h | h
         ·exact hdead y h1 h
         ·rw [show y = x by omega, ← hq]; exact .inr ⟨hgt, hf, by rw [hz', Bool.and_false]⟩
      ·have hne : ((it.clr : Int) == (m.clr : Int)) = false := by
        cases h : ((it.clr : Int) == (m.clr : Int)) with
        | false => rfl
        | true => have := beq_iff_eq.1 h; exact absurd (by omega) hcl
       refine wp_mix_seq [] [] [0, 1, 2, 3, 4, 5, 6, 7, 8, 9, 10, 11, 12, 13, 14, 15, 16, 17, 18, 19, 20, 21, 22, 23, 24] S mixed (by kernel_rfl) (Heap.le_refl _) hM ?_
       refine mv ?_
       refine nck ?_
       refine fa fr106_6 ?_
       refine lo (v := u64 it.clr) ld22 hbS ?_
       refine mv ?_
       refine nck ?_
       refine fa fr106_3 ?_
       refine rw_load (v := .pointer (some ⟨bm, 0, none⟩)) ld96 rfl rfl rfl hbS hmpS ?_
       refine nck ?_
       refine fa fr132_9 ?_
       refine lo (v := u64 m.clr) ld22 hmS ?_
       refine rw_bin rfl rfl rfl rfl (b_false (b_eq _ _) hne) ?_
       refine mv ?_
       refine rw_skip rfl rfl ?_
       refine rw_skip rfl rfl ?_
       refine rw_skip rfl rfl ?_
       refine rw_skip rfl rfl ?_
       refine rw_skip rfl rfl ?_
       refine rw_skip rfl rfl ?_
       refine rw_skip rfl rfl ?_
       refine rw_skip rfl rfl ?_
       refine rw_skip rfl rfl ?_
       refine rw_skip rfl rfl ?_
       refine rw_skip rfl rfl ?_
       refine rw_pick rfl rfl rfl rfl rfl ?_
       refine rw_nil ?_; intro w hM
       refine wp_if (tmp_lt rfl) rfl (fun hz => by cases hz) (fun hz => ?_)
       refine wp_exit ?_
       simp only [Exit.then, Exit.inBlock, if_true]
       refine re hM ?_
       refine mv ?_
       refine nck ?_
       refine fa fr106_11 ?_
       refine lo ld22 hbS ?_
       refine rw_bin rfl rfl rfl rfl (b_add64 _ 1) ?_
       refine nck ?_
       refine fa fr106_11 ?_
       refine rw_store1 (v := .int .u64 _) sz22 rfl rfl rfl rfl hbS rfl rfl (by nofun) (fun S7 hS7 kS7 => ?_)
       refine rw_nil ?_; intro w hM
       refine ⟨8 - (x + 1), _, rfl, by omega, x + 1, S7, rfl, by omega, by omega, Know.of ⟨rfl, trivial⟩, hM, ?_, fun y hyb => (kS7 _ hyb).trans (hr y hyb), fun y h1 h2 => ?_⟩
       ·rw [hS7, show (x + 1) % 2 ^ 64 = x + 1 by omega]; rfl
       ·rcases Nat.lt_or_ge y x with h | h
        ·exact hdead y h1 h
        ·rw [show y = x by omega, ← hq]; exact .inr ⟨hgt, hf, by rw [decide_eq_false hcl]; rfl⟩
     ·have hpc : pc = true := by simpa using hc
      refine rs hM ?_
      refine mv ?_
      refine asg ?_
      refine rw_nil ?_; intro w hM
      refine re hM ?_
      refine mv ?_
      refine asg ?_
      refine rw_nil ?_; intro w hM
      cases h : findM K (G.k q) V with
      | none => rw [h] at hp; simp only [keyM, Value.tuple.injEq, Array.mk.injEq, List.cons.injEq, Value.bool.injEq] at hp; rw [hpc] at hp; cases hp.2.2.1
      | some p =>
       obtain ⟨g', s'⟩ := p
       rw [h] at hp
       simp only [keyM, Value.tuple.injEq, Array.mk.injEq, List.cons.injEq, Value.pointer.injEq] at hp
       obtain ⟨rfl, rfl, _⟩ := hp
       exact ⟨_, rfl, _, _, Know.of ⟨rfl, rfl, rfl, trivial⟩, ⟨hy', .inr (.inl ⟨hgt, g', s', h, rfl, rfl⟩)⟩, hM⟩
   ·clear hM
    rintro f w ⟨ka, ea, ⟨g1, rfl⟩, htold, hM⟩
    refine rs hM ?_
    refine mv ?_
    refine nck ?_
    refine fa fr106_11 ?_
    refine lo ld22 hbS ?_
    refine rw_bin rfl rfl rfl rfl (b_add64 _ 1) ?_
    refine nck ?_
    refine fa fr106_11 ?_
    refine rw_store1 (v := .int .u64 _) sz22 rfl rfl rfl rfl hbS rfl rfl (by nofun) (fun S22 hS22 kS22 => ?_)
    refine rw_nil ?_; intro w hM
    refine rs hM ?_
    refine mv ?_
    refine mv ?_
    refine nck ?_
    refine fa fr106_0 ?_
    refine rw_store1 (v := .pointer _) sz83 rfl rfl rfl rfl hS22 rfl rfl (by nofun) (fun S23 hS23 kS23 => ?_)
    refine rw_nil ?_; intro w hM
    refine rs hM ?_
    refine mv ?_
    refine mv ?_
    refine nck ?_
    refine fa fr106_1 ?_
    refine rw_store1 (v := .pointer _) sz100 rfl rfl rfl rfl hS23 rfl rfl (by nofun) (fun S24 hS24 kS24 => ?_)
    refine rw_nil ?_; intro w hM
    refine wp_ret ?_
    simp only [Exit.then, Exit.inBlock]
    refine post_none' rfl ⟨_, S24, rfl, hM, rfl, { it with key := some ka, elem := some ea, ei := x + 1 }, ?_, ⟨x, hdead, .inr ⟨hx', hx, ka, ea, by rw [← hq]; exact htold, rfl⟩⟩, fun y u hy hyb => ?_⟩
    ·rw [hS24, show (x + 1) % 2 ^ 64 = x + 1 by omega]; rfl
    ·rw [kS24 _ hyb, kS23 _ hyb, kS22 _ hyb, hr _ hyb]; exact hy
 ·have hx' : x = 8 := by have : ¬ ((x : Nat) : Int) < 8 := of_decide_eq_false hz; omega
  refine wp_exit ?_
  simp only [Exit.then, Exit.inBlock, if_true]
  refine rs hM ?_
  refine mv ?_
  refine nck ?_
  refine fa fr106_0 ?_
  refine rw_store1 (v := .pointer _) sz83 rfl rfl rfl rfl hbS rfl rfl (by nofun) (fun S25 hS25 kS25 => ?_)
  refine rw_nil ?_; intro w hM
  refine rs hM ?_
  refine mv ?_
  refine nck ?_
  refine fa fr106_1 ?_
  refine rw_store1 (v := .pointer _) sz100 rfl rfl rfl rfl hS25 rfl rfl (by nofun) (fun S26 hS26 kS26 => ?_)
  refine rw_nil ?_; intro w hM
  refine wp_ret ?_
  simp only [Exit.then]
  refine post_none' rfl ⟨_, S26, rfl, hM, rfl, { it with key := none, elem := none, ei := x }, hS26.trans rfl, ⟨x, hdead, .inl ⟨by omega, hx, rfl⟩⟩, fun y u hy hyb => ?_⟩
  rw [kS26 _ hyb, kS25 _ hyb, hr _ hyb]; exact hy
end
end Go.Proofs.YtddpfkcofmfmpaaGreatDoor
