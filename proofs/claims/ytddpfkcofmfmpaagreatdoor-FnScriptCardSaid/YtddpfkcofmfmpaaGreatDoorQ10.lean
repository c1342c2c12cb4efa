/-
  Putting into a table. Conditions stand in the contract. A small map's beginning, and her growth to a table. Conditions stand in each contract. A map with tables: what her directory, tables and entries must be, and how they turn when tables are replaced. Plain theory over the memory's partial heap.
  Conditions stand in each lemma.
-/
import Derived.Test.YtddpfkcofmfmpaaGreatDoorQ09
namespace Go.Proofs.YtddpfkcofmfmpaaGreatDoor
open Go Go.RowKit
set_option maxRecDepth 20000
section
variable {w0 w : World} {H : Heap}
theorem c128g (hM : Mem w0 w H) (hD : HasDb w0) {K : KT} {E : Heap} {bty : Nat} {nu : Bool} (hE : E.le H) (T : TypOK K w0 E bty nu) {b bm : Nat} {t : Tb} {mm : Mp} (hb : H b = some (encT t)) (hg : H t.gb = some (encG t.n t.G)) (hm : H bm = some (encM mm)) (hT : TOK K t) :
  Calls Tryz.prog 128 [.pointer (some ⟨b, 0, none⟩), .pointer (some ⟨bty, 0, none⟩), .pointer (some ⟨bm, 0, none⟩)].toArray w (Gives w0 fun v S => ∃ P, v = .tuple #[] ∧ Prunable K t.n t.G P ∧ S b = some (encT { t with gl := t.gl + cnt P (8 * t.n), G := t.G.unpoint P }) ∧ S t.gb = some (encG t.n (t.G.unpoint P)) ∧ ∀ x, x ≠ b → x ≠ t.gb → S x = H x) := by
 have hbg : b ≠ t.gb := ne_of_ty hb hg rfl rfl rfl
 refine (c128 hM hD hE T hb hg hm hbg hT).mono fun r w' ⟨hr, P, hP, hM'⟩ => ⟨_, _, hr, hM', P, rfl, hP, ?_, Heap.upd_same _ _ _, fun x hx hy => ?_⟩
 ·rw [Heap.upd_ne _ _ hbg, Heap.upd_same]
 ·rw [Heap.upd_ne _ _ hy, Heap.upd_ne _ _ hx]
theorem Rehashed.le {K : KT} {S : Heap} (hle : H.le S) {bm db : Nat} {m : Mp} {d : Nat → Nat} {T : Nat → Tb} {i0 : Nat} {v : Value} {S' : Heap} (h : Rehashed K S bm db m d T i0 v S') : Rehashed K H bm db m d T i0 v S' := by
 rcases h with ⟨h1, nb, t', σ, a1, a2, a3, a4, a5, a6, a7, a8, a9, a10, a11, a12⟩ | ⟨h1, n1, n2, t1, t2, σ1, σ2, db', a1, a2, a3, a4, a5, a6, a7, a8, a9, a10, a11, a12, a13, a14, a15, a16, a17, a18, a19, a20, a21, a22, a23, a24, a25, a26⟩
 ·exact .inl ⟨h1, nb, t', σ, a1, le_none hle a2, le_none hle a3, a4, a5, a6, a7, a8, a9, a10, a11, fun x u hx => a12 x u (hle _ _ hx)⟩
 ·exact .inr ⟨h1, n1, n2, t1, t2, σ1, σ2, db', a1, a2, a3, le_none hle a4, le_none hle a5, le_none hle a6, le_none hle a7, a8, a9, a10, a11, a12, a13, a14, a15, a16, a17, a18, a19, a20, a21.imp id (le_none hle), a22, a23, a24, a25, fun x u hx => a26 x u (hle _ _ hx)⟩
/-- What is known of an empty slot that waits. -/
def EmptyAt (t : Tb) (h s : Nat) : Prop := t.G.c s = 128 ∧ s < 8 * t.n ∧ ∃ i, i < t.n ∧ pr t.n h i = s / 8 ∧ FirstDel t h i none
/-- What is known when the slot is chosen. -/
structure Chosen (w0 : World) (H : Heap) (b b16 : Nat) (t tc : Tb) (s : Nat) (w : World) (S : Heap) : Prop where
 mem : Mem w0 w S
 tb : S b = some (encT tc)
 grs : S t.gb = some (encG t.n tc.G)
 ref : S b16 = some (.cells #[.pointer (some ⟨t.gb, 17 * (s / 8), none⟩)] 104 (0, 0))
 new : H b16 = none
 rest : ∀ x u, H x = some u → x ≠ b → x ≠ t.gb → S x = some u
set_option maxHeartbeats 4000000 in
theorem c111 (hM : Mem w0 w H) (hD : HasDb w0) {K : KT} {E : Heap} {bty : Nat} {nu : Bool} (hE : E.le H) (Ty : TypOK K w0 E bty nu) {bm db i0 : Nat} {m : Mp} {d : Nat → Nat} {T : Nat → Tb} (hN : Near K H bm db m d T i0) (hE2 : ∀ x u, E x = some u → x ≠ d i0 ∧ x ≠ (T (d i0)).gb)
  {bk ok k : Nat} {obk : Obj} (hk : H bk = some obk) (hkc : objCell obk ok = some (u64 k)) (hkl : k < 2 ^ 64) (hkb : bk ≠ d i0) (hkg : bk ≠ (T (d i0)).gb) (hmu : m.used + 1 < 2 ^ 64) :
  Calls Tryz.prog 111 [.pointer (some ⟨d i0, 0, none⟩), .pointer (some ⟨bty, 0, none⟩), .pointer (some ⟨bm, 0, none⟩), u64 (K.hash k), .pointer (some ⟨bk, ok, none⟩)].toArray w (Gives w0 (PutS K nu H bm db m d T i0 k)) := by
 have hb := hN.tabs i0 hN.lt
 have hg := hN.grs
 have hT := hN.tok
 have hmp := hN.mp
 have hbmb : bm ≠ d i0 := ne_of_ty hmp hb rfl rfl rfl
 have hbmg : bm ≠ (T (d i0)).gb := ne_of_ty hmp hg rfl rfl rfl
 have hbg : d i0 ≠ (T (d i0)).gb := ne_of_ty hb hg rfl rfl rfl
 generalize ht : T (d i0) = t at *
 have hn := hT.npos
 have hh := K.lt k
 have hroom := hT.room
 obtain ⟨p, _, hp⟩ := hT.pow
 refine calls_start Tryz.func111 rfl Tryz.ntmps111 (Nat.le_of_ble_eq_true rfl) ?_
 refine rs hM ?_
 refine asg ?_
 refine asg ?_
 refine rw_nil ?_; intro w hM
 refine wp_mix_seq [8, 9] [9] [0, 1, 2, 3, 4, 5, 6, 7, 8, 9] H mixed (by kernel_rfl) (Heap.le_refl _) hM ?_
 refine mv ?_
 refine rw_callq cr118 rfl rfl (fun H' w hle hM => c118 hM _) rfl ?_
 refine mv ?_
 refine nck ?_
 refine fa fr158_5 ?_
 refine fa fr156_1 ?_
 refine lo ld22 hb ?_
 refine rw_callq cr117 rfl rfl (fun H' w hle hM => c117 hM _ _ (by omega) (by omega)) rfl ?_
 refine rw_allocD Tryz.zeroValue180 rfl rfl rfl (Heap.le_refl _) (fun b12 G12 n12 l12 e12 k12 => ?_)
 refine rw_store (v := .agg #[.int .u64 _, .int .u64 _, .int .u64 _]) sz180 rfl rfl rfl rfl e12 rfl rfl rfl (fun _ => ⟨rfl, rfl⟩) (fun S1 hS1 kS1 => ?_)
 refine rw_nil ?_; intro w hM
 have hle := le_keep l12 n12 kS1
 refine rs hM ?_
 refine rw_allocN Tryz.zeroValue104 rfl rfl (fun b13 G13 n13 l13 e13 k13 => ?_)
 refine rw_nil ?_; intro w hM
 refine rs hM ?_
 refine asg ?_
 refine rw_nil ?_; intro w hM
 refine rs hM ?_
 refine mv ?_
 refine rw_callq cr115 rfl rfl (fun H' w hle hM => c115 hM _ hh) rfl ?_
 refine asg ?_
 refine rw_nil ?_; intro w hM
 refine wp_block ?_
 have n13H : H b13 = none := le_none hle n13
 refine wp_loop_s (fun k' f w => ∃ i S o, k' = t.n - i ∧ Know f [(0, .pointer (some ⟨d i0, 0, none⟩)), (1, .pointer (some ⟨bty, 0, none⟩)), (2, .pointer (some ⟨bm, 0, none⟩)), (3, u64 (K.hash k)), (4, .pointer (some ⟨bk, ok, none⟩)), (12, .pointer (some ⟨b12, 0, none⟩)), (13, .pointer (some ⟨b13, 0, none⟩)), (14, u64 ((o.getD 0) % 8)), (15, u64 (K.hash k % 128))] ∧ Mem w0 w S ∧ H.le S ∧
  S b12 = some (.cells #[u64 (t.n - 1), u64 (pr t.n (K.hash k) i), u64 i] 180 (0, 0)) ∧ H b12 = none ∧ S b13 = some (.cells #[fdRef t.gb o] 104 (0, 0)) ∧ FirstDel t (K.hash k) i o ∧ ∀ j, j < i → noHit K t.G k (pr t.n (K.hash k) j) ∧ t.G.packed (pr t.n (K.hash k) j)) (t.n - 0) ?_ ?_
 ·refine ⟨0, G13, none, rfl, Know.of ⟨rfl, rfl, rfl, rfl, rfl, rfl, rfl, rfl, rfl, trivial⟩, hM, Heap.le_trans hle l13, ?_, n12, e13, fun j hj => by omega, fun j hj => by omega⟩
  rw [l13 _ _ hS1]
  have : pr t.n (K.hash k) 0 = K.hash k / 128 &&& (t.n - 1) := (pow_and hp).symm
  rw [this]; rfl
 clear hle hS1 kS1 hM
 rintro k' f w ⟨i, S, o, rfl, ⟨g0, rfl⟩, hM, hle, hS, n12, h13, hfd, hprev⟩
 have hi : i < t.n := by
  obtain ⟨j, hj, hnp⟩ := hT.stops (K.hash k)
  rcases Nat.lt_or_ge j i with h | h
  ·exact absurd (hprev j h).2 hnp
  ·omega
 have hb' := hle _ _ hb
 refine wp_seq ?_
 refine wp_block ?_
 refine wp_mix_seq [7, 8] [8] [0, 1, 2, 3, 4, 5, 6, 7, 8] _ mixed (by kernel_rfl) (Heap.le_refl _) hM ?_
 refine mv ?_
 refine nck ?_
 refine fa fr158_5 ?_
 refine mv ?_
 refine fa fr180_1 ?_
 refine lo ld22 hS ?_
 refine rw_callq cr93 rfl rfl (fun H' w hle' hM => c93 hM (hle' _ _ hb') rfl (pr_lt hn.1 (K.hash k) i)) rfl ?_
 refine rw_allocD Tryz.zeroValue104 rfl rfl rfl (Heap.le_refl _) (fun b16 G16 n16 l16 e16 k16 => ?_)
 refine rw_store (v := .agg #[.pointer _]) sz104 rfl rfl rfl rfl e16 rfl rfl rfl (fun _ => ⟨rfl, rfl⟩) (fun S6 hS6 kS6 => ?_)
 refine rw_nil ?_; intro w hM
 have hleS := le_keep l16 n16 kS6
 have hle' := Heap.le_trans hle hleS
 have hg' := hle' _ _ hg
 have hseq := hleS _ _ hS
 have h13' := hleS _ _ h13
 have hk' := hle' _ _ hk
 have n16H : H b16 = none := le_none hle n16
 have hgr := Gr.bytes hT.sl.ok (pr t.n (K.hash k) i)
 have hpi := pr_lt hn.1 (K.hash k) i
 have d16g : b16 ≠ t.gb := ne_of_ty hS6 hg' rfl rfl rfl
 have d13g : b13 ≠ t.gb := ne_of_ty h13' hg' rfl rfl rfl
 have hE' := Heap.le_trans hE hle'
 obtain ⟨m0, hm0, hmA, hmB, hcall⟩ := c114w (t.G.at (pr t.n (K.hash k) i)) hgr (K.hash k % 128) (by omega)
 refine rs hM ?_
 refine rw_callq cr90 rfl rfl (fun H' w hle hM => c90 hM (hle _ _ hS6) rfl) rfl ?_
 refine nck ?_
 refine rw_load ld145 rfl rfl rfl hg' (encG_ctrl hpi) ?_
 refine mv ?_
 refine rw_callq cr114 rfl rfl (fun H' w hle hM => hcall hM) rfl ?_
 refine asg ?_
 refine rw_nil ?_; intro w hM
 refine wp_seq ?_
 refine wp_block ?_
 refine wp_loop_s (Matching K (t.G.at (pr t.n (K.hash k) i)) (fun q => t.G.k (8 * pr t.n (K.hash k) i + q)) w0 S6 k (fun m => [(0, .pointer (some ⟨d i0, 0, none⟩)), (1, .pointer (some ⟨bty, 0, none⟩)), (2, .pointer (some ⟨bm, 0, none⟩)), (3, u64 (K.hash k)), (4, .pointer (some ⟨bk, ok, none⟩)), (12, .pointer (some ⟨b12, 0, none⟩)), (13, .pointer (some ⟨b13, 0, none⟩)), (14, u64 ((o.getD 0) % 8)), (15, u64 (K.hash k % 128)), (16, .pointer (some ⟨b16, 0, none⟩)), (17, u64 (bsw m))])) m0 ?_ ?_
 ·refine ⟨hm0, Know.of ⟨rfl, rfl, rfl, rfl, rfl, rfl, rfl, rfl, rfl, rfl, rfl, trivial⟩, hM, fun q hq hf => ?_, fun q hq h => hmB q hq h⟩
  by_cases he : K.eqk k (t.G.k (8 * pr t.n (K.hash k) i + q)) = true
  ·refine .inl (hmA q hq ?_)
   have := hT.sl.h2 (8 * pr t.n (K.hash k) i + q) (by omega) hf
   rw [← K.hash_eq _ _ he] at this; exact this
  ·exact .inr (by simpa using he)
 clear hcall hmA hmB hm0
 rintro mm f w ⟨hmb, ⟨g1, rfl⟩, hM, hA, hB⟩
 refine wp_seq ?_
 refine rs hM ?_
 refine mv ?_
 refine rw_bin rfl rfl rfl rfl (b_ne _ _) ?_
 refine rw_nil ?_; intro w hM
 refine wp_if (tmp_lt rfl) rfl (fun hc => ?_) (fun hc => ?_)
 ·have h0 : mm ≠ 0 := fun e => by subst e; simp [bsw, word, wl] at hc
  refine wp_skip ?_
  refine wp_block ?_
  have hlow := low_lt mm
  have hin := low_in mm hmb h0
  have hkey : objCell (encG t.n t.G) (17 * pr t.n (K.hash k) i + 1 + low mm) = some (u64 (t.G.k (8 * pr t.n (K.hash k) i + low mm))) := encG_key hpi hlow
  refine rs hM ?_
  refine mv ?_
  refine rw_callq cr103 rfl rfl (fun H' w hle hM => c103 hM hD hmb h0) rfl ?_
  refine asg ?_
  refine rw_nil ?_; intro w hM
  refine rs hM ?_
  refine mv ?_
  refine mv ?_
  refine rw_callq cr96 rfl rfl (fun H' w hle hM => c96 hM (hle _ _ hS6) rfl hlow) rfl ?_
  refine asg ?_
  refine rw_nil ?_; intro w hM
  refine wp_seq ?_
  refine rs hM ?_
  refine mv ?_
  refine nck ?_
  refine fa fr88_1 ?_
  refine lo ld86 (hE' _ _ Ty.typ) ?_
  refine mv ?_
  refine mv ?_
  refine rw_callvq (captured := []) Ty.cre rfl rfl rfl (fun H' w hle2 hM => Ty.equal hM (Heap.le_trans hE' hle2) (hle2 _ _ hk') hkc hkl (hle2 _ _ hg') hkey (hT.sl.ok.2.1 _)) rfl ?_
  refine rw_nil ?_; intro w hM
  refine wp_if (tmp_lt rfl) rfl (fun he => ?_) (fun he => ?_)
  ·have hf := find_some hT.sl (show 8 * pr t.n (K.hash k) i + low mm < 8 * t.n by omega) (hB _ hlow hin) he
   have e8 : (8 * pr t.n (K.hash k) i + low mm) / 8 = pr t.n (K.hash k) i := by omega
   have m8 : (8 * pr t.n (K.hash k) i + low mm) % 8 = low mm := by omega
   refine wp_seq ?_
   refine rs hM ?_
   refine mv ?_
   refine nck ?_
   refine fa fr88_2 ?_
   refine lo ld4 (hE' _ _ Ty.typ) ?_
   refine rw_nil ?_; intro w hM
   refine wp_if (tmp_lt rfl) rfl (fun hu => ?_) (fun hu => ?_)
   ·refine re hM ?_
    refine mv ?_
    refine mv ?_
    refine nck ?_
    refine rw_load ld84 rfl rfl rfl hk' hkc ?_
    refine nck ?_
    refine rw_storeE (v := .int .u64 _) (c' := arrG t.n (t.G.setK (8 * pr t.n (K.hash k) i + low mm) k)) sz84 rfl rfl rfl rfl hg' (arrG_setK hpi hlow) (by rw [arrG_size]; omega) rfl (by nofun) (fun S13 hS13 kS13 => ?_)
    refine rw_nil ?_; intro w hM
    simp only [Exit.then]
    refine rs hM ?_
    refine mv ?_
    refine mv ?_
    refine rw_callq cr98 rfl rfl (fun H' w hle hM => c98 hM (hle _ _ ((kS13 _ d16g).trans hS6)) rfl hlow) rfl ?_
    refine asg ?_
    refine rw_nil ?_; intro w hM
    refine rs hM ?_
    refine mv ?_
    refine asg ?_
    refine asg ?_
    refine rw_nil ?_; intro w hM
    refine wp_ret ?_
    simp only [Exit.then, Exit.inBlock]
    refine post_tmp2 (v := .pointer _) (v' := .bool _) rfl rfl rfl rfl rfl ⟨_, S13, rfl, hM, ?_⟩
    simp only [PutS, ht, hf, e8, m8, hu]
    exact ⟨trivial, hS13, fun x u hx h1 => (kS13 _ h1).trans (hle' _ _ hx)⟩
   ·refine wp_skip ?_
    refine rs hM ?_
    refine mv ?_
    refine mv ?_
    refine rw_callq cr98 rfl rfl (fun H' w hle hM => c98 hM (hle _ _ hS6) rfl hlow) rfl ?_
    refine asg ?_
    refine rw_nil ?_; intro w hM
    refine rs hM ?_
    refine mv ?_
    refine asg ?_
    refine asg ?_
    refine rw_nil ?_; intro w hM
    refine wp_ret ?_
    simp only [Exit.then, Exit.inBlock]
    refine post_tmp2 (v := .pointer _) (v' := .bool _) rfl rfl rfl rfl rfl ⟨_, S6, rfl, hM, ?_⟩
    simp only [PutS, ht, hf, e8, m8, hu]
    exact ⟨trivial, hg', fun x u hx h1 => hle' _ _ hx⟩
  ·refine wp_skip ?_
   refine re hM ?_
   refine mv ?_
   refine rw_callq cr104 rfl rfl (fun H' w hle hM => c104 hM hmb h0) rfl ?_
   refine asg ?_
   refine rw_nil ?_; intro w hM
   refine ⟨tl8 mm, _, rfl, tl8_less mm hmb h0, tl8_lt mm hmb, Know.of ⟨rfl, rfl, rfl, rfl, rfl, rfl, rfl, rfl, rfl, rfl, rfl, trivial⟩, hM, fun q hq hf => ?_, fun q hq h => ?_⟩
   ·rcases hA q hq hf with h | h
    ·by_cases e : q = low mm
     ·subst e; exact .inr he
     ·refine .inl ?_
      rw [tl8_bit mm hmb q hq, h, nat_beq_f.2 e]; rfl
    ·exact .inr h
   ·rw [tl8_bit mm hmb q hq] at h
    simp only [Bool.and_eq_true] at h
    exact hB q hq h.1
 ·have h0 : mm = 0 := by
   have : (bsw mm : Int) = 0 := by simpa using hc
   exact (bsw_zero mm hmb).1 (by omega)
  subst h0
  have hno : noHit K t.G k (pr t.n (K.hash k) i) := fun q hq hf => by
   rcases hA q hq hf with h | h
   ·simp at h
   ·exact h
  clear hA hB
  refine wp_exit ?_
  simp only [Exit.then, Exit.inBlock, if_true]
  obtain ⟨hnx, hnx1⟩ := probe_next hT (K.hash k) i hi
  have hprev' : t.G.packed (pr t.n (K.hash k) i) → ∀ j, j < i + 1 → noHit K t.G k (pr t.n (K.hash k) j) ∧ t.G.packed (pr t.n (K.hash k) j) := fun hpk j hj => by
   rcases Nat.lt_or_ge j i with h | h
   ·exact hprev j h
   ·rw [show j = i by omega]; exact ⟨hno, hpk⟩
  refine rs hM ?_
  refine rw_callq cr90 rfl rfl (fun H' w hle hM => c90 hM (hle _ _ hS6) rfl) rfl ?_
  refine nck ?_
  refine rw_load ld145 rfl rfl rfl hg' (encG_ctrl hpi) ?_
  refine rw_callq cr126 rfl rfl (fun H' w hle hM => c126 hM _ hgr) rfl ?_
  refine asg ?_
  refine rw_nil ?_; intro w hM
  refine wp_seq ?_
  refine rs hM ?_
  refine mv ?_
  refine rw_bin rfl rfl rfl rfl (b_eq _ _) ?_
  refine rw_nil ?_; intro w hM
  refine wp_if (tmp_lt rfl) rfl (fun hz => ?_) (fun hz => ?_)
  ·-- full
   have hfull := free_mask0 (G := t.G) (g := pr t.n (K.hash k) i) (by rw [show ((bsw (mk8 fun q => decide (128 ≤ t.G.at (pr t.n (K.hash k) i) q)) : Int) != 0) = !((bsw (mk8 fun q => decide (128 ≤ t.G.at (pr t.n (K.hash k) i) q)) : Int) == 0) from rfl, hz]; rfl)
   refine wp_exit ?_
   simp only [Exit.then, Exit.inBlock, if_true]
   refine re hM ?_
   refine rw_loadA [.int .u64 _, .int .u64 _, .int .u64 _] ld180 rfl rfl rfl hseq rfl ?_
   refine rw_callq cr119 rfl rfl (fun H' w hle hM => c119 hM _ _ _ (by omega)) rfl ?_
   refine rw_store (v := .agg #[.int .u64 _, .int .u64 _, .int .u64 _]) sz180 rfl rfl rfl rfl hseq rfl rfl rfl (by nofun) (fun S5 hS5 kS5 => ?_)
   refine rw_nil ?_; intro w hM
   have d13 : b13 ≠ b12 := ne_of_ty h13' hseq rfl rfl rfl
   refine ⟨t.n - (i + 1), _, rfl, by omega, i + 1, S5, o, rfl, Know.of ⟨rfl, rfl, rfl, rfl, rfl, rfl, rfl, rfl, rfl, trivial⟩, hM, le_keep hle' n12 kS5, ?_, n12, ?_, ?_, hprev' (fun q hq => by have := hfull q hq; omega)⟩
   ·rw [hS5, ← hnx, hnx1]; rfl
   ·rw [kS5 _ d13]; exact h13'
   ·cases o with
    | none =>
     intro j hj q hq
     rcases Nat.lt_or_ge j i with h | h
     ·exact hfd j h q hq
     ·rw [show j = i by omega]; exact hfull q hq
    | some s => exact hfd
  ·have h0 : mk8 (fun q => decide (128 ≤ t.G.at (pr t.n (K.hash k) i) q)) ≠ 0 := fun e => by rw [e] at hz; simp [bsw, word, wl] at hz
   have hfl := free_low hT.sl hpi h0
   have hlow := low_lt (mk8 fun q => decide (128 ≤ t.G.at (pr t.n (K.hash k) i) q))
   generalize hq : low (mk8 fun q => decide (128 ≤ t.G.at (pr t.n (K.hash k) i) q)) = q at hfl hlow
   have e8 : (8 * pr t.n (K.hash k) i + q) / 8 = pr t.n (K.hash k) i := by omega
   have m8 : (8 * pr t.n (K.hash k) i + q) % 8 = q := by omega
   refine wp_skip ?_
   refine rs hM ?_
   refine mv ?_
   refine rw_callq cr103 rfl rfl (fun H' w hle hM => hq ▸ c103 hM hD (mk8_lt _) h0) rfl ?_
   refine asg ?_
   refine rw_nil ?_; intro w hM
   refine wp_seq ?_
   refine rs hM ?_
   refine rw_callq cr90 rfl rfl (fun H' w hle hM => c90 hM (hle _ _ hS6) rfl) rfl ?_
   refine mv ?_
   refine rw_callq cr95 rfl rfl (fun H' w hle hM => c95 hM hgr (hle _ _ hg') (encG_ctrl hpi) hlow) rfl ?_
   refine rw_bin rfl rfl rfl rfl (b_eq _ _) ?_
   refine rw_nil ?_; intro w hM
   refine wp_if (tmp_lt rfl) rfl (fun hy => ?_) (fun hy => ?_)
   ·-- a tombstone
    have h254 : t.G.c (8 * pr t.n (K.hash k) i + q) = 254 := by
     have : ((t.G.c (8 * pr t.n (K.hash k) i + q) : Nat) : Int) = 254 := beq_iff_eq.1 hy
     omega
    have hpk : t.G.packed (pr t.n (K.hash k) i) := fun r hr he => hT.sl.mix _ r q hpi hr hlow he h254
    have hput : FirstDel t (K.hash k) i none → PutAt t.n t.G (K.hash k) (8 * pr t.n (K.hash k) i + q) := fun hf => ⟨by omega, .inr h254, i, hi, by omega, fun j hj r hr => by have := hf j hj r hr; omega⟩
    refine wp_seq ?_
    refine rs hM ?_
    refine fa fr104_0 ?_
    refine lo (v := fdRef t.gb o) ld102 h13' ?_
    refine rw_bin (v := .bool o.isNone) rfl rfl rfl rfl (by cases o <;> exact b_nil_eq _ Tryz.underlying102) ?_
    refine rw_nil ?_; intro w hM
    refine wp_if (tmp_lt rfl) rfl (fun hx => ?_) (fun hx => ?_)
    ·have ho : o = none := by simpa using hx
     subst ho
     refine rs hM ?_
     refine rw_loadA [.pointer _] ld104 rfl rfl rfl hS6 rfl ?_
     refine rw_store (v := .agg #[.pointer _]) sz104 rfl rfl rfl rfl h13' rfl rfl rfl (by nofun) (fun S22 hS22 kS22 => ?_)
     refine rw_nil ?_; intro w hM
     refine re hM ?_
     refine mv ?_
     refine asg ?_
     refine rw_nil ?_; intro w hM
     simp only [Exit.then]
     refine wp_exit ?_
     simp only [Exit.then, Exit.inBlock, if_true]
     have hseq22 := (kS22 _ (ne_of_ty hseq h13' rfl rfl rfl)).trans hseq
     refine re hM ?_
     refine rw_loadA [.int .u64 _, .int .u64 _, .int .u64 _] ld180 rfl rfl rfl hseq22 rfl ?_
     refine rw_callq cr119 rfl rfl (fun H' w hle hM => c119 hM _ _ _ (by omega)) rfl ?_
     refine rw_store (v := .agg #[.int .u64 _, .int .u64 _, .int .u64 _]) sz180 rfl rfl rfl rfl hseq22 rfl rfl rfl (by nofun) (fun S5 hS5 kS5 => ?_)
     refine rw_nil ?_; intro w hM
     have d13 : b13 ≠ b12 := ne_of_ty h13' hseq rfl rfl rfl
     refine ⟨t.n - (i + 1), _, rfl, by omega, i + 1, S5, some (8 * pr t.n (K.hash k) i + q), rfl, Know.of ⟨rfl, rfl, rfl, rfl, rfl, rfl, rfl, congrArg u64 m8.symm, rfl, trivial⟩, hM, le_keep (le_keep hle' n13H kS22) n12 kS5, ?_, n12, ?_, ⟨h254, hput hfd⟩, hprev' hpk⟩
     ·rw [hS5, ← hnx, hnx1]; rfl
     ·rw [kS5 _ d13, hS22]; simp only [fdRef, e8]; rfl
    ·cases o with
     | none => simp at hx
     | some s =>
      refine wp_skip ?_
      refine wp_exit ?_
      simp only [Exit.then, Exit.inBlock, if_true]
      refine re hM ?_
      refine rw_loadA [.int .u64 _, .int .u64 _, .int .u64 _] ld180 rfl rfl rfl hseq rfl ?_
      refine rw_callq cr119 rfl rfl (fun H' w hle hM => c119 hM _ _ _ (by omega)) rfl ?_
      refine rw_store (v := .agg #[.int .u64 _, .int .u64 _, .int .u64 _]) sz180 rfl rfl rfl rfl hseq rfl rfl rfl (by nofun) (fun S5 hS5 kS5 => ?_)
      refine rw_nil ?_; intro w hM
      have d13 : b13 ≠ b12 := ne_of_ty h13' hseq rfl rfl rfl
      refine ⟨t.n - (i + 1), _, rfl, by omega, i + 1, S5, some s, rfl, Know.of ⟨rfl, rfl, rfl, rfl, rfl, rfl, rfl, rfl, rfl, trivial⟩, hM, le_keep hle' n12 kS5, ?_, n12, ?_, hfd, hprev' hpk⟩
      ·rw [hS5, ← hnx, hnx1]; rfl
      ·rw [kS5 _ d13]; exact h13'
   ·-- an empty slot
    have hy2 : (((t.G.c (8 * pr t.n (K.hash k) i + q) : Nat) : Int) == 254) = false := hy
    have h128 : t.G.c (8 * pr t.n (K.hash k) i + q) = 128 := hfl.resolve_right fun e => by
     rw [show (((t.G.c (8 * pr t.n (K.hash k) i + q) : Nat) : Int) == 254) = true from beq_iff_eq.2 (by omega)] at hy2; cases hy2
    have hfn : find K t.n t.G k = none := probe_stop hT.sl (i := i) (fun j hj => by
     rcases Nat.lt_or_ge j i with h | h
     ·exact (hprev j h).1
     ·rw [show j = i by omega]; exact hno) (fun hpk => hpk q hlow h128)
    refine wp_skip ?_
    refine wp_seq_mid (fun f w => ∃ S s tc, Know f [(0, .pointer (some ⟨d i0, 0, none⟩)), (1, .pointer (some ⟨bty, 0, none⟩)), (2, .pointer (some ⟨bm, 0, none⟩)), (4, .pointer (some ⟨bk, ok, none⟩)), (15, u64 (K.hash k % 128)), (16, .pointer (some ⟨b16, 0, none⟩)), (21, u64 (s % 8))] ∧ Chosen w0 H (d i0) b16 t tc s w S ∧ ((0 < tc.gl ∧ Ready K t tc k s) ∨ (tc = t ∧ EmptyAt t (K.hash k) s))) ?_ ?_
    ·refine rs hM ?_
     refine fa fr104_0 ?_
     refine lo (v := fdRef t.gb o) ld102 h13' ?_
     refine rw_bin (v := .bool (!o.isNone)) rfl rfl rfl rfl (by cases o <;> exact b_nil_ne _ Tryz.underlying102) ?_
     refine rw_nil ?_; intro w hM
     refine wp_if (tmp_lt rfl) rfl (fun hx => ?_) (fun hx => ?_)
     ·cases o with
      | none => simp at hx
      | some s =>
       have d16 : d i0 ≠ b16 := (ne_of_none n16H hb)
       refine rs hM ?_
       refine rw_loadA [.pointer _] ld104 rfl rfl rfl h13' rfl ?_
       refine rw_store (v := .agg #[.pointer _]) sz104 rfl rfl rfl rfl hS6 rfl rfl rfl (by nofun) (fun S25 hS25 kS25 => ?_)
       refine rw_nil ?_; intro w hM
       refine rs hM ?_
       refine mv ?_
       refine asg ?_
       refine rw_nil ?_; intro w hM
       have hb25 := (kS25 _ d16).trans (hle' _ _ hb)
       refine re hM ?_
       refine mv ?_
       refine nck ?_
       refine fa fr158_2 ?_
       refine lo ld152 hb25 ?_
       refine rw_bin rfl rfl rfl rfl (b_add16 _ 1 (by omega)) ?_
       refine nck ?_
       refine fa fr158_2 ?_
       refine rw_store1 (v := .int .u16 _) sz152 rfl rfl rfl rfl hb25 rfl rfl (by nofun) (fun S27 hS27 kS27 => ?_)
       refine rw_nil ?_; intro w hM
       have hR := Ready.del hT hkl hfd.1 hfd.2 hfn
       refine ⟨_, rfl, S27, s, { t with gl := t.gl + 1 }, Know.of ⟨rfl, rfl, rfl, rfl, rfl, rfl, rfl, trivial⟩, ⟨hM, hS27, ?_, ?_, n16H, fun x u hx h1 h2 => ?_⟩, .inl ⟨Nat.succ_pos _, hR⟩⟩
       ·rw [kS27 _ hbg.symm, kS25 _ d16g.symm]; exact hg'
       ·rw [kS27 _ d16.symm, hS25]; rfl
       ·rw [kS27 _ h1, kS25 _ (ne_of_none n16H hx)]; exact hle' _ _ hx
     ·have ho : o = none := by cases o with
       | none => rfl
       | some s => simp at hx
      subst ho
      refine wp_skip ?_
      exact ⟨_, rfl, S6, 8 * pr t.n (K.hash k) i + q, t, Know.of ⟨rfl, rfl, rfl, rfl, rfl, rfl, congrArg u64 m8.symm, trivial⟩, ⟨hM, hle' _ _ hb, hg', by rw [hS6, e8]; rfl, n16H, fun x u hx _ _ => hle' _ _ hx⟩, .inr ⟨rfl, h128, by omega, i, hi, e8.symm, hfd⟩⟩
    ·clear hM hS hS6 h13 h13' hg' hseq hk' hgr hb' hle hle' hleS kS6 k16 l16 e16
     rintro f w ⟨S, s, tc, ⟨g2, rfl⟩, hC, hR⟩
     have hM := hC.mem
     have hbC := hC.tb
     have hEC := fun x u (hx : E x = some u) => hC.rest x u (hE _ _ hx) (hE2 x u hx).1 (hE2 x u hx).2
     refine wp_seq_mid (fun f w => ∃ S s tc, Know f [(0, .pointer (some ⟨d i0, 0, none⟩)), (1, .pointer (some ⟨bty, 0, none⟩)), (2, .pointer (some ⟨bm, 0, none⟩)), (4, .pointer (some ⟨bk, ok, none⟩)), (15, u64 (K.hash k % 128)), (16, .pointer (some ⟨b16, 0, none⟩)), (21, u64 (s % 8))] ∧ Chosen w0 H (d i0) b16 t tc s w S ∧ Ready K t tc k s) ?_ ?_
     ·refine rs hM ?_
      refine mv ?_
      refine nck ?_
      refine fa fr158_2 ?_
      refine lo ld152 hbC ?_
      refine rw_bin rfl rfl rfl rfl (b_eq _ _) ?_
      refine rw_nil ?_; intro w hM
      refine wp_if (tmp_lt rfl) rfl (fun hx => ?_) (fun hx => ?_)
      ·have hgl0 : tc.gl = 0 := by have : ((tc.gl : Nat) : Int) = 0 := beq_iff_eq.1 hx; omega
       rcases hR with ⟨h1, _⟩ | ⟨rfl, hEm⟩
       ·omega
       ·obtain ⟨c1, c2, i1, c3, c4, c5⟩ := hEm
        refine re hM ?_
        refine mv ?_
        refine mv ?_
        refine mv ?_
        refine rw_callE cr128 rfl rfl (fun w hM => c128g hM hD hEC Ty hbC hC.grs (hC.rest _ _ hmp hbmb hbmg) hT) rfl (by nofun) ?_; rintro _ S' ⟨P, rfl, hP, hb', hg', hrest⟩
        refine rw_nil ?_; intro w hM
        have d1 : b16 ≠ d i0 := ne_of_ty hC.ref hbC rfl rfl rfl
        refine ⟨_, rfl, S', s, _, Know.of ⟨rfl, rfl, rfl, rfl, rfl, rfl, rfl, trivial⟩, ⟨hM, hb', hg', ?_, n16H, fun x u hx h1 h2 => ?_⟩, Ready.empty hT hkl c1 c2 c3 c4 c5 hfn hP⟩
        ·rw [hrest _ d1 d16g]; exact hC.ref
        ·rw [hrest _ h1 h2]; exact hC.rest x u hx h1 h2
      ·have hgl0 : 0 < tc.gl := by
        rcases Nat.eq_zero_or_pos tc.gl with h | h
        ·rw [h] at hx; simp at hx
        ·exact h
       refine wp_skip ?_
       refine ⟨_, rfl, S, s, tc, Know.of ⟨rfl, rfl, rfl, rfl, rfl, rfl, rfl, trivial⟩, ⟨hM, hC.tb, hC.grs, hC.ref, hC.new, hC.rest⟩, ?_⟩
       rcases hR with ⟨_, h2⟩ | ⟨rfl, c1, c2, i1, c3, c4, c5⟩
       ·exact h2
       ·have := Ready.empty hT hkl c1 c2 c3 c4 c5 hfn (P := fun _ => false) ⟨fun s h => by simp at h, fun _ _ _ _ _ h => by simp at h, fun _ _ _ _ _ _ _ _ _ _ _ => rfl⟩
        rw [cnt_zero (fun _ _ => rfl), Gr.unpoint_none] at this
        exact this
     ·clear hM hbC hC hR hEC
      clear S s tc
      rintro f w ⟨S, s, tc, ⟨g3, rfl⟩, hC, hR⟩
      have hM := hC.mem
      have hbC := hC.tb
      have hgC := hC.grs
      have hkC := hC.rest _ _ hk hkb hkg
      have hq8 : s % 8 < 8 := by omega
      have hs8 : s / 8 < t.n := by have := hR.lt; omega
      have es : 8 * (s / 8) + s % 8 = s := by omega
      have d1 : b16 ≠ d i0 := ne_of_ty hC.ref hbC rfl rfl rfl
      have d3 : b16 ≠ bm := (ne_of_none n16H hmp).symm
      refine wp_seq ?_
      refine rs hM ?_
      refine mv ?_
      refine nck ?_
      refine fa fr158_2 ?_
      refine lo ld152 hbC ?_
      refine rw_bin rfl rfl rfl rfl (b_gt _ _) ?_
      refine rw_nil ?_; intro w hM
      refine wp_if (tmp_lt rfl) rfl (fun hx => ?_) (fun hx => ?_)
      ·have hgl : 0 < tc.gl := by have : ((tc.gl : Nat) : Int) > 0 := of_decide_eq_true hx; omega
       have hgl2 := hR.le
       refine rs hM ?_
       refine mv ?_
       refine mv ?_
       refine rw_callq cr96 rfl rfl (fun H' w hle hM => c96 hM (hle _ _ hC.ref) rfl hq8) rfl ?_
       refine asg ?_
       refine rw_nil ?_; intro w hM
       refine rs hM ?_
       refine mv ?_
       refine mv ?_
       refine nck ?_
       refine rw_load ld84 rfl rfl rfl hkC hkc ?_
       refine nck ?_
       refine rw_storeE (v := .int .u64 _) (c' := arrG t.n (tc.G.setK (8 * (s / 8) + s % 8) k)) sz84 rfl rfl rfl rfl hgC (arrG_setK hs8 hq8) (by rw [arrG_size]; omega) rfl (by nofun) (fun S32 hS32 kS32 => ?_)
       refine rw_nil ?_; intro w hM
       have h32 := (kS32 _ d16g).trans hC.ref
       refine rs hM ?_
       refine mv ?_
       refine mv ?_
       refine rw_callq cr98 rfl rfl (fun H' w hle hM => c98 hM (hle _ _ h32) rfl hq8) rfl ?_
       refine asg ?_
       refine rw_nil ?_; intro w hM
       refine rs hM ?_
       refine rw_callq cr90 rfl rfl (fun H' w hle hM => c90 hM (hle _ _ h32) rfl) rfl ?_
       refine mv ?_
       refine mv ?_
       refine rw_conv rfl rfl rfl (c_u8 Tryz.underlying12 Tryz.underlying160 _) ?_
       refine rw_callS cr116 rfl rfl (fun w hM => c116 hM (Gr.ok_setK hR.ok hkl) hS32 hs8 hq8 (by omega)) rfl (by nofun) (fun S34 hS34 kS34 => ?_)
       refine rw_nil ?_; intro w hM
       have hb34 := (kS34 _ hbg).trans ((kS32 _ hbg).trans hbC)
       have hroom2 := hR.used
       refine rs hM ?_
       refine mv ?_
       refine nck ?_
       refine fa fr158_2 ?_
       refine lo ld152 hb34 ?_
       refine rw_bin rfl rfl rfl rfl (b_sub16 _ 1 (by omega) (by omega)) ?_
       refine nck ?_
       refine fa fr158_2 ?_
       refine rw_store1 (v := .int .u16 _) sz152 rfl rfl rfl rfl hb34 rfl rfl (by nofun) (fun S35 hS35 kS35 => ?_)
       refine rw_nil ?_; intro w hM
       refine rs hM ?_
       refine mv ?_
       refine nck ?_
       refine fa fr158_0 ?_
       refine lo ld152 hS35 ?_
       refine rw_bin rfl rfl rfl rfl (b_add16 tc.used 1 (by omega)) ?_
       refine nck ?_
       refine fa fr158_0 ?_
       refine rw_store1 (v := .int .u16 _) sz152 rfl rfl rfl rfl hS35 rfl rfl (by nofun) (fun S36 hS36 kS36 => ?_)
       refine rw_nil ?_; intro w hM
       have hm36 := (kS36 _ hbmb).trans ((kS35 _ hbmb).trans ((kS34 _ hbmg).trans ((kS32 _ hbmg).trans (hC.rest _ _ hmp hbmb hbmg))))
       refine rs hM ?_
       refine mv ?_
       refine nck ?_
       refine fa fr132_0 ?_
       refine lo ld22 hm36 ?_
       refine rw_bin (v := u64 (m.used + 1)) rfl rfl rfl rfl (bin_eq (b_add64 _ 1) (congrArg u64 (Nat.mod_eq_of_lt hmu))) ?_
       refine nck ?_
       refine fa fr132_0 ?_
       refine rw_store1 (v := .int .u64 _) sz22 rfl rfl rfl rfl hm36 rfl rfl (by nofun) (fun S37 hS37 kS37 => ?_)
       refine rw_nil ?_; intro w hM
       refine rs hM ?_
       refine mv ?_
       refine asg ?_
       refine asg ?_
       refine rw_nil ?_; intro w hM
       refine wp_ret ?_
       simp only [Exit.then, Exit.inBlock]
       refine post_tmp2 (v := .pointer _) (v' := .bool _) rfl rfl rfl rfl rfl ⟨_, S37, rfl, hM, ?_⟩
       simp only [PutS, ht, hfn]
       refine .inl ⟨s, _, rfl, hR.one hgl, ?_, ?_, ?_, fun x u hx h1 h2 h3 => ?_⟩
       ·rw [kS37 _ hbmb.symm, hS36]; rfl
       ·rw [kS37 _ hbmg.symm, kS36 _ hbg.symm, kS35 _ hbg.symm, hS34]
        refine congrArg some ?_
        show encG t.n _ = encG tc.n (tc.G.put s k (tc.G.e s) (K.hash k % 128))
        rw [hR.n, es, show K.hash k % 128 % 256 = K.hash k % 128 by omega, Gr.put, Gr.setK_setE]
       ·rw [hS37]; rfl
       ·rw [kS37 _ h3, kS36 _ h2, kS35 _ h2, kS34 _ h1, kS32 _ h1]; exact hC.rest x u hx h2 h1
      ·have hgl : tc.gl = 0 := by have : ¬ ((tc.gl : Nat) : Int) > 0 := of_decide_eq_false hx; omega
       have htc := hR.zero hgl
       subst htc
       refine wp_skip ?_
       have hle : H.le S := fun x u hx => by
        by_cases h1 : x = d i0
        ·subst h1; rw [hb] at hx; cases hx; exact hbC
        ·by_cases h2 : x = tc.gb
         ·subst h2; rw [hg] at hx; cases hx; exact hgC
         ·exact hC.rest x u hx h1 h2
       refine rs hM ?_
       refine mv ?_
       refine mv ?_
       refine mv ?_
       refine rw_callE cr129 rfl rfl (fun w hM => c129 (T := T) hM hD (Heap.le_trans hE hle) Ty (db := db) ⟨hle _ _ hmp, hN.len, hN.gs, hN.gd, hN.dirp, hle _ _ hN.dir, hN.dok, fun i hi => hle _ _ (hN.tabs i hi), hN.lt, by rw [ht]; exact hgC, by rw [ht]; exact hT⟩) rfl (by nofun) ?_; rintro v S39 ⟨rfl, hv⟩
       refine rw_nil ?_; intro w hM
       refine rs hM ?_
       refine asg ?_
       refine asg ?_
       refine rw_nil ?_; intro w hM
       refine wp_ret ?_
       simp only [Exit.then, Exit.inBlock]
       refine post_tmp2 (v := .pointer none) (v' := .bool false) rfl rfl rfl rfl rfl ⟨_, S39, rfl, hM, ?_⟩
       simp only [PutS, ht, hfn]
       exact .inr ⟨trivial, hgl, hv.le hle⟩
end
section
variable {w0 w : World} {H : Heap}
theorem c107 (hM : Mem w0 w H) {x : Option Addr} {bm : Nat} {m : Mp} (hb : H bm = some (encM m)) : Calls Tryz.prog 107 [.pointer (some ⟨bm, 0, none⟩), .pointer x].toArray w (Gives w0 fun v S => ∃ sg, v = .tuple #[] ∧ H sg = none ∧ S bm = some (encM { m with small := some ⟨sg, 0, none⟩ }) ∧ S sg = some (encG 1 emptyGr) ∧ ∀ x u, H x = some u → x ≠ bm → S x = some u) := by
 refine calls_start Tryz.func107 rfl Tryz.ntmps107 (Nat.le_of_ble_eq_true rfl) ?_
 refine rs hM ?_
 refine mv ?_
 refine rw_callE cr125 rfl rfl (fun w hM => c125 (n := 1) hM (by decide) (by decide)) rfl (by nofun) ?_; rintro _ S0 ⟨gb, rfl, hle, nsg, hsg⟩
 refine rw_allocN Tryz.zeroValue156 rfl rfl (fun b4 G4 n4 l4 e4 k4 => ?_)
 refine rw_store (v := .agg #[.slice _ _ _, .int .u64 _]) sz156 rfl rfl rfl rfl e4 rfl rfl rfl (by nofun) (fun S1 hS1 kS1 => ?_)
 refine rw_nil ?_; intro w hM
 have hle1 : H.le S1 := Heap.le_trans hle (le_keep l4 n4 kS1)
 have hb1 := hle1 _ _ hb
 have hg4 : gb ≠ b4 := fun e => by rw [e, n4] at hsg; cases hsg
 have hsg1 : S1 gb = some (encG 1 zeroGr) := (kS1 _ hg4).trans (l4 _ _ hsg)
 refine rs hM ?_
 refine mv ?_
 refine fa fr156_0 ?_
 refine lo ld154 hS1 ?_
 refine rw_indexAddr rfl rfl rfl rfl (x_slice (i := 0) Tryz.underlying154 sz149 (by decide)) ?_
 refine nck ?_
 refine fa fr132_2 ?_
 refine rw_store1 (v := .pointer (some ⟨gb, 0, none⟩)) sz102 rfl rfl rfl rfl hb1 rfl rfl (by nofun) (fun S2 hS2 kS2 => ?_)
 refine rw_nil ?_; intro w hM
 have hbg : gb ≠ bm := fun e => by rw [e, hb] at nsg; cases nsg
 have hsg2 := (kS2 _ hbg).trans hsg1
 refine rs hM ?_
 refine mv ?_
 refine nck ?_
 refine fa fr132_2 ?_
 refine lo ld102 hS2 ?_
 refine rw_build (bd104_0 _) rfl rfl rfl ?_
 refine rw_allocN Tryz.zeroValue104 rfl rfl (fun b5 G5 n5 l5 e5 k5 => ?_)
 refine rw_store (v := .agg #[.pointer _]) sz104 rfl rfl rfl rfl e5 rfl rfl rfl (by nofun) (fun S3 hS3 kS3 => ?_)
 refine rw_nil ?_; intro w hM
 have hle3 := le_keep l5 n5 kS3
 refine re hM ?_
 refine rw_callq cr90 rfl rfl (fun H' w hle hM => c90 hM (hle _ _ hS3) rfl) rfl ?_
 refine rw_callS cr91 rfl rfl (fun w hM => c91 hM (hle3 _ _ hsg2) (by rw [arrG_size]; decide)) rfl (by nofun) (fun S4 hS4 kS4 => ?_)
 refine rw_nil ?_; intro w hM
 refine post_none rfl ⟨_, S4, rfl, hM, gb, rfl, nsg, ?_, ?_, fun y u hy h1 => ?_⟩
 ·rw [kS4 _ hbg.symm]; exact hle3 _ _ hS2
 ·rw [hS4]
  have := arrG_setW (n := 1) (g := 0) (G := zeroGr) (by decide)
  rw [show 17 * 0 = 0 from rfl] at this
  rw [this]
  refine congrArg some (encG_congr (fun s hs => ?_) (fun _ _ => rfl) (fun _ _ => rfl))
  show (if s / 8 = 0 then 128 else _) = 128
  rw [if_pos (by omega)]
 ·have h2 := (ne_of_none nsg hy)
  rw [kS4 _ h2]; exact hle3 _ _ ((kS2 _ h1).trans (hle1 _ _ hy))
/-- What growth to a table leaves. -/
def Tabled (K : KT) (H : Heap) (bm : Nat) (m : Mp) (G : Gr) (v : Value) (S : Heap) : Prop :=
 ∃ nb db t' σ, v = .pointer (some ⟨nb, 0, none⟩) ∧ H nb = none ∧ H db = none ∧ H t'.gb = none ∧ Filling K 1 G (fun _ => true) t' σ ∧ t'.n = 2 ∧ t'.ld = 0 ∧ t'.index = 0 ∧
  S nb = some (encT t') ∧ S t'.gb = some (encG t'.n t'.G) ∧ S db = some (encD 1 (fun _ => some ⟨nb, 0, none⟩)) ∧ S bm = some (encM { m with small := none, dirp := some ⟨db, 0, none⟩, dirLen := 1, gd := 0, gs := 64 }) ∧
  ∀ x u, H x = some u → x ≠ bm → S x = some u
set_option maxHeartbeats 2000000 in
theorem c109 (hM : Mem w0 w H) (hD : HasDb w0) {K : KT} {E : Heap} {bty : Nat} {nu : Bool} (hE : E.le H) (T : TypOK K w0 E bty nu) {bm sg : Nat} {m : Mp} {G : Gr} (hb : H bm = some (encM m)) (hs : m.small = some ⟨sg, 0, none⟩) (hg : H sg = some (encG 1 G)) (hG : SlotsOK K 1 G) :
  Calls Tryz.prog 109 [.pointer (some ⟨bm, 0, none⟩), .pointer (some ⟨bty, 0, none⟩)].toArray w (Gives w0 (Tabled K H bm m G)) := by
 have hgr := Gr.bytes hG.ok 0
 refine calls_start Tryz.func109 rfl Tryz.ntmps109 (Nat.le_of_ble_eq_true rfl) ?_
 refine rs hM ?_
 refine asg ?_
 refine rw_nil ?_; intro w hM
 refine rs hM ?_
 refine mv ?_
 refine rw_callE cr84 rfl rfl (fun w hM => c84 (c := 16) (ld := 0) (p := 1) hM (by decide) (by decide) (isLen_pow (p := 4)) (by decide)) rfl (by nofun) ?_; rintro _ S1 ⟨nb, ngb, rfl, nnb, nng, hne, hnb, hng, hle⟩
 refine asg ?_
 refine rw_nil ?_; intro w hM
 have hb1 := hle _ _ hb
 refine rs hM ?_
 refine mv ?_
 refine nck ?_
 refine fa fr132_2 ?_
 refine rw_load (v := .pointer (some ⟨sg, 0, none⟩)) ld102 rfl rfl rfl hb1 (by rw [← hs]; rfl) ?_
 refine rw_build (bd104_0 _) rfl rfl rfl ?_
 refine rw_allocN Tryz.zeroValue104 rfl rfl (fun b6 G6 n6 l6 e6 k6 => ?_)
 refine rw_store (v := .agg #[.pointer _]) sz104 rfl rfl rfl rfl e6 rfl rfl rfl (by nofun) (fun S2 hS2 kS2 => ?_)
 refine rw_nil ?_; intro w hM
 have hle2 := le_keep l6 n6 kS2
 refine wp_seq ?_
 refine rs hM ?_
 refine asg ?_
 refine rw_nil ?_; intro w hM
 refine wp_block ?_
 refine wp_loop_s (fun k f w => ∃ j t' σ S, k = 9 - j ∧ j ≤ 8 ∧ Know f [(0, .pointer (some ⟨bm, 0, none⟩)), (1, .pointer (some ⟨bty, 0, none⟩)), (5, .pointer (some ⟨nb, 0, none⟩)), (6, .pointer (some ⟨b6, 0, none⟩)), (7, u64 j)] ∧ Mem w0 w S ∧ H.le S ∧ Filling K 1 G (fun s => decide (s < j)) t' σ ∧ t'.n = 2 ∧ t'.ld = 0 ∧ t'.index = 0 ∧ t'.gb = ngb ∧ S nb = some (encT t') ∧ S ngb = some (encG t'.n t'.G) ∧ S b6 = some (.cells #[.pointer (some ⟨sg, 0, none⟩)] 104 (0, 0))) (9 - 0) ?_ ?_
 ·exact ⟨0, newTb 2 0 0 ngb, fun s => s, S2, rfl, by omega, Know.of ⟨rfl, rfl, rfl, rfl, rfl, trivial⟩, hM, Heap.le_trans hle hle2, Filling.new (newTb_ok K (p := 1) (by decide)) (fun _ => rfl) rfl (fun s => by simp), rfl, rfl, rfl, rfl, hle2 _ _ hnb, hle2 _ _ hng, hS2⟩
 clear hM hnb hng hle hb1 hle2
 rintro k f w ⟨j, t', σ, S, rfl, hj', ⟨g1, rfl⟩, hM, hle, hF, hn', hld, hix, hgb, hnb, hng, h6⟩
 have hg1 := hle _ _ hg
 have hm1 := hle _ _ hb
 have hE1 := Heap.le_trans hE hle
 refine wp_seq ?_
 refine rs hM ?_
 refine mv ?_
 refine rw_bin rfl rfl rfl rfl (b_lt _ _) ?_
 refine rw_nil ?_; intro w hM
 refine wp_if (tmp_lt rfl) rfl (fun hc => ?_) (fun hc => ?_)
 ·have hj : j < 8 := by have := of_decide_eq_true hc; omega
  refine wp_skip ?_
  refine wp_seq ?_
  refine wp_block ?_
  refine wp_seq ?_
  have hctrl : objCell (encG 1 G) 0 = some (u64 (word (G.at 0))) := encG_ctrl (n := 1) (g := 0) (by decide)
  have hat : G.at 0 j = G.c j := by show G.c (8 * 0 + j) = _; rw [show 8 * 0 + j = j by omega]
  refine rs hM ?_
  refine rw_callq cr90 rfl rfl (fun H' w hle hM => c90 hM (hle _ _ h6) rfl) rfl ?_
  refine mv ?_
  refine rw_callq cr95 rfl rfl (fun H' w hle hM => c95 hM hgr (hle _ _ hg1) hctrl hj) rfl ?_
  refine rw_bin rfl rfl rfl rfl (b_and8 _ 128 (hG.ok.1 _) (by decide)) ?_
  refine rw_bin rfl rfl rfl rfl (b_eq _ _) ?_
  refine rw_nil ?_; intro w hM
  refine wp_if (tmp_lt rfl) rfl (fun hz => ?_) (fun hz => ?_)
  ·have hz' : 128 ≤ G.c j := by rw [← hat]; exact of_decide_eq_true ((byte_top _ (hG.ok.1 _)).symm.trans hz)
   refine wp_exit ?_
   simp only [Exit.then, Exit.inBlock, if_true]
   refine re hM ?_
   refine mv ?_
   refine rw_bin rfl rfl rfl rfl (b_add64 _ 1) ?_
   refine asg ?_
   refine rw_nil ?_; intro w hM
   refine ⟨9 - (j + 1), _, rfl, by omega, j + 1, t', σ, S, rfl, by omega, Know.of ⟨rfl, rfl, rfl, rfl, congrArg u64 (show (j + 1) % 2 ^ 64 = j + 1 by omega), trivial⟩, hM, hle, hF.congr (fun s hs hf => ?_), hn', hld, hix, hgb, hnb, hng, h6⟩
   have : s ≠ j := fun e => by subst e; omega
   by_cases h1 : s < j
   ·rw [decide_eq_true h1, decide_eq_true (show s < j + 1 by omega)]
   ·rw [decide_eq_false h1, decide_eq_false (show ¬ s < j + 1 by omega)]
  ·have hz' : G.c j < 128 := by
    rw [← hat]; have h9 : ¬ 128 ≤ G.at 0 j := of_decide_eq_false ((byte_top _ (hG.ok.1 _)).symm.trans hz); omega
   have hkey : objCell (encG 1 G) (0 + 1 + j) = some (u64 (G.k j)) := by
    have := encG_key (n := 1) (g := 0) (G := G) (by decide) hj
    rw [show 8 * 0 + j = j by omega] at this; exact this
   have helem : objCell (encG 1 G) (0 + 9 + j) = some (i64 (G.e j)) := by
    have := encG_elem (n := 1) (g := 0) (G := G) (by decide) hj
    rw [show 8 * 0 + j = j by omega] at this; exact this
   have hkl := hG.ok.2.1 j
   have hel := hG.ok.2.2 j
   refine wp_skip ?_
   refine rs hM ?_
   refine mv ?_
   refine mv ?_
   refine rw_callq cr96 rfl rfl (fun H' w hle hM => c96 hM (hle _ _ h6) rfl hj) rfl ?_
   refine asg ?_
   refine rw_nil ?_; intro w hM
   refine rs hM ?_
   refine mv ?_
   refine mv ?_
   refine rw_callq cr98 rfl rfl (fun H' w hle hM => c98 hM (hle _ _ h6) rfl hj) rfl ?_
   refine asg ?_
   refine rw_nil ?_; intro w hM
   refine wp_mix_seq [] [] [0, 1, 2, 3, 4, 5, 6, 7, 8, 9, 10] S mixed (by kernel_rfl) (Heap.le_refl _) hM ?_
   refine mv ?_
   refine nck ?_
   refine fa fr88_0 ?_
   refine lo ld85 (hE1 _ _ T.typ) ?_
   refine mv ?_
   refine mv ?_
   refine nck ?_
   refine fa fr132_1 ?_
   refine lo ld12 hm1 ?_
   refine rw_callvq (captured := T.ch) T.crh rfl rfl rfl (fun H' w hle2 hM => T.hasher hM (Heap.le_trans hE1 hle2) (hle2 _ _ hg1) hkey hkl) rfl ?_
   refine asg ?_
   refine rw_nil ?_; intro w hM
   have hgl : 0 < t'.gl := by
    have h1 := hF.room
    have h2 := hF.used
    have h3 := cnt_le (fun s => isFull G s && decide (s < j)) (8 * 1)
    omega
   have htg : sg ≠ t'.gb := fun e => by rw [hgb] at e; rw [e, nng] at hg; cases hg
   have hng' : S t'.gb = some (encG t'.n t'.G) := by rw [hgb]; exact hng
   refine re hM ?_
   refine mv ?_
   refine mv ?_
   refine mv ?_
   refine mv ?_
   refine mv ?_
   refine rw_callE cr127 rfl rfl (fun w hM => c127g hM hD hnb hng' hF.ok hF.noDel hgl hg1 hkey htg hg1 helem htg hkl hel) rfl (by nofun) ?_; rintro _ S' ⟨rfl, v, hv, h128, hnb', hng'', hrest⟩
   refine rw_nil ?_; intro w hM
   simp only [Exit.then, Exit.inBlock]
   refine re hM ?_
   refine mv ?_
   refine rw_bin rfl rfl rfl rfl (b_add64 _ 1) ?_
   refine asg ?_
   refine rw_nil ?_; intro w hM
   have hFs := hF.step hG (show j < 8 * 1 by omega) hz' (decide_eq_false (by omega)) hgl hv h128
   refine ⟨9 - (j + 1), _, rfl, by omega, j + 1, _, _, S', rfl, by omega, Know.of ⟨rfl, rfl, rfl, rfl, congrArg u64 (show (j + 1) % 2 ^ 64 = j + 1 by omega), trivial⟩, hM, ?_, hFs.congr (fun s hs hf => ?_), hn', hld, hix, hgb, hnb', by rw [hgb] at hng''; exact hng'', ?_⟩
   ·intro x u hx
    have x1 := ne_of_none nnb hx
    have x2 : x ≠ t'.gb := by rw [hgb]; exact ne_of_none nng hx
    rw [hrest x x1 x2]; exact hle _ _ hx
   ·by_cases h1 : s = j
    ·simp [h1]
    ·by_cases h2 : s < j
     ·simp [h2]; omega
     ·simp [h1, h2]; omega
   ·have x1 : b6 ≠ nb := ne_of_ty h6 hnb rfl rfl rfl
    have x2 : b6 ≠ t'.gb := ne_of_ty h6 hng' rfl rfl rfl
    rw [hrest _ x1 x2]; exact h6
 ·have hj : j = 8 := by have := of_decide_eq_false hc; omega
  subst hj
  refine wp_exit ?_
  simp only [Exit.then, Exit.inBlock, if_true]
  refine rs hM ?_
  refine rw_makeN rowD (n := 1) rfl rfl rfl rfl (by decide) (by decide) (fun db G50 n50 l50 e50 k50 => ?_)
  refine asg ?_
  refine rw_nil ?_; intro w hM
  rw [madeCells_nil] at e50
  refine rs hM ?_
  refine mv ?_
  refine mv ?_
  refine rw_indexAddr rfl rfl rfl rfl (x_slice (i := 0) Tryz.underlying130 sz101 (by decide)) ?_
  refine rw_storeE (v := .pointer (some ⟨nb, 0, none⟩)) sz101 rfl rfl rfl rfl e50 (arrD_set (by decide)) (by rw [arrD_size]; decide) rfl (by nofun) (fun S12 hS12 kS12 => ?_)
  refine rw_nil ?_; intro w hM
  have hle12 := le_keep (Heap.le_trans hle l50) (le_none hle n50) kS12
  have hm12 := hle12 _ _ hb
  refine rs hM ?_
  refine mv ?_
  refine mv ?_
  refine mv ?_
  refine nck ?_
  refine fa fr132_2 ?_
  refine rw_store1 (v := .pointer _) sz102 rfl rfl rfl rfl hm12 rfl rfl (by nofun) (fun S13 hS13 kS13 => ?_)
  refine nck ?_
  refine fa fr132_3 ?_
  refine rw_store1 (v := .slice _ _ _) sz130 rfl rfl rfl rfl hS13 rfl rfl (by nofun) (fun S13b hS13b kS13b => ?_)
  refine rw_nil ?_; intro w hM
  refine rs hM ?_
  refine mv ?_
  refine mv ?_
  refine rw_len Tryz.underlying130 rfl rfl rfl ?_
  refine nck ?_
  refine fa fr132_4 ?_
  refine rw_store1 (v := .int .i64 _) sz3 rfl rfl rfl rfl hS13b rfl rfl (by nofun) (fun S14 hS14 kS14 => ?_)
  refine rw_nil ?_; intro w hM
  refine rs hM ?_
  refine mv ?_
  refine nck ?_
  refine fa fr132_5 ?_
  refine rw_store1 (v := .int .u8 0) sz5 rfl rfl rfl rfl hS14 rfl rfl (by nofun) (fun S15 hS15 kS15 => ?_)
  refine rw_nil ?_; intro w hM
  refine rs hM ?_
  refine mv ?_
  refine mv ?_
  refine nck ?_
  refine fa fr132_5 ?_
  refine lo ld5 hS15 ?_
  refine rw_callq cr83 rfl rfl (fun H' w hle hM => c83 (d := 0) hM (by decide)) rfl ?_
  refine nck ?_
  refine fa fr132_6 ?_
  refine rw_store1 (v := .int .u8 _) sz5 rfl rfl rfl rfl hS15 rfl rfl (by nofun) (fun S16 hS16 kS16 => ?_)
  refine rw_nil ?_; intro w hM
  refine rs hM ?_
  refine mv ?_
  refine asg ?_
  refine rw_nil ?_; intro w hM
  refine wp_ret ?_
  have hk : ∀ x, x ≠ bm → S16 x = S12 x := fun x hx => by rw [kS16 _ hx, kS15 _ hx, kS14 _ hx, kS13b _ hx, kS13 _ hx]
  have d1 : nb ≠ bm := (ne_of_none nnb hb).symm
  have d2 : ngb ≠ bm := (ne_of_none nng hb).symm
  have d3 : db ≠ bm := fun e => by rw [e, hle _ _ hb] at n50; cases n50
  have d4 : nb ≠ db := fun e => by rw [← e, hnb] at n50; cases n50
  have d5 : ngb ≠ db := fun e => by rw [← e, hng] at n50; cases n50
  refine post_tmp (v := .pointer _) rfl rfl rfl ⟨_, S16, rfl, hM, nb, db, t', σ, rfl, nnb, le_none hle n50, by rw [hgb]; exact nng, hF.congr (fun s hs _ => decide_eq_true (by omega)), hn', hld, hix, ?_, ?_, ?_, ?_, fun x u hx h1 => ?_⟩
  ·rw [hk _ d1, kS12 _ d4, l50 _ _ hnb]
  ·rw [hgb, hk _ d2, kS12 _ d5, l50 _ _ hng]
  ·rw [hk _ d3, hS12]
   refine congrArg some (encD_congr fun j hj => ?_)
   rw [if_pos (by omega)]
  ·rw [hS16]; rfl
  ·rw [hk _ h1]; exact hle12 _ _ hx
end
/-- A directory and the tables that it names. -/
structure Dir where
 gd : Nat
 d : Nat → Nat
 T : Nat → Tb
def Dir.tab (D : Dir) (i : Nat) : Tb := D.T (D.d i)
/-- An entry of the tables: slot s of the groups in block g. -/
def Dir.live (D : Dir) (g s k : Nat) (e : Int) : Prop := ∃ i, i < 2 ^ D.gd ∧ g = (D.tab i).gb ∧ s < 8 * (D.tab i).n ∧ (D.tab i).G.c s < 128 ∧ (D.tab i).G.k s = k ∧ (D.tab i).G.e s = e
/-- What a directory must be. -/
structure Dir.OK (K : KT) (D : Dir) : Prop where
 dok : DirOK D.gd D.d D.T
 tok : ∀ i, i < 2 ^ D.gd → TOK K (D.tab i)
 gbs : ∀ i j, i < 2 ^ D.gd → j < 2 ^ D.gd → (D.tab i).gb = (D.tab j).gb → D.d i = D.d j
 route : ∀ i s, i < 2 ^ D.gd → s < 8 * (D.tab i).n → (D.tab i).G.c s < 128 → D.d (dirIdx D.gd (K.hash ((D.tab i).G.k s))) = D.d i
 gd64 : D.gd ≤ 60
/-- .. in memory. -/
structure Dir.At (D : Dir) (S : Heap) (db : Nat) : Prop where
 dir : S db = some (encD (2 ^ D.gd) (fun i => some ⟨D.d i, 0, none⟩))
 tabs : ∀ i, i < 2 ^ D.gd → S (D.d i) = some (encT (D.tab i))
 grs : ∀ i, i < 2 ^ D.gd → S (D.tab i).gb = some (encG (D.tab i).n (D.tab i).G)
/-- The map's cells fit the directory. -/
structure MpBig (m : Mp) (D : Dir) (db : Nat) : Prop where
 gd : m.gd = D.gd
 len : m.dirLen = 2 ^ D.gd
 gs : m.gs = 64 - D.gd
 small : m.small = none
 dirp : m.dirp = some ⟨db, 0, none⟩
/-- Every step counted so far pays for the depth of the tables. -/
def psi (t : Tb) : Nat := t.used + 2 * cnt (isDel t.G) (8 * t.n)
def Dir.Pot (D : Dir) (N : Nat) : Prop := ∀ i, i < 2 ^ D.gd → 192 * ((D.tab i).ld - 12) + psi (D.tab i) ≤ N
/-- Not more than so many entries have hashes with the same twelve highest bits. -/
def Dir.Cls (K : KT) (D : Dir) : Prop := ∀ i c, i < 2 ^ D.gd → cnt (fun s => isFull (D.tab i).G s && Nat.beq (K.hash ((D.tab i).G.k s) / 2 ^ 52) c) (8 * (D.tab i).n) ≤ 800
/-- The table of a hash. -/
def Dir.at (D : Dir) (h : Nat) : Nat := D.d (dirIdx D.gd h)
/-- How the tables turn when some are replaced; ρ: where an entry lay before. -/
structure Evo (H S : Heap) (D D' : Dir) (ρ : Nat → Nat → Nat × Nat) : Prop where
 gd : D.gd ≤ D'.gd
 back : ∀ g s k e, D'.live g s k e → D.live (ρ g s).1 (ρ g s).2 k e
 inj : ∀ g s k e g2 s2 k2 e2, D'.live g s k e → D'.live g2 s2 k2 e2 → ρ g s = ρ g2 s2 → g = g2 ∧ s = s2
 onto : ∀ g s k e, D.live g s k e → ∃ g' s', D'.live g' s' k e ∧ ρ g' s' = (g, s)
 same : ∀ i j s, i < 2 ^ D.gd → j < 2 ^ D'.gd → D'.d j = D.d i → ρ (D.tab i).gb s = ((D.tab i).gb, s)
 fate : ∀ i, i < 2 ^ D.gd → ((∃ j, j < 2 ^ D'.gd ∧ D'.d j = D.d i) ∧ ∃ x : Int, D'.T (D.d i) = { D.T (D.d i) with index := x }) ∨
  ((∀ j, j < 2 ^ D'.gd → D'.d j ≠ D.d i ∧ (D'.tab j).gb ≠ (D.tab i).gb) ∧ S (D.d i) = some (encT { D.tab i with index := -1 }))
 fresh : ∀ j, j < 2 ^ D'.gd → (∃ i, i < 2 ^ D.gd ∧ D'.d j = D.d i) ∨ (H (D'.d j) = none ∧ H (D'.tab j).gb = none)
 deep : ∀ h, h < 2 ^ 64 → (D.T (D.at h)).ld ≤ (D'.T (D'.at h)).ld
 stay : ∀ h, h < 2 ^ 64 → (∃ j, j < 2 ^ D'.gd ∧ D'.d j = D.at h) → D'.at h = D.at h
theorem Dir.OK.live_fun {K : KT} {D : Dir} (h : D.OK K) {g s k k2 : Nat} {e e2 : Int} (h1 : D.live g s k e) (h2 : D.live g s k2 e2) : k = k2 ∧ e = e2 := by
 obtain ⟨i, hi, gi, si, ci, ki, ei⟩ := h1
 obtain ⟨j, hj, gj, sj, cj, kj, ej⟩ := h2
 have := h.gbs i j hi hj (gi.symm.trans gj)
 unfold Dir.tab at *
 rw [← this] at kj ej
 exact ⟨ki.symm.trans kj, ei.symm.trans ej⟩
theorem Evo.refl {K : KT} (H : Heap) {D : Dir} (_h : D.OK K) : Evo H H D D (fun g s => (g, s)) :=
 ⟨Nat.le_refl _, fun _ _ _ _ h => h, fun _ _ _ _ _ _ _ _ _ _ e => by cases e; exact ⟨rfl, rfl⟩, fun g s _ _ h => ⟨g, s, h, rfl⟩, fun _ _ _ _ _ _ => rfl,
  fun i hi => .inl ⟨⟨i, hi, rfl⟩, (D.T (D.d i)).index, rfl⟩, fun j hj => .inl ⟨j, hj, rfl⟩, fun _ _ => Nat.le_refl _, fun _ _ _ => rfl⟩
theorem Evo.trans {K : KT} {H S S' : Heap} {D D1 D2 : Dir} {ρ1 ρ2 : Nat → Nat → Nat × Nat} (h1 : Evo H S D D1 ρ1) (h2 : Evo S S' D1 D2 ρ2) (hD : D.OK K) (hH : ∀ i, i < 2 ^ D.gd → ∃ u, H (D.d i) = some u) (hg : ∀ i, i < 2 ^ D.gd → ∃ u, H (D.tab i).gb = some u)
  (hdom : ∀ x u, H x = some u → ∃ v, S x = some v) (hstale : ∀ i, i < 2 ^ D.gd → (∀ j, j < 2 ^ D1.gd → D1.d j ≠ D.d i) → S' (D.d i) = S (D.d i)) : Evo H S' D D2 (fun g s => ρ1 (ρ2 g s).1 (ρ2 g s).2) := by
 have none_of : ∀ x, S x = none → H x = none := fun x hx => by
  cases e : H x with
  | none => rfl
  | some u => obtain ⟨v, hv⟩ := hdom x u e; rw [hx] at hv; cases hv
 refine ⟨Nat.le_trans h1.gd h2.gd, fun g s k e h => h1.back _ _ _ _ (h2.back _ _ _ _ h), fun g s k e g2 s2 k2 e2 ha hb he => ?_, fun g s k e h => ?_, fun i j s hi hj he => ?_, fun i hi => ?_, fun j hj => ?_, fun h hh => Nat.le_trans (h1.deep h hh) (h2.deep h hh), fun h hh hj => ?_⟩
 ·have := h1.inj _ _ _ _ _ _ _ _ (h2.back _ _ _ _ ha) (h2.back _ _ _ _ hb) he
  exact h2.inj _ _ _ _ _ _ _ _ ha hb (Prod.ext this.1 this.2)
 ·obtain ⟨g1, s1, a1, b1⟩ := h1.onto _ _ _ _ h
  obtain ⟨g2, s2, a2, b2⟩ := h2.onto _ _ _ _ a1
  exact ⟨g2, s2, a2, by simp only [b2, b1]⟩
 ·-- the table lives in all three
  obtain ⟨u, hu⟩ := hH i hi
  rcases h2.fresh j hj with ⟨i1, hi1, e1⟩ | ⟨e1, _⟩
  ·have e2 : D1.d i1 = D.d i := e1.symm.trans he
   rcases h1.fate i hi with ⟨_, x, hx⟩ | ⟨hs, _⟩
   ·have hgb : (D1.tab i1).gb = (D.tab i).gb := by unfold Dir.tab; rw [e2, hx]
    have a := h2.same i1 j s hi1 hj e1
    rw [hgb] at a
    show ρ1 (ρ2 _ s).1 (ρ2 _ s).2 = _
    rw [a]
    exact h1.same i i1 s hi hi1 e2
   ·exact absurd e2 (hs i1 hi1).1
  ·obtain ⟨v, hv⟩ := hdom _ _ hu
   rw [he, hv] at e1; cases e1
 ·rcases h1.fate i hi with ⟨⟨j1, hj1, e1⟩, x, hx⟩ | ⟨hs, hm⟩
  ·have hgb : (D1.tab j1).gb = (D.tab i).gb := by unfold Dir.tab; rw [e1, hx]
   rcases h2.fate j1 hj1 with ⟨⟨j2, hj2, e2⟩, y, hy⟩ | ⟨hs2, hm2⟩
   ·exact .inl ⟨⟨j2, hj2, e2.trans e1⟩, y, by rw [← e1, hy, e1, hx]⟩
   ·refine .inr ⟨fun j hj => ⟨fun e => (hs2 j hj).1 (e.trans e1.symm), fun e => (hs2 j hj).2 (e.trans hgb.symm)⟩, ?_⟩
    rw [e1] at hm2
    rw [hm2]
    unfold Dir.tab
    rw [e1, hx]
  ·obtain ⟨u, hu⟩ := hH i hi
   obtain ⟨v, hv⟩ := hdom _ _ hu
   obtain ⟨u2, hu2⟩ := hg i hi
   obtain ⟨v2, hv2⟩ := hdom _ _ hu2
   refine .inr ⟨fun j hj => ?_, (hstale i hi (fun j hj => (hs j hj).1)).trans hm⟩
   rcases h2.fresh j hj with ⟨i1, hi1, e1⟩ | ⟨e1, e2⟩
   ·refine ⟨fun e => (hs i1 hi1).1 (e1.symm.trans e), fun e => (hs i1 hi1).2 ?_⟩
    rcases h2.fate i1 hi1 with ⟨_, y, hy⟩ | ⟨hs2, _⟩
    ·have : (D2.tab j).gb = (D1.tab i1).gb := by unfold Dir.tab; rw [e1, hy]
     rw [← this]; exact e
    ·exact absurd e1 (hs2 j hj).1
   ·exact ⟨(fun e => by rw [e, hv] at e1; cases e1), (fun e => by rw [e, hv2] at e2; cases e2)⟩
 ·rcases h2.fresh j hj with ⟨i1, hi1, e1⟩ | ⟨e1, e2⟩
  ·rcases h1.fresh i1 hi1 with ⟨i, hi, e⟩ | ⟨a, b⟩
   ·exact .inl ⟨i, hi, e1.trans e⟩
   ·refine .inr ⟨by rw [e1]; exact a, ?_⟩
    rcases h2.fate i1 hi1 with ⟨_, y, hy⟩ | ⟨hs2, _⟩
    ·have : (D2.tab j).gb = (D1.tab i1).gb := by unfold Dir.tab; rw [e1, hy]
     rw [this]; exact b
    ·exact absurd e1 (hs2 j hj).1
  ·exact .inr ⟨none_of _ e1, none_of _ e2⟩
 ·obtain ⟨j, hj, ej⟩ := hj
  have hi := dirIdx_lt (gd := D.gd) (by have := hD.gd64; omega) hh
  have h3 : ∃ j1, j1 < 2 ^ D1.gd ∧ D1.d j1 = D.at h := by
   rcases h2.fresh j hj with ⟨i1, hi1, e1⟩ | ⟨e1, _⟩
   ·exact ⟨i1, hi1, e1.symm.trans ej⟩
   ·obtain ⟨u, hu⟩ := hH _ hi
    obtain ⟨v, hv⟩ := hdom _ _ hu
    have : S (D.at h) = some v := hv
    rw [ej, this] at e1; cases e1
  have h4 := h1.stay h hh h3
  rw [← h4]
  exact h2.stay h hh ⟨j, hj, by rw [h4]; exact ej⟩
end Go.Proofs.YtddpfkcofmfmpaaGreatDoor
