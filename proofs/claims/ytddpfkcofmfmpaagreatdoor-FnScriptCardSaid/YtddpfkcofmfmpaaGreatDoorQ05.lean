/-
  Look-ups in a table. Conditions stand in each contract. Look-ups in a small map. Conditions stand in each contract. Putting into a table without tombstones. Conditions stand in each contract. Putting into a new table, the element's place handed back. Conditions stand in each contract.
  Conditions stand in each lemma.
-/
import Derived.Test.YtddpfkcofmfmpaaGreatDoorQ04
namespace Go.Proofs.YtddpfkcofmfmpaaGreatDoor
open Go Go.RowKit
set_option maxRecDepth 20000
section
variable {w0 w : World} {H : Heap}
/-- What a look-up without the key hands back. -/
def elemRes (gb : Nat) : Option Nat → Value
 | none => .tuple #[.pointer none, .bool false]
 | some s => .tuple #[.pointer (some ⟨gb, 17 * (s / 8) + 9 + s % 8, none⟩), .bool true]
/-- What the loop over the probes knows in round i. -/
def Probing (K : KT) (t : Tb) (w0 : World) (H : Heap) (k b10 : Nat) (l : List (Nat × Value)) (m : Nat) (f : Slots) (w : World) : Prop :=
 ∃ i S, m = t.n - i ∧ Know f l ∧ Mem w0 w S ∧ H.le S ∧ S b10 = some (.cells #[u64 (t.n - 1), u64 (pr t.n (K.hash k) i), u64 i] 180 (0, 0)) ∧ H b10 = none ∧
  ∀ j, j < i → noHit K t.G k (pr t.n (K.hash k) j) ∧ t.G.packed (pr t.n (K.hash k) j)
/-- .. the loop over the matches in a group. -/
def Matching (K : KT) (c ks : Nat → Nat) (w0 : World) (S : Heap) (k : Nat) (l : Nat → List (Nat × Value)) (m : Nat) (f : Slots) (w : World) : Prop :=
 m < 256 ∧ Know f (l m) ∧ Mem w0 w S ∧ (∀ q, q < 8 → c q < 128 → m.testBit q = true ∨ K.eqk k (ks q) = false) ∧ (∀ q, q < 8 → m.testBit q = true → c q < 128)
theorem pow_and {n p h : Nat} (hn : n = 2 ^ p) : h &&& (n - 1) = h % n := by rw [hn]; exact Nat.and_two_pow_sub_one_eq_mod h p
theorem probe_next {K : KT} {t : Tb} (hT : TOK K t) (h i : Nat) (hi : i < t.n) : ((pr t.n h i + (i + 1) % 2 ^ 64) % 2 ^ 64 &&& (t.n - 1)) = pr t.n h (i + 1) ∧ (i + 1) % 2 ^ 64 = i + 1 := by
 obtain ⟨p, _, hp⟩ := hT.pow
 have hn := hT.npos
 have h1 := pr_lt hn.1 h i
 have e1 : (i + 1) % 2 ^ 64 = i + 1 := by omega
 refine ⟨?_, e1⟩
 rw [e1, show (pr t.n h i + (i + 1)) % 2 ^ 64 = pr t.n h i + (i + 1) from by omega, pow_and hp]; rfl

theorem st_empty : ∀ c, c < 128 ∨ c = 128 ∨ c = 254 → (c.testBit 7 && !c.testBit 1) = decide (c = 128) := by
 have key : ∀ c, c < 128 → c.testBit 7 = false := fun c h => Nat.testBit_lt_two_pow (i := 7) (by omega)
 rintro c (h | rfl | rfl)
 ·rw [key c h, decide_eq_false (by omega)]; rfl
 ·decide
 ·decide
/-- The mask of the empty slots is not 0: the group is not packed; it is: she is. -/
theorem empty_mask {K : KT} {n g : Nat} {G : Gr} (hS : SlotsOK K n G) (hg : g < n) (h : ((bsw (mk8 fun q => (G.at g q).testBit 7 && !(G.at g q).testBit 1) : Int) != 0) = true) : ¬ G.packed g := by
 intro hp
 have : mk8 (fun q => (G.at g q).testBit 7 && !(G.at g q).testBit 1) = 0 := eq_zero_of (mk8_lt _) fun q hq => by
  rw [mk8_bit _ q hq, st_empty (G.at g q) (hS.st (8 * g + q) (by omega)), decide_eq_false (show ¬ G.at g q = 128 from hp q hq)]
 rw [this] at h
 simp [bsw, word, wl] at h
theorem empty_mask0 {K : KT} {n g : Nat} {G : Gr} (hS : SlotsOK K n G) (hg : g < n) (h : ((bsw (mk8 fun q => (G.at g q).testBit 7 && !(G.at g q).testBit 1) : Int) != 0) = false) : G.packed g := by
 intro q hq he
 have h0 : bsw (mk8 fun q => (G.at g q).testBit 7 && !(G.at g q).testBit 1) = 0 := by simpa using h
 have h1 := (bsw_zero _ (mk8_lt _)).1 h0
 have h2 := mk8_bit (fun q => (G.at g q).testBit 7 && !(G.at g q).testBit 1) q hq
 rw [h1, st_empty (G.at g q) (hS.st (8 * g + q) (by omega)), decide_eq_true (show G.at g q = 128 from he)] at h2
 simp at h2
set_option maxHeartbeats 1000000 in
theorem c113 (hM : Mem w0 w H) (hD : HasDb w0) {K : KT} {E : Heap} {bty : Nat} {nu : Bool} (hE : E.le H) (T : TypOK K w0 E bty nu) {b : Nat} {t : Tb} (hb : H b = some (encT t)) (hg : H t.gb = some (encG t.n t.G)) (hT : TOK K t) {bk ok k : Nat} {obk : Obj} (hk : H bk = some obk) (hkc : objCell obk ok = some (u64 k)) (hkl : k < 2 ^ 64) :
  Calls Tryz.prog 113 [.pointer (some ⟨b, 0, none⟩), .pointer (some ⟨bty, 0, none⟩), u64 (K.hash k), .pointer (some ⟨bk, ok, none⟩)].toArray w (Keeps w0 H (elemRes t.gb (find K t.n t.G k))) := by
 have hn := hT.npos
 have hh := K.lt k
 obtain ⟨p, _, hp⟩ := hT.pow
 refine calls_start Tryz.func113 rfl Tryz.ntmps113 (Nat.le_of_ble_eq_true rfl) ?_
 refine rs hM ?_
 refine asg ?_
 refine asg ?_
 refine rw_nil ?_; intro w hM
 refine wp_mix_seq [8, 9] [9] [0, 1, 2, 3, 4, 5, 6, 7, 8, 9] H mixed (by kernel_rfl) (Heap.le_refl _) hM ?_
 refine mv ?_
 refine rw_callq cr118 rfl rfl (fun H' w hle hM => c118 hM _) rfl ?_
 refine mv ?_
 refine nck ?_
 refine fa fr158_5 ?_
 refine fa fr156_1 ?_
 refine lo ld22 hb ?_
 refine rw_callq cr117 rfl rfl (fun H' w hle hM => c117 hM _ _ (by omega) (by omega)) rfl ?_
 refine rw_allocD Tryz.zeroValue180 rfl rfl rfl (Heap.le_refl _) (fun b10 G10 n10 l10 e10 k10 => ?_)
 refine rw_store (v := .agg #[.int .u64 _, .int .u64 _, .int .u64 _]) sz180 rfl rfl rfl rfl e10 rfl rfl rfl (fun _ => ⟨rfl, rfl⟩) (fun S1 hS1 kS1 => ?_)
 refine rw_nil ?_; intro w hM
 have hle := le_keep l10 n10 kS1
 refine rs hM ?_
 refine mv ?_
 refine rw_callq cr115 rfl rfl (fun H' w hle hM => c115 hM _ hh) rfl ?_
 refine asg ?_
 refine rw_nil ?_; intro w hM
 refine wp_block ?_
 refine wp_loop_s (Probing K t w0 H k b10 [(0, .pointer (some ⟨b, 0, none⟩)), (1, .pointer (some ⟨bty, 0, none⟩)), (2, u64 (K.hash k)), (3, .pointer (some ⟨bk, ok, none⟩)), (10, .pointer (some ⟨b10, 0, none⟩)), (11, u64 (K.hash k % 128))]) (t.n - 0) ?_ ?_
 ·refine ⟨0, S1, rfl, Know.of ⟨rfl, rfl, rfl, rfl, rfl, rfl, trivial⟩, hM, hle, ?_, n10, fun j hj => by omega⟩
  rw [hS1]
  have : pr t.n (K.hash k) 0 = K.hash k / 128 &&& (t.n - 1) := (pow_and hp).symm
  rw [this]; rfl
 clear hle hS1 kS1
 rintro m f w ⟨i, S, rfl, ⟨g0, rfl⟩, hM, hle, hS, n10, hprev⟩
 have hi : i < t.n := by
  obtain ⟨j, hj, hnp⟩ := hT.stops (K.hash k)
  rcases Nat.lt_or_ge j i with h | h
  ·exact absurd (hprev j h).2 hnp
  ·omega
 have hb' := hle _ _ hb
 refine wp_seq ?_
 refine wp_block ?_
 refine wp_mix_seq [7, 8] [8] [0, 1, 2, 3, 4, 5, 6, 7, 8] _ mixed (by kernel_rfl) (Heap.le_refl _) hM ?_
 refine mv ?_
 refine nck ?_
 refine fa fr158_5 ?_
 refine mv ?_
 refine fa fr180_1 ?_
 refine lo ld22 hS ?_
 refine rw_callq cr93 rfl rfl (fun H' w hle' hM => c93 hM (hle' _ _ hb') rfl (pr_lt hn.1 (K.hash k) i)) rfl ?_
 refine rw_allocD Tryz.zeroValue104 rfl rfl rfl (Heap.le_refl _) (fun b12 G12 n12 l12 e12 k12 => ?_)
 refine rw_store (v := .agg #[.pointer _]) sz104 rfl rfl rfl rfl e12 rfl rfl rfl (fun _ => ⟨rfl, rfl⟩) (fun S4 hS4 kS4 => ?_)
 refine rw_nil ?_; intro w hM
 have hleS := le_keep l12 n12 kS4
 have hle' := Heap.le_trans hle hleS
 have hg' := hle' _ _ hg
 have hseq := hleS _ _ hS
 have hgr := Gr.bytes hT.sl.ok (pr t.n (K.hash k) i)
 have hpi := pr_lt hn.1 (K.hash k) i
 obtain ⟨m0, hm0, hmA, hmB, hcall⟩ := c114w (t.G.at (pr t.n (K.hash k) i)) hgr (K.hash k % 128) (by omega)
 refine rs hM ?_
 refine rw_callq cr90 rfl rfl (fun H' w hle hM => c90 hM (hle _ _ hS4) rfl) rfl ?_
 refine nck ?_
 refine rw_load ld145 rfl rfl rfl hg' (encG_ctrl hpi) ?_
 refine mv ?_
 refine rw_callq cr114 rfl rfl (fun H' w hle hM => hcall hM) rfl ?_
 refine asg ?_
 refine rw_nil ?_; intro w hM
 refine wp_seq ?_
 refine wp_block ?_
 refine wp_loop_s (Matching K (t.G.at (pr t.n (K.hash k) i)) (fun q => t.G.k (8 * pr t.n (K.hash k) i + q)) w0 S4 k (fun m => [(0, .pointer (some ⟨b, 0, none⟩)), (1, .pointer (some ⟨bty, 0, none⟩)), (2, u64 (K.hash k)), (3, .pointer (some ⟨bk, ok, none⟩)), (10, .pointer (some ⟨b10, 0, none⟩)), (11, u64 (K.hash k % 128)), (12, .pointer (some ⟨b12, 0, none⟩)), (13, u64 (bsw m))])) m0 ?_ ?_
 ·refine ⟨hm0, Know.of ⟨rfl, rfl, rfl, rfl, rfl, rfl, rfl, rfl, trivial⟩, hM, fun q hq hf => ?_, fun q hq h => hmB q hq h⟩
  by_cases he : K.eqk k (t.G.k (8 * pr t.n (K.hash k) i + q)) = true
  ·refine .inl (hmA q hq ?_)
   have := hT.sl.h2 (8 * pr t.n (K.hash k) i + q) (by omega) hf
   rw [← K.hash_eq _ _ he] at this; exact this
  ·exact .inr (by simpa using he)
 clear hcall hmA hmB hm0
 rintro m f w ⟨hm, ⟨g1, rfl⟩, hM, hA, hB⟩
 refine wp_seq ?_
 refine rs hM ?_
 refine mv ?_
 refine rw_bin rfl rfl rfl rfl (b_ne _ _) ?_
 refine rw_nil ?_; intro w hM
 refine wp_if (tmp_lt rfl) rfl (fun hc => ?_) (fun hc => ?_)
 ·have h0 : m ≠ 0 := fun e => by subst e; simp [bsw, word, wl] at hc
  refine wp_skip ?_
  refine wp_block ?_
  have hlow := low_lt m
  have hin := low_in m hm h0
  have hE' := Heap.le_trans hE hle'
  have hkey : objCell (encG t.n t.G) (17 * pr t.n (K.hash k) i + 1 + low m) = some (u64 (t.G.k (8 * pr t.n (K.hash k) i + low m))) := encG_key hpi hlow
  refine rs hM ?_
  refine mv ?_
  refine rw_callq cr103 rfl rfl (fun H' w hle hM => c103 hM hD hm h0) rfl ?_
  refine asg ?_
  refine rw_nil ?_; intro w hM
  refine rs hM ?_
  refine mv ?_
  refine mv ?_
  refine rw_callq cr96 rfl rfl (fun H' w hle hM => c96 hM (hle _ _ hS4) rfl hlow) rfl ?_
  refine asg ?_
  refine rw_nil ?_; intro w hM
  refine wp_seq ?_
  refine rs hM ?_
  refine mv ?_
  refine nck ?_
  refine fa fr88_1 ?_
  refine lo ld86 (hE' _ _ T.typ) ?_
  refine mv ?_
  refine mv ?_
  refine rw_callvq (captured := []) T.cre rfl rfl rfl (fun H' w hle hM => T.equal hM (Heap.le_trans hE' hle) (hle _ _ (hle' _ _ hk)) hkc hkl (hle _ _ hg') hkey (hT.sl.ok.2.1 _)) rfl ?_
  refine rw_nil ?_; intro w hM
  refine wp_if (tmp_lt rfl) rfl (fun he => ?_) (fun he => ?_)
  ·refine rs hM ?_
   refine mv ?_
   refine mv ?_
   refine rw_callq cr98 rfl rfl (fun H' w hle hM => c98 hM (hle _ _ hS4) rfl hlow) rfl ?_
   refine asg ?_
   refine rw_nil ?_; intro w hM
   refine rs hM ?_
   refine mv ?_
   refine asg ?_
   refine asg ?_
   refine rw_nil ?_; intro w hM
   refine wp_ret ?_
   have hf := find_some hT.sl (show 8 * pr t.n (K.hash k) i + low m < 8 * t.n by omega) (hB _ hlow hin) he
   refine post_tmp2 (v := .pointer _) (v' := .bool _) rfl rfl rfl rfl rfl (keep ?_ (hM.mono hle'))
   rw [hf]
   simp only [elemRes, show (8 * pr t.n (K.hash k) i + low m) / 8 = pr t.n (K.hash k) i from by omega, show (8 * pr t.n (K.hash k) i + low m) % 8 = low m from by omega]
  ·refine wp_skip ?_
   refine re hM ?_
   refine mv ?_
   refine rw_callq cr104 rfl rfl (fun H' w hle hM => c104 hM hm h0) rfl ?_
   refine asg ?_
   refine rw_nil ?_; intro w hM
   refine ⟨tl8 m, _, rfl, tl8_less m hm h0, tl8_lt m hm, Know.of ⟨rfl, rfl, rfl, rfl, rfl, rfl, rfl, rfl, trivial⟩, hM, fun q hq hf => ?_, fun q hq h => ?_⟩
   ·rcases hA q hq hf with h | h
    ·by_cases e : q = low m
     ·subst e; exact .inr he
     ·refine .inl ?_
      rw [tl8_bit m hm q hq, h, nat_beq_f.2 e]; rfl
    ·exact .inr h
   ·rw [tl8_bit m hm q hq] at h
    simp only [Bool.and_eq_true] at h
    exact hB q hq h.1
 ·have h0 : m = 0 := by
   have : (bsw m : Int) = 0 := by simpa using hc
   exact (bsw_zero m hm).1 (by omega)
  subst h0
  have hno : noHit K t.G k (pr t.n (K.hash k) i) := fun q hq hf => by
   rcases hA q hq hf with h | h
   ·simp at h
   ·exact h
  refine wp_exit ?_
  simp only [Exit.then, Exit.inBlock, if_true]
  refine rs hM ?_
  refine rw_callq cr90 rfl rfl (fun H' w hle hM => c90 hM (hle _ _ hS4) rfl) rfl ?_
  refine nck ?_
  refine rw_load ld145 rfl rfl rfl hg' (encG_ctrl hpi) ?_
  refine rw_callq cr120 rfl rfl (fun H' w hle hM => c120 hM _ hgr) rfl ?_
  refine asg ?_
  refine rw_nil ?_; intro w hM
  refine rs hM ?_
  refine mv ?_
  refine rw_bin rfl rfl rfl rfl (b_ne _ _) ?_
  refine rw_nil ?_; intro w hM
  refine wp_if (tmp_lt rfl) rfl (fun hc => ?_) (fun hc => ?_)
  ·refine rs hM ?_
   refine asg ?_
   refine asg ?_
   refine rw_nil ?_; intro w hM
   refine wp_ret ?_
   refine post_tmp2 (v := .pointer _) (v' := .bool _) rfl rfl rfl rfl rfl (keep ?_ (hM.mono hle'))
   rw [probe_stop hT.sl (i := i) (fun j hj => by
    rcases Nat.lt_or_ge j i with h | h
    ·exact (hprev j h).1
    ·rw [show j = i by omega]; exact hno) (empty_mask hT.sl hpi hc)]
   rfl
  ·refine wp_skip ?_
   simp only [Exit.then, Exit.inBlock]
   refine re hM ?_
   refine rw_loadA [.int .u64 _, .int .u64 _, .int .u64 _] ld180 rfl rfl rfl hseq rfl ?_
   refine rw_callq cr119 rfl rfl (fun H' w hle hM => c119 hM _ _ _ (by omega)) rfl ?_
   refine rw_store (v := .agg #[.int .u64 _, .int .u64 _, .int .u64 _]) sz180 rfl rfl rfl rfl hseq rfl rfl rfl (by nofun) (fun S3 hS3 kS3 => ?_)
   refine rw_nil ?_; intro w hM
   obtain ⟨hnx, hnx1⟩ := probe_next hT (K.hash k) i hi
   refine ⟨t.n - (i + 1), _, rfl, by omega, i + 1, S3, rfl, Know.of ⟨rfl, rfl, rfl, rfl, rfl, rfl, trivial⟩, hM, le_keep hle' n10 kS3, ?_, n10, fun j hj => ?_⟩
   ·rw [hS3, ← hnx, hnx1]; rfl
   ·rcases Nat.lt_or_ge j i with h | h
    ·exact hprev j h
    ·rw [show j = i by omega]; exact ⟨hno, empty_mask0 hT.sl hpi hc⟩
/-- What a look-up with the key hands back. -/
def keyRes (gb : Nat) : Option Nat → Value
 | none => .tuple #[.pointer none, .pointer none, .bool false]
 | some s => .tuple #[.pointer (some ⟨gb, 17 * (s / 8) + 1 + s % 8, none⟩), .pointer (some ⟨gb, 17 * (s / 8) + 9 + s % 8, none⟩), .bool true]
set_option maxHeartbeats 1000000 in
theorem c121 (hM : Mem w0 w H) (hD : HasDb w0) {K : KT} {E : Heap} {bty : Nat} {nu : Bool} (hE : E.le H) (T : TypOK K w0 E bty nu) {b : Nat} {t : Tb} (hb : H b = some (encT t)) (hg : H t.gb = some (encG t.n t.G)) (hT : TOK K t) {bk ok k : Nat} {obk : Obj} (hk : H bk = some obk) (hkc : objCell obk ok = some (u64 k)) (hkl : k < 2 ^ 64) :
  Calls Tryz.prog 121 [.pointer (some ⟨b, 0, none⟩), .pointer (some ⟨bty, 0, none⟩), u64 (K.hash k), .pointer (some ⟨bk, ok, none⟩)].toArray w (Keeps w0 H (keyRes t.gb (find K t.n t.G k))) := by
 have hn := hT.npos
 have hh := K.lt k
 obtain ⟨p, _, hp⟩ := hT.pow
 refine calls_start Tryz.func121 rfl Tryz.ntmps121 (Nat.le_of_ble_eq_true rfl) ?_
 refine rs hM ?_
 refine asg ?_
 refine asg ?_
 refine asg ?_
 refine rw_nil ?_; intro w hM
 refine wp_mix_seq [8, 9] [9] [0, 1, 2, 3, 4, 5, 6, 7, 8, 9] H mixed (by kernel_rfl) (Heap.le_refl _) hM ?_
 refine mv ?_
 refine rw_callq cr118 rfl rfl (fun H' w hle hM => c118 hM _) rfl ?_
 refine mv ?_
 refine nck ?_
 refine fa fr158_5 ?_
 refine fa fr156_1 ?_
 refine lo ld22 hb ?_
 refine rw_callq cr117 rfl rfl (fun H' w hle hM => c117 hM _ _ (by omega) (by omega)) rfl ?_
 refine rw_allocD Tryz.zeroValue180 rfl rfl rfl (Heap.le_refl _) (fun b11 G11 n11 l11 e11 k11 => ?_)
 refine rw_store (v := .agg #[.int .u64 _, .int .u64 _, .int .u64 _]) sz180 rfl rfl rfl rfl e11 rfl rfl rfl (fun _ => ⟨rfl, rfl⟩) (fun S1 hS1 kS1 => ?_)
 refine rw_nil ?_; intro w hM
 have hle := le_keep l11 n11 kS1
 refine rs hM ?_
 refine mv ?_
 refine rw_callq cr115 rfl rfl (fun H' w hle hM => c115 hM _ hh) rfl ?_
 refine asg ?_
 refine rw_nil ?_; intro w hM
 refine wp_block ?_
 refine wp_loop_s (Probing K t w0 H k b11 [(0, .pointer (some ⟨b, 0, none⟩)), (1, .pointer (some ⟨bty, 0, none⟩)), (2, u64 (K.hash k)), (3, .pointer (some ⟨bk, ok, none⟩)), (11, .pointer (some ⟨b11, 0, none⟩)), (12, u64 (K.hash k % 128))]) (t.n - 0) ?_ ?_
 ·refine ⟨0, S1, rfl, Know.of ⟨rfl, rfl, rfl, rfl, rfl, rfl, trivial⟩, hM, hle, ?_, n11, fun j hj => by omega⟩
  rw [hS1]
  have : pr t.n (K.hash k) 0 = K.hash k / 128 &&& (t.n - 1) := (pow_and hp).symm
  rw [this]; rfl
 clear hle hS1 kS1
 rintro m f w ⟨i, S, rfl, ⟨g0, rfl⟩, hM, hle, hS, n11, hprev⟩
 have hi : i < t.n := by
  obtain ⟨j, hj, hnp⟩ := hT.stops (K.hash k)
  rcases Nat.lt_or_ge j i with h | h
  ·exact absurd (hprev j h).2 hnp
  ·omega
 have hb' := hle _ _ hb
 refine wp_seq ?_
 refine wp_block ?_
 refine wp_mix_seq [7, 8] [8] [0, 1, 2, 3, 4, 5, 6, 7, 8] _ mixed (by kernel_rfl) (Heap.le_refl _) hM ?_
 refine mv ?_
 refine nck ?_
 refine fa fr158_5 ?_
 refine mv ?_
 refine fa fr180_1 ?_
 refine lo ld22 hS ?_
 refine rw_callq cr93 rfl rfl (fun H' w hle' hM => c93 hM (hle' _ _ hb') rfl (pr_lt hn.1 (K.hash k) i)) rfl ?_
 refine rw_allocD Tryz.zeroValue104 rfl rfl rfl (Heap.le_refl _) (fun b13 G13 n13 l13 e13 k13 => ?_)
 refine rw_store (v := .agg #[.pointer _]) sz104 rfl rfl rfl rfl e13 rfl rfl rfl (fun _ => ⟨rfl, rfl⟩) (fun S4 hS4 kS4 => ?_)
 refine rw_nil ?_; intro w hM
 have hleS := le_keep l13 n13 kS4
 have hle' := Heap.le_trans hle hleS
 have hg' := hle' _ _ hg
 have hseq := hleS _ _ hS
 have hgr := Gr.bytes hT.sl.ok (pr t.n (K.hash k) i)
 have hpi := pr_lt hn.1 (K.hash k) i
 obtain ⟨m0, hm0, hmA, hmB, hcall⟩ := c114w (t.G.at (pr t.n (K.hash k) i)) hgr (K.hash k % 128) (by omega)
 refine rs hM ?_
 refine rw_callq cr90 rfl rfl (fun H' w hle hM => c90 hM (hle _ _ hS4) rfl) rfl ?_
 refine nck ?_
 refine rw_load ld145 rfl rfl rfl hg' (encG_ctrl hpi) ?_
 refine mv ?_
 refine rw_callq cr114 rfl rfl (fun H' w hle hM => hcall hM) rfl ?_
 refine asg ?_
 refine rw_nil ?_; intro w hM
 refine wp_seq ?_
 refine wp_block ?_
 refine wp_loop_s (Matching K (t.G.at (pr t.n (K.hash k) i)) (fun q => t.G.k (8 * pr t.n (K.hash k) i + q)) w0 S4 k (fun m => [(0, .pointer (some ⟨b, 0, none⟩)), (1, .pointer (some ⟨bty, 0, none⟩)), (2, u64 (K.hash k)), (3, .pointer (some ⟨bk, ok, none⟩)), (11, .pointer (some ⟨b11, 0, none⟩)), (12, u64 (K.hash k % 128)), (13, .pointer (some ⟨b13, 0, none⟩)), (14, u64 (bsw m))])) m0 ?_ ?_
 ·refine ⟨hm0, Know.of ⟨rfl, rfl, rfl, rfl, rfl, rfl, rfl, rfl, trivial⟩, hM, fun q hq hf => ?_, fun q hq h => hmB q hq h⟩
  by_cases he : K.eqk k (t.G.k (8 * pr t.n (K.hash k) i + q)) = true
  ·refine .inl (hmA q hq ?_)
   have := hT.sl.h2 (8 * pr t.n (K.hash k) i + q) (by omega) hf
   rw [← K.hash_eq _ _ he] at this; exact this
  ·exact .inr (by simpa using he)
 clear hcall hmA hmB hm0
 rintro m f w ⟨hm, ⟨g1, rfl⟩, hM, hA, hB⟩
 refine wp_seq ?_
 refine rs hM ?_
 refine mv ?_
 refine rw_bin rfl rfl rfl rfl (b_ne _ _) ?_
 refine rw_nil ?_; intro w hM
 refine wp_if (tmp_lt rfl) rfl (fun hc => ?_) (fun hc => ?_)
 ·have h0 : m ≠ 0 := fun e => by subst e; simp [bsw, word, wl] at hc
  refine wp_skip ?_
  refine wp_block ?_
  have hlow := low_lt m
  have hin := low_in m hm h0
  have hE' := Heap.le_trans hE hle'
  have hkey : objCell (encG t.n t.G) (17 * pr t.n (K.hash k) i + 1 + low m) = some (u64 (t.G.k (8 * pr t.n (K.hash k) i + low m))) := encG_key hpi hlow
  refine rs hM ?_
  refine mv ?_
  refine rw_callq cr103 rfl rfl (fun H' w hle hM => c103 hM hD hm h0) rfl ?_
  refine asg ?_
  refine rw_nil ?_; intro w hM
  refine rs hM ?_
  refine mv ?_
  refine mv ?_
  refine rw_callq cr96 rfl rfl (fun H' w hle hM => c96 hM (hle _ _ hS4) rfl hlow) rfl ?_
  refine asg ?_
  refine rw_nil ?_; intro w hM
  refine wp_seq ?_
  refine rs hM ?_
  refine mv ?_
  refine nck ?_
  refine fa fr88_1 ?_
  refine lo ld86 (hE' _ _ T.typ) ?_
  refine mv ?_
  refine mv ?_
  refine rw_callvq (captured := []) T.cre rfl rfl rfl (fun H' w hle hM => T.equal hM (Heap.le_trans hE' hle) (hle _ _ (hle' _ _ hk)) hkc hkl (hle _ _ hg') hkey (hT.sl.ok.2.1 _)) rfl ?_
  refine rw_nil ?_; intro w hM
  refine wp_if (tmp_lt rfl) rfl (fun he => ?_) (fun he => ?_)
  ·refine rs hM ?_
   refine mv ?_
   refine mv ?_
   refine rw_callq cr98 rfl rfl (fun H' w hle hM => c98 hM (hle _ _ hS4) rfl hlow) rfl ?_
   refine asg ?_
   refine rw_nil ?_; intro w hM
   refine rs hM ?_
   refine mv ?_
   refine mv ?_
   refine asg ?_
   refine asg ?_
   refine asg ?_
   refine rw_nil ?_; intro w hM
   refine wp_ret ?_
   have hf := find_some hT.sl (show 8 * pr t.n (K.hash k) i + low m < 8 * t.n by omega) (hB _ hlow hin) he
   refine post_tmp3 (v := .pointer _) (v' := .pointer _) (v'' := .bool _) rfl rfl rfl rfl rfl rfl rfl (keep ?_ (hM.mono hle'))
   rw [hf]
   simp only [keyRes, show (8 * pr t.n (K.hash k) i + low m) / 8 = pr t.n (K.hash k) i from by omega, show (8 * pr t.n (K.hash k) i + low m) % 8 = low m from by omega]
  ·refine wp_skip ?_
   refine re hM ?_
   refine mv ?_
   refine rw_callq cr104 rfl rfl (fun H' w hle hM => c104 hM hm h0) rfl ?_
   refine asg ?_
   refine rw_nil ?_; intro w hM
   refine ⟨tl8 m, _, rfl, tl8_less m hm h0, tl8_lt m hm, Know.of ⟨rfl, rfl, rfl, rfl, rfl, rfl, rfl, rfl, trivial⟩, hM, fun q hq hf => ?_, fun q hq h => ?_⟩
   ·rcases hA q hq hf with h | h
    ·by_cases e : q = low m
     ·subst e; exact .inr he
     ·refine .inl ?_
      rw [tl8_bit m hm q hq, h, nat_beq_f.2 e]; rfl
    ·exact .inr h
   ·rw [tl8_bit m hm q hq] at h
    simp only [Bool.and_eq_true] at h
    exact hB q hq h.1
 ·have h0 : m = 0 := by
   have : (bsw m : Int) = 0 := by simpa using hc
   exact (bsw_zero m hm).1 (by omega)
  subst h0
  have hno : noHit K t.G k (pr t.n (K.hash k) i) := fun q hq hf => by
   rcases hA q hq hf with h | h
   ·simp at h
   ·exact h
  refine wp_exit ?_
  simp only [Exit.then, Exit.inBlock, if_true]
  refine rs hM ?_
  refine rw_callq cr90 rfl rfl (fun H' w hle hM => c90 hM (hle _ _ hS4) rfl) rfl ?_
  refine nck ?_
  refine rw_load ld145 rfl rfl rfl hg' (encG_ctrl hpi) ?_
  refine rw_callq cr120 rfl rfl (fun H' w hle hM => c120 hM _ hgr) rfl ?_
  refine asg ?_
  refine rw_nil ?_; intro w hM
  refine rs hM ?_
  refine mv ?_
  refine rw_bin rfl rfl rfl rfl (b_ne _ _) ?_
  refine rw_nil ?_; intro w hM
  refine wp_if (tmp_lt rfl) rfl (fun hc => ?_) (fun hc => ?_)
  ·refine rs hM ?_
   refine asg ?_
   refine asg ?_
   refine asg ?_
   refine rw_nil ?_; intro w hM
   refine wp_ret ?_
   refine post_tmp3 (v := .pointer _) (v' := .pointer _) (v'' := .bool _) rfl rfl rfl rfl rfl rfl rfl (keep ?_ (hM.mono hle'))
   rw [probe_stop hT.sl (i := i) (fun j hj => by
    rcases Nat.lt_or_ge j i with h | h
    ·exact (hprev j h).1
    ·rw [show j = i by omega]; exact hno) (empty_mask hT.sl hpi hc)]
   rfl
  ·refine wp_skip ?_
   simp only [Exit.then, Exit.inBlock]
   refine re hM ?_
   refine rw_loadA [.int .u64 _, .int .u64 _, .int .u64 _] ld180 rfl rfl rfl hseq rfl ?_
   refine rw_callq cr119 rfl rfl (fun H' w hle hM => c119 hM _ _ _ (by omega)) rfl ?_
   refine rw_store (v := .agg #[.int .u64 _, .int .u64 _, .int .u64 _]) sz180 rfl rfl rfl rfl hseq rfl rfl rfl (by nofun) (fun S3 hS3 kS3 => ?_)
   refine rw_nil ?_; intro w hM
   obtain ⟨hnx, hnx1⟩ := probe_next hT (K.hash k) i hi
   refine ⟨t.n - (i + 1), _, rfl, by omega, i + 1, S3, rfl, Know.of ⟨rfl, rfl, rfl, rfl, rfl, rfl, trivial⟩, hM, le_keep hle' n11 kS3, ?_, n11, fun j hj => ?_⟩
   ·rw [hS3, ← hnx, hnx1]; rfl
   ·rcases Nat.lt_or_ge j i with h | h
    ·exact hprev j h
    ·rw [show j = i by omega]; exact ⟨hno, empty_mask0 hT.sl hpi hc⟩
end
section
variable {w0 w : World} {H : Heap}
theorem c112 (hM : Mem w0 w H) (hD : HasDb w0) {K : KT} {E : Heap} {bty : Nat} {nu : Bool} (hE : E.le H) (T : TypOK K w0 E bty nu) {bm sg : Nat} {m : Mp} {G : Gr} (hb : H bm = some (encM m)) (hs : m.small = some ⟨sg, 0, none⟩) (hg : H sg = some (encG 1 G)) (hG : SlotsOK K 1 G) {bk ok k : Nat} {obk : Obj} (hk : H bk = some obk) (hkc : objCell obk ok = some (u64 k)) (hkl : k < 2 ^ 64) :
  Calls Tryz.prog 112 [.pointer (some ⟨bm, 0, none⟩), .pointer (some ⟨bty, 0, none⟩), u64 (K.hash k), .pointer (some ⟨bk, ok, none⟩)].toArray w (Keeps w0 H (keyRes sg (find K 1 G k))) := by
 have hh := K.lt k
 have hgr := Gr.bytes hG.ok 0
 obtain ⟨m0, hm0, hmA, hmB, hcall⟩ := c114w (G.at 0) hgr (K.hash k % 128) (by omega)
 refine calls_start Tryz.func112 rfl Tryz.ntmps112 (Nat.le_of_ble_eq_true rfl) ?_
 refine rs hM ?_
 refine asg ?_
 refine asg ?_
 refine asg ?_
 refine rw_nil ?_; intro w hM
 refine rs hM ?_
 refine mv ?_
 refine nck ?_
 refine fa fr132_2 ?_
 refine rw_load (v := .pointer (some ⟨sg, 0, none⟩)) ld102 rfl rfl rfl hb (by rw [← hs]; rfl) ?_
 refine rw_build (bd104_0 _) rfl rfl rfl ?_
 refine rw_allocN Tryz.zeroValue104 rfl rfl (fun b11 G11 n11 l11 e11 k11 => ?_)
 refine rw_store (v := .agg #[.pointer _]) sz104 rfl rfl rfl rfl e11 rfl rfl rfl (by nofun) (fun S1 hS1 kS1 => ?_)
 refine rw_nil ?_; intro w hM
 have hle := le_keep l11 n11 kS1
 have hg' := hle _ _ hg
 have hE' := Heap.le_trans hE hle
 refine wp_mix_seq [] [] [0, 1, 2, 3, 4, 5, 6] _ mixed (by kernel_rfl) (Heap.le_refl _) hM ?_
 refine rw_callq cr90 rfl rfl (fun H' w hle hM => c90 hM (hle _ _ hS1) rfl) rfl ?_
 refine nck ?_
 refine rw_load ld145 rfl rfl rfl hg' (encG_ctrl (g := 0) (by omega)) ?_
 refine mv ?_
 refine rw_callq cr115 rfl rfl (fun H' w hle hM => c115 hM _ hh) rfl ?_
 refine rw_callq cr114 rfl rfl (fun H' w hle hM => hcall hM) rfl ?_
 refine asg ?_
 refine rw_nil ?_; intro w hM
 refine wp_seq ?_
 refine wp_block ?_
 refine wp_loop_s (Matching K (G.at 0) (fun q => G.k (8 * 0 + q)) w0 S1 k (fun m => [(0, .pointer (some ⟨bm, 0, none⟩)), (1, .pointer (some ⟨bty, 0, none⟩)), (2, u64 (K.hash k)), (3, .pointer (some ⟨bk, ok, none⟩)), (11, .pointer (some ⟨b11, 0, none⟩)), (12, u64 (bsw m))])) m0 ?_ ?_
 ·refine ⟨hm0, Know.of ⟨rfl, rfl, rfl, rfl, rfl, rfl, trivial⟩, hM, fun q hq hf => ?_, fun q hq h => hmB q hq h⟩
  by_cases he : K.eqk k (G.k (8 * 0 + q)) = true
  ·refine .inl (hmA q hq ?_)
   have := hG.h2 (8 * 0 + q) (by omega) hf
   rw [← K.hash_eq _ _ he] at this; exact this
  ·exact .inr (by simpa using he)
 clear hcall hmA hmB hm0
 rintro m f w ⟨hm, ⟨g1, rfl⟩, hM, hA, hB⟩
 refine wp_seq ?_
 refine rs hM ?_
 refine mv ?_
 refine rw_bin rfl rfl rfl rfl (b_ne _ _) ?_
 refine rw_nil ?_; intro w hM
 refine wp_if (tmp_lt rfl) rfl (fun hc => ?_) (fun hc => ?_)
 ·have h0 : m ≠ 0 := fun e => by subst e; simp [bsw, word, wl] at hc
  refine wp_skip ?_
  refine wp_block ?_
  have hlow := low_lt m
  have hin := low_in m hm h0
  have hkey : objCell (encG 1 G) (17 * 0 + 1 + low m) = some (u64 (G.k (8 * 0 + low m))) := encG_key (by omega) hlow
  refine rs hM ?_
  refine mv ?_
  refine rw_callq cr103 rfl rfl (fun H' w hle hM => c103 hM hD hm h0) rfl ?_
  refine asg ?_
  refine rw_nil ?_; intro w hM
  refine rs hM ?_
  refine mv ?_
  refine mv ?_
  refine rw_callq cr96 rfl rfl (fun H' w hle hM => c96 hM (hle _ _ hS1) rfl hlow) rfl ?_
  refine asg ?_
  refine rw_nil ?_; intro w hM
  refine wp_seq ?_
  refine rs hM ?_
  refine mv ?_
  refine nck ?_
  refine fa fr88_1 ?_
  refine lo ld86 (hE' _ _ T.typ) ?_
  refine mv ?_
  refine mv ?_
  refine rw_callvq (captured := []) T.cre rfl rfl rfl (fun H' w hle2 hM => T.equal hM (Heap.le_trans hE' hle2) (hle2 _ _ (hle _ _ hk)) hkc hkl (hle2 _ _ hg') hkey (hG.ok.2.1 _)) rfl ?_
  refine rw_nil ?_; intro w hM
  refine wp_if (tmp_lt rfl) rfl (fun he => ?_) (fun he => ?_)
  ·refine rs hM ?_
   refine mv ?_
   refine mv ?_
   refine rw_callq cr98 rfl rfl (fun H' w hle hM => c98 hM (hle _ _ hS1) rfl hlow) rfl ?_
   refine asg ?_
   refine rw_nil ?_; intro w hM
   refine rs hM ?_
   refine mv ?_
   refine mv ?_
   refine asg ?_
   refine asg ?_
   refine asg ?_
   refine rw_nil ?_; intro w hM
   refine wp_ret ?_
   have hf := find_some hG (show 8 * 0 + low m < 8 * 1 by omega) (hB _ hlow hin) he
   refine post_tmp3 (v := .pointer _) (v' := .pointer _) (v'' := .bool _) rfl rfl rfl rfl rfl rfl rfl (keep ?_ (hM.mono hle))
   rw [hf]
   simp only [keyRes, show (8 * 0 + low m) / 8 = 0 from by omega, show (8 * 0 + low m) % 8 = low m from by omega]
  ·refine wp_skip ?_
   refine re hM ?_
   refine mv ?_
   refine rw_callq cr104 rfl rfl (fun H' w hle hM => c104 hM hm h0) rfl ?_
   refine asg ?_
   refine rw_nil ?_; intro w hM
   refine ⟨tl8 m, _, rfl, tl8_less m hm h0, tl8_lt m hm, Know.of ⟨rfl, rfl, rfl, rfl, rfl, rfl, trivial⟩, hM, fun q hq hf => ?_, fun q hq h => ?_⟩
   ·rcases hA q hq hf with h | h
    ·by_cases e : q = low m
     ·subst e; exact .inr he
     ·refine .inl ?_
      rw [tl8_bit m hm q hq, h, nat_beq_f.2 e]; rfl
    ·exact .inr h
   ·rw [tl8_bit m hm q hq] at h
    simp only [Bool.and_eq_true] at h
    exact hB q hq h.1
 ·have h0 : m = 0 := by
   have : (bsw m : Int) = 0 := by simpa using hc
   exact (bsw_zero m hm).1 (by omega)
  subst h0
  have hno : find K 1 G k = none := find_none fun s hs hf => by
   have e : s = 8 * 0 + s := by omega
   rw [e] at hf ⊢
   rcases hA s (by omega) hf with h | h
   ·simp at h
   ·exact h
  refine wp_exit ?_
  simp only [Exit.then, Exit.inBlock, if_true]
  refine rs hM ?_
  refine asg ?_
  refine asg ?_
  refine asg ?_
  refine rw_nil ?_; intro w hM
  refine wp_ret ?_
  refine post_tmp3 (v := .pointer _) (v' := .pointer _) (v'' := .bool _) rfl rfl rfl rfl rfl rfl rfl (keep ?_ (hM.mono hle))
  rw [hno]; rfl
end
section
variable {w0 w : World} {H : Heap}
theorem free_mask {K : KT} {n g : Nat} {G : Gr} (hS : SlotsOK K n G) (hg : g < n) (hnd : ∀ s, s < 8 * n → G.c s ≠ 254) (h : ((bsw (mk8 fun q => decide (128 ≤ G.at g q)) : Int) != 0) = true) :
  mk8 (fun q => decide (128 ≤ G.at g q)) ≠ 0 ∧ G.c (8 * g + low (mk8 fun q => decide (128 ≤ G.at g q))) = 128 := by
 have h0 : mk8 (fun q => decide (128 ≤ G.at g q)) ≠ 0 := fun e => by rw [e] at h; simp [bsw, word, wl] at h
 have h1 := low_in _ (mk8_lt _) h0
 have h2 := low_lt (mk8 fun q => decide (128 ≤ G.at g q))
 rw [mk8_bit _ _ h2] at h1
 have h3 : 128 ≤ G.c (8 * g + low (mk8 fun q => decide (128 ≤ G.at g q))) := of_decide_eq_true h1
 refine ⟨h0, ?_⟩
 rcases hS.st (8 * g + low (mk8 fun q => decide (128 ≤ G.at g q))) (by omega) with h4 | h4 | h4
 ·omega
 ·exact h4
 ·exact absurd h4 (hnd _ (by omega))
theorem free_mask0 {G : Gr} {g : Nat} (h : ((bsw (mk8 fun q => decide (128 ≤ G.at g q)) : Int) != 0) = false) : ∀ q, q < 8 → G.c (8 * g + q) < 128 := by
 intro q hq
 have h0 : bsw (mk8 fun q => decide (128 ≤ G.at g q)) = 0 := by simpa using h
 have h1 := (bsw_zero _ (mk8_lt _)).1 h0
 have h2 := mk8_bit (fun q => decide (128 ≤ G.at g q)) q hq
 rw [h1] at h2
 have h3 : ¬ 128 ≤ G.c (8 * g + q) := of_decide_eq_false (by rw [← show Nat.testBit 0 q = false from by simp]; exact h2.symm)
 omega
theorem upd2_le {H S : Heap} {b b' : Nat} {o o' : Obj} (h1 : S b = some o) (h2 : S b' = some o') (h3 : ∀ x u, H x = some u → x ≠ b → x ≠ b' → S x = some u) (hne : b ≠ b') : ((H.upd b o).upd b' o').le S := fun x u e => by
 by_cases e2 : x = b'
 ·subst e2; rw [Heap.upd_same] at e; cases e; exact h2
 ·rw [Heap.upd_ne _ _ e2] at e
  by_cases e1 : x = b
  ·subst e1; rw [Heap.upd_same] at e; cases e; exact h1
  ·rw [Heap.upd_ne _ _ e1] at e; exact h3 x u e e1 e2
/-- What the loop over the probes knows in round i. -/
def Seeking (t : Tb) (w0 : World) (H : Heap) (h b10 : Nat) (l : List (Nat × Value)) (m : Nat) (f : Slots) (w : World) : Prop :=
 ∃ i S, m = t.n - i ∧ Know f l ∧ Mem w0 w S ∧ H.le S ∧ S b10 = some (.cells #[u64 (t.n - 1), u64 (pr t.n h i), u64 i] 180 (0, 0)) ∧ H b10 = none ∧ ∀ j, j < i → ∀ q, q < 8 → t.G.c (8 * pr t.n h j + q) < 128
set_option maxHeartbeats 1000000 in
theorem c127 (hM : Mem w0 w H) (hD : HasDb w0) {K : KT} {x : Option Addr} {b : Nat} {t : Tb} (hb : H b = some (encT t)) (hg : H t.gb = some (encG t.n t.G)) (hbg : b ≠ t.gb) (hT : TOK K t) (hnd : ∀ s, s < 8 * t.n → t.G.c s ≠ 254) (hgl : 0 < t.gl)
  {bk ok k : Nat} {obk : Obj} (hk : H bk = some obk) (hkc : objCell obk ok = some (u64 k)) (_ : bk ≠ t.gb) {be oe : Nat} {e : Int} {obe : Obj} (he : H be = some obe) (hec : objCell obe oe = some (i64 e)) (heg : be ≠ t.gb) (hkl : k < 2 ^ 64) (hel : InI64 e) :
  Calls Tryz.prog 127 [.pointer (some ⟨b, 0, none⟩), .pointer x, u64 (K.hash k), .pointer (some ⟨bk, ok, none⟩), .pointer (some ⟨be, oe, none⟩)].toArray w
   (fun r w' => r = .returned (.tuple #[]) ∧ ∃ s, PutAt t.n t.G (K.hash k) s ∧ t.G.c s = 128 ∧
    Mem w0 w' ((H.upd b (encT { t with used := t.used + 1, gl := t.gl - 1, G := t.G.put s k e (K.hash k % 128) })).upd t.gb (encG t.n (t.G.put s k e (K.hash k % 128))))) := by
 have hn := hT.npos
 have hh := K.lt k
 obtain ⟨p, _, hp⟩ := hT.pow
 have hroom := hT.room
 have hGok : ∀ s, ((t.G.setK s k).setE s e).ok := fun s => ⟨hT.sl.ok.1, (Gr.ok_put (b := 0) hT.sl.ok hkl hel (by omega) : (t.G.put s k e 0).ok).2.1, (Gr.ok_put (b := 0) hT.sl.ok hkl hel (by omega) : (t.G.put s k e 0).ok).2.2⟩
 have hgl0 : ((t.gl : Int) == 0) = false := by simp; omega
 refine calls_start Tryz.func127 rfl Tryz.ntmps127 (Nat.le_of_ble_eq_true rfl) ?_
 refine wp_seq ?_
 refine rs hM ?_
 refine mv ?_
 refine nck ?_
 refine fa fr158_2 ?_
 refine lo ld152 hb ?_
 refine rw_bin rfl rfl rfl rfl (b_false (b_eq _ _) hgl0) ?_
 refine rw_nil ?_; intro w hM
 refine wp_if (tmp_lt rfl) rfl (by nofun) (fun hc => ?_)
 refine wp_skip ?_
 refine wp_mix_seq [8, 9] [9] [0, 1, 2, 3, 4, 5, 6, 7, 8, 9] H mixed (by kernel_rfl) (Heap.le_refl _) hM ?_
 refine mv ?_
 refine rw_callq cr118 rfl rfl (fun H' w hle hM => c118 hM _) rfl ?_
 refine mv ?_
 refine nck ?_
 refine fa fr158_5 ?_
 refine fa fr156_1 ?_
 refine lo ld22 hb ?_
 refine rw_callq cr117 rfl rfl (fun H' w hle hM => c117 hM _ _ (by omega) (by omega)) rfl ?_
 refine rw_allocD Tryz.zeroValue180 rfl rfl rfl (Heap.le_refl _) (fun b10 G10 n10 l10 e10 k10 => ?_)
 refine rw_store (v := .agg #[.int .u64 _, .int .u64 _, .int .u64 _]) sz180 rfl rfl rfl rfl e10 rfl rfl rfl (fun _ => ⟨rfl, rfl⟩) (fun S2 hS2 kS2 => ?_)
 refine rw_nil ?_; intro w hM
 have hle := le_keep l10 n10 kS2
 refine wp_block ?_
 refine wp_loop_s (Seeking t w0 H (K.hash k) b10 [(0, .pointer (some ⟨b, 0, none⟩)), (1, .pointer x), (2, u64 (K.hash k)), (3, .pointer (some ⟨bk, ok, none⟩)), (4, .pointer (some ⟨be, oe, none⟩)), (10, .pointer (some ⟨b10, 0, none⟩))]) (t.n - 0) ?_ ?_
 ·refine ⟨0, S2, rfl, Know.of ⟨rfl, rfl, rfl, rfl, rfl, rfl, trivial⟩, hM, hle, ?_, n10, fun j hj => by omega⟩
  rw [hS2]
  have : pr t.n (K.hash k) 0 = K.hash k / 128 &&& (t.n - 1) := (pow_and hp).symm
  rw [this]; rfl
 clear hle hS2 kS2
 rintro m f w ⟨i, S, rfl, ⟨g0, rfl⟩, hM, hle, hS, n10, hprev⟩
 have hi : i < t.n := by
  obtain ⟨j, hj, hnp⟩ := hT.stops (K.hash k)
  rcases Nat.lt_or_ge j i with h | h
  ·exact absurd (fun q hq => by have := hprev j h q hq; omega) hnp
  ·omega
 have hb' := hle _ _ hb
 refine wp_seq ?_
 refine wp_block ?_
 refine wp_mix_seq [7, 8] [8] [0, 1, 2, 3, 4, 5, 6, 7, 8] _ mixed (by kernel_rfl) (Heap.le_refl _) hM ?_
 refine mv ?_
 refine nck ?_
 refine fa fr158_5 ?_
 refine mv ?_
 refine fa fr180_1 ?_
 refine lo ld22 hS ?_
 refine rw_callq cr93 rfl rfl (fun H' w hle' hM => c93 hM (hle' _ _ hb') rfl (pr_lt hn.1 (K.hash k) i)) rfl ?_
 refine rw_allocD Tryz.zeroValue104 rfl rfl rfl (Heap.le_refl _) (fun b11 G11 n11 l11 e11 k11 => ?_)
 refine rw_store (v := .agg #[.pointer _]) sz104 rfl rfl rfl rfl e11 rfl rfl rfl (fun _ => ⟨rfl, rfl⟩) (fun S4 hS4 kS4 => ?_)
 refine rw_nil ?_; intro w hM
 have hleS := le_keep l11 n11 kS4
 have hle' := Heap.le_trans hle hleS
 have hg' := hle' _ _ hg
 have hb'' := hle' _ _ hb
 have hseq := hleS _ _ hS
 have hgr := Gr.bytes hT.sl.ok (pr t.n (K.hash k) i)
 have hpi := pr_lt hn.1 (K.hash k) i
 refine rs hM ?_
 refine rw_callq cr90 rfl rfl (fun H' w hle hM => c90 hM (hle _ _ hS4) rfl) rfl ?_
 refine nck ?_
 refine rw_load ld145 rfl rfl rfl hg' (encG_ctrl hpi) ?_
 refine rw_callq cr126 rfl rfl (fun H' w hle hM => c126 hM _ hgr) rfl ?_
 refine asg ?_
 refine rw_nil ?_; intro w hM
 refine rs hM ?_
 refine mv ?_
 refine rw_bin rfl rfl rfl rfl (b_ne _ _) ?_
 refine rw_nil ?_; intro w hM
 refine wp_if (tmp_lt rfl) rfl (fun hc => ?_) (fun hc => ?_)
 ·obtain ⟨h0, h128⟩ := free_mask hT.sl hpi hnd hc
  have hlow := low_lt (mk8 fun q => decide (128 ≤ t.G.at (pr t.n (K.hash k) i) q))
  generalize hq : low (mk8 fun q => decide (128 ≤ t.G.at (pr t.n (K.hash k) i) q)) = q at h128 hlow
  have hne : b11 ≠ t.gb := fun e1 => by rw [e1] at n11; rw [hle _ _ hg] at n11; cases n11
  have hneb : b11 ≠ b := fun e1 => by rw [e1] at n11; rw [hb'] at n11; cases n11
  refine rs hM ?_
  refine mv ?_
  refine rw_callq cr103 rfl rfl (fun H' w hle hM => hq ▸ c103 hM hD (mk8_lt _) h0) rfl ?_
  refine asg ?_
  refine rw_nil ?_; intro w hM
  refine rs hM ?_
  refine mv ?_
  refine mv ?_
  refine rw_callq cr96 rfl rfl (fun H' w hle hM => c96 hM (hle _ _ hS4) rfl hlow) rfl ?_
  refine asg ?_
  refine rw_nil ?_; intro w hM
  refine rs hM ?_
  refine mv ?_
  refine mv ?_
  refine nck ?_
  refine rw_load ld84 rfl rfl rfl (hle' _ _ hk) hkc ?_
  refine nck ?_
  refine rw_storeE (v := .int .u64 _) (c' := arrG t.n (t.G.setK (8 * pr t.n (K.hash k) i + q) k)) sz84 rfl rfl rfl rfl hg' (arrG_setK hpi hlow) (by rw [arrG_size]; omega) rfl (by nofun) (fun S9 hS9 kS9 => ?_)
  refine rw_nil ?_; intro w hM
  have h9 := (kS9 _ hne).trans hS4
  refine rs hM ?_
  refine mv ?_
  refine mv ?_
  refine rw_callq cr98 rfl rfl (fun H' w hle hM => c98 hM (hle _ _ h9) rfl hlow) rfl ?_
  refine asg ?_
  refine rw_nil ?_; intro w hM
  refine rs hM ?_
  refine mv ?_
  refine mv ?_
  refine nck ?_
  refine rw_load ld125 rfl rfl rfl ((kS9 _ heg).trans (hle' _ _ he)) hec ?_
  refine nck ?_
  refine rw_storeE (v := .int .i64 _) (c' := arrG t.n ((t.G.setK (8 * pr t.n (K.hash k) i + q) k).setE (8 * pr t.n (K.hash k) i + q) e)) sz125 rfl rfl rfl rfl hS9 (arrG_setE hpi hlow) (by rw [arrG_size]; omega) rfl (by nofun) (fun S11 hS11 kS11 => ?_)
  refine rw_nil ?_; intro w hM
  have hb11 := (kS11 _ hbg).trans ((kS9 _ hbg).trans hb'')
  refine rs hM ?_
  refine mv ?_
  refine nck ?_
  refine fa fr158_2 ?_
  refine lo ld152 hb11 ?_
  refine rw_bin rfl rfl rfl rfl (b_sub16 _ 1 (by omega) (by omega)) ?_
  refine nck ?_
  refine fa fr158_2 ?_
  refine rw_store1 (v := .int .u16 _) sz152 rfl rfl rfl rfl hb11 rfl rfl (by nofun) (fun S12 hS12 kS12 => ?_)
  refine rw_nil ?_; intro w hM
  refine rs hM ?_
  refine mv ?_
  refine nck ?_
  refine fa fr158_0 ?_
  refine lo ld152 hS12 ?_
  refine rw_bin rfl rfl rfl rfl (b_add16 _ 1 (by omega)) ?_
  refine nck ?_
  refine fa fr158_0 ?_
  refine rw_store1 (v := .int .u16 _) sz152 rfl rfl rfl rfl hS12 rfl rfl (by nofun) (fun S13 hS13 kS13 => ?_)
  refine rw_nil ?_; intro w hM
  have hg13 := (kS13 _ hbg.symm).trans ((kS12 _ hbg.symm).trans hS11)
  have h13 := (kS13 _ hneb).trans ((kS12 _ hneb).trans ((kS11 _ hne).trans h9))
  have hokG : ((t.G.setK (8 * pr t.n (K.hash k) i + q) k).setE (8 * pr t.n (K.hash k) i + q) e).ok := hGok _
  refine rs hM ?_
  refine rw_callq cr90 rfl rfl (fun H' w hle hM => c90 hM (hle _ _ h13) rfl) rfl ?_
  refine mv ?_
  refine mv ?_
  refine rw_callq cr115 rfl rfl (fun H' w hle hM => c115 hM _ hh) rfl ?_
  refine rw_conv rfl rfl rfl (c_u8 Tryz.underlying12 Tryz.underlying160 _) ?_
  refine rw_callS cr116 rfl rfl (fun w hM => c116 hM hokG hg13 hpi hlow (by omega)) rfl (by nofun) (fun S14 hS14 kS14 => ?_)
  refine rw_nil ?_; intro w hM
  refine wp_ret ?_
  simp only [Exit.then, Exit.inBlock]
  refine post_none' rfl ?_
  refine ⟨rfl, 8 * pr t.n (K.hash k) i + q, ⟨by omega, .inl h128, i, hi, by omega, fun j hj q hq => by have := hprev j hj q hq; omega⟩, h128, hM.mono (upd2_le ?_ ?_ ?_ hbg)⟩
  ·rw [kS14 _ hbg, hS13]; rfl
  ·rw [hS14, show K.hash k % 128 % 256 = K.hash k % 128 from by omega]; rfl
  ·intro y u hy h1 h2
   rw [kS14 _ h2, kS13 _ h1, kS12 _ h1, kS11 _ h2, kS9 _ h2]; exact hle' _ _ hy
 ·refine wp_skip ?_
  simp only [Exit.then, Exit.inBlock]
  refine re hM ?_
  refine rw_loadA [.int .u64 _, .int .u64 _, .int .u64 _] ld180 rfl rfl rfl hseq rfl ?_
  refine rw_callq cr119 rfl rfl (fun H' w hle hM => c119 hM _ _ _ (by omega)) rfl ?_
  refine rw_store (v := .agg #[.int .u64 _, .int .u64 _, .int .u64 _]) sz180 rfl rfl rfl rfl hseq rfl rfl rfl (by nofun) (fun S3 hS3 kS3 => ?_)
  refine rw_nil ?_; intro w hM
  obtain ⟨hnx, hnx1⟩ := probe_next hT (K.hash k) i hi
  refine ⟨t.n - (i + 1), _, rfl, by omega, i + 1, S3, rfl, Know.of ⟨rfl, rfl, rfl, rfl, rfl, rfl, trivial⟩, hM, le_keep hle' n10 kS3, ?_, n10, fun j hj => ?_⟩
  ·rw [hS3, ← hnx, hnx1]; rfl
  ·rcases Nat.lt_or_ge j i with h | h
   ·exact hprev j h
   ·rw [show j = i by omega]; exact free_mask0 hc
end
section
variable {w0 w : World} {H : Heap}
set_option maxHeartbeats 1000000 in
theorem c110 (hM : Mem w0 w H) (hD : HasDb w0) {K : KT} {x : Option Addr} {b : Nat} {t : Tb} (hb : H b = some (encT t)) (hg : H t.gb = some (encG t.n t.G)) (hbg : b ≠ t.gb) (hT : TOK K t) (hnd : ∀ s, s < 8 * t.n → t.G.c s ≠ 254) (hgl : 0 < t.gl)
  {bk ok k : Nat} {obk : Obj} (hk : H bk = some obk) (hkc : objCell obk ok = some (u64 k)) (hkl : k < 2 ^ 64) :
  Calls Tryz.prog 110 [.pointer (some ⟨b, 0, none⟩), .pointer x, u64 (K.hash k), .pointer (some ⟨bk, ok, none⟩)].toArray w
   (fun r w' => ∃ s, r = .returned (.pointer (some ⟨t.gb, 17 * (s / 8) + 9 + s % 8, none⟩)) ∧ PutAt t.n t.G (K.hash k) s ∧ t.G.c s = 128 ∧
    Mem w0 w' ((H.upd b (encT { t with used := t.used + 1, gl := t.gl - 1, G := t.G.put s k (t.G.e s) (K.hash k % 128) })).upd t.gb (encG t.n (t.G.put s k (t.G.e s) (K.hash k % 128))))) := by
 have hn := hT.npos
 have hh := K.lt k
 obtain ⟨p, _, hp⟩ := hT.pow
 have hroom := hT.room
 have hsame : ∀ s, (t.G.setK s k).setE s (t.G.e s) = t.G.setK s k := fun s => by
  simp only [Gr.setE, Gr.setK, Gr.mk.injEq, true_and]
  funext u; split
  ·subst u; rfl
  ·rfl
 have hGok : ∀ s, (t.G.setK s k).ok := fun s => ⟨hT.sl.ok.1, fun u => by
  show (if u = s then k else t.G.k u) < _
  split
  ·exact hkl
  ·exact hT.sl.ok.2.1 u, hT.sl.ok.2.2⟩
 have hgl0 : ((t.gl : Int) == 0) = false := by simp; omega
 refine calls_start Tryz.func110 rfl Tryz.ntmps110 (Nat.le_of_ble_eq_true rfl) ?_
 refine rs hM ?_
 refine asg ?_
 refine rw_nil ?_; intro w hM
 refine wp_seq ?_
 refine rs hM ?_
 refine mv ?_
 refine nck ?_
 refine fa fr158_2 ?_
 refine lo ld152 hb ?_
 refine rw_bin rfl rfl rfl rfl (b_false (b_eq _ _) hgl0) ?_
 refine rw_nil ?_; intro w hM
 refine wp_if (tmp_lt rfl) rfl (by nofun) (fun hc => ?_)
 refine wp_skip ?_
 refine wp_mix_seq [8, 9] [9] [0, 1, 2, 3, 4, 5, 6, 7, 8, 9] H mixed (by kernel_rfl) (Heap.le_refl _) hM ?_
 refine mv ?_
 refine rw_callq cr118 rfl rfl (fun H' w hle hM => c118 hM _) rfl ?_
 refine mv ?_
 refine nck ?_
 refine fa fr158_5 ?_
 refine fa fr156_1 ?_
 refine lo ld22 hb ?_
 refine rw_callq cr117 rfl rfl (fun H' w hle hM => c117 hM _ _ (by omega) (by omega)) rfl ?_
 refine rw_allocD Tryz.zeroValue180 rfl rfl rfl (Heap.le_refl _) (fun b9 G9 n9 l9 e9 k9 => ?_)
 refine rw_store (v := .agg #[.int .u64 _, .int .u64 _, .int .u64 _]) sz180 rfl rfl rfl rfl e9 rfl rfl rfl (fun _ => ⟨rfl, rfl⟩) (fun S3 hS3 kS3 => ?_)
 refine rw_nil ?_; intro w hM
 have hle := le_keep l9 n9 kS3
 refine wp_block ?_
 refine wp_loop_s (Seeking t w0 H (K.hash k) b9 [(0, .pointer (some ⟨b, 0, none⟩)), (1, .pointer x), (2, u64 (K.hash k)), (3, .pointer (some ⟨bk, ok, none⟩)), (9, .pointer (some ⟨b9, 0, none⟩))]) (t.n - 0) ?_ ?_
 ·refine ⟨0, S3, rfl, Know.of ⟨rfl, rfl, rfl, rfl, rfl, trivial⟩, hM, hle, ?_, n9, fun j hj => by omega⟩
  rw [hS3]
  have : pr t.n (K.hash k) 0 = K.hash k / 128 &&& (t.n - 1) := (pow_and hp).symm
  rw [this]; rfl
 clear hle hS3 kS3
 rintro m f w ⟨i, S, rfl, ⟨g0, rfl⟩, hM, hle, hS, n9, hprev⟩
 have hi : i < t.n := by
  obtain ⟨j, hj, hnp⟩ := hT.stops (K.hash k)
  rcases Nat.lt_or_ge j i with h | h
  ·exact absurd (fun q hq => by have := hprev j h q hq; omega) hnp
  ·omega
 have hb' := hle _ _ hb
 refine wp_seq ?_
 refine wp_block ?_
 refine wp_mix_seq [7, 8] [8] [0, 1, 2, 3, 4, 5, 6, 7, 8] _ mixed (by kernel_rfl) (Heap.le_refl _) hM ?_
 refine mv ?_
 refine nck ?_
 refine fa fr158_5 ?_
 refine mv ?_
 refine fa fr180_1 ?_
 refine lo ld22 hS ?_
 refine rw_callq cr93 rfl rfl (fun H' w hle' hM => c93 hM (hle' _ _ hb') rfl (pr_lt hn.1 (K.hash k) i)) rfl ?_
 refine rw_allocD Tryz.zeroValue104 rfl rfl rfl (Heap.le_refl _) (fun b10 G10 n10 l10 e10 k10 => ?_)
 refine rw_store (v := .agg #[.pointer _]) sz104 rfl rfl rfl rfl e10 rfl rfl rfl (fun _ => ⟨rfl, rfl⟩) (fun S5 hS5 kS5 => ?_)
 refine rw_nil ?_; intro w hM
 have hleS := le_keep l10 n10 kS5
 have hle' := Heap.le_trans hle hleS
 have hg' := hle' _ _ hg
 have hb'' := hle' _ _ hb
 have hseq := hleS _ _ hS
 have hgr := Gr.bytes hT.sl.ok (pr t.n (K.hash k) i)
 have hpi := pr_lt hn.1 (K.hash k) i
 refine rs hM ?_
 refine rw_callq cr90 rfl rfl (fun H' w hle hM => c90 hM (hle _ _ hS5) rfl) rfl ?_
 refine nck ?_
 refine rw_load ld145 rfl rfl rfl hg' (encG_ctrl hpi) ?_
 refine rw_callq cr126 rfl rfl (fun H' w hle hM => c126 hM _ hgr) rfl ?_
 refine asg ?_
 refine rw_nil ?_; intro w hM
 refine rs hM ?_
 refine mv ?_
 refine rw_bin rfl rfl rfl rfl (b_ne _ _) ?_
 refine rw_nil ?_; intro w hM
 refine wp_if (tmp_lt rfl) rfl (fun hc => ?_) (fun hc => ?_)
 ·obtain ⟨h0, h128⟩ := free_mask hT.sl hpi hnd hc
  have hlow := low_lt (mk8 fun q => decide (128 ≤ t.G.at (pr t.n (K.hash k) i) q))
  generalize hq : low (mk8 fun q => decide (128 ≤ t.G.at (pr t.n (K.hash k) i) q)) = q at h128 hlow
  have hne : b10 ≠ t.gb := fun e1 => by rw [e1] at n10; rw [hle _ _ hg] at n10; cases n10
  have hneb : b10 ≠ b := fun e1 => by rw [e1] at n10; rw [hb'] at n10; cases n10
  refine rs hM ?_
  refine mv ?_
  refine rw_callq cr103 rfl rfl (fun H' w hle hM => hq ▸ c103 hM hD (mk8_lt _) h0) rfl ?_
  refine asg ?_
  refine rw_nil ?_; intro w hM
  refine rs hM ?_
  refine mv ?_
  refine mv ?_
  refine rw_callq cr96 rfl rfl (fun H' w hle hM => c96 hM (hle _ _ hS5) rfl hlow) rfl ?_
  refine asg ?_
  refine rw_nil ?_; intro w hM
  refine rs hM ?_
  refine mv ?_
  refine mv ?_
  refine nck ?_
  refine rw_load ld84 rfl rfl rfl (hle' _ _ hk) hkc ?_
  refine nck ?_
  refine rw_storeE (v := .int .u64 _) (c' := arrG t.n (t.G.setK (8 * pr t.n (K.hash k) i + q) k)) sz84 rfl rfl rfl rfl hg' (arrG_setK hpi hlow) (by rw [arrG_size]; omega) rfl (by nofun) (fun S9 hS9 kS9 => ?_)
  refine rw_nil ?_; intro w hM
  have h9 := (kS9 _ hne).trans hS5
  refine rs hM ?_
  refine mv ?_
  refine mv ?_
  refine rw_callq cr98 rfl rfl (fun H' w hle hM => c98 hM (hle _ _ h9) rfl hlow) rfl ?_
  refine asg ?_
  refine rw_nil ?_; intro w hM
  have hb11 := (kS9 _ hbg).trans hb''
  refine rs hM ?_
  refine mv ?_
  refine nck ?_
  refine fa fr158_2 ?_
  refine lo ld152 hb11 ?_
  refine rw_bin rfl rfl rfl rfl (b_sub16 _ 1 (by omega) (by omega)) ?_
  refine nck ?_
  refine fa fr158_2 ?_
  refine rw_store1 (v := .int .u16 _) sz152 rfl rfl rfl rfl hb11 rfl rfl (by nofun) (fun S12 hS12 kS12 => ?_)
  refine rw_nil ?_; intro w hM
  refine rs hM ?_
  refine mv ?_
  refine nck ?_
  refine fa fr158_0 ?_
  refine lo ld152 hS12 ?_
  refine rw_bin rfl rfl rfl rfl (b_add16 _ 1 (by omega)) ?_
  refine nck ?_
  refine fa fr158_0 ?_
  refine rw_store1 (v := .int .u16 _) sz152 rfl rfl rfl rfl hS12 rfl rfl (by nofun) (fun S13 hS13 kS13 => ?_)
  refine rw_nil ?_; intro w hM
  have hg13 := (kS13 _ hbg.symm).trans ((kS12 _ hbg.symm).trans hS9)
  have h13 := (kS13 _ hneb).trans ((kS12 _ hneb).trans h9)
  have hokG := hGok (8 * pr t.n (K.hash k) i + q)
  refine rs hM ?_
  refine rw_callq cr90 rfl rfl (fun H' w hle hM => c90 hM (hle _ _ h13) rfl) rfl ?_
  refine mv ?_
  refine mv ?_
  refine rw_callq cr115 rfl rfl (fun H' w hle hM => c115 hM _ hh) rfl ?_
  refine rw_conv rfl rfl rfl (c_u8 Tryz.underlying12 Tryz.underlying160 _) ?_
  refine rw_callS cr116 rfl rfl (fun w hM => c116 hM hokG hg13 hpi hlow (by omega)) rfl (by nofun) (fun S14 hS14 kS14 => ?_)
  refine rw_nil ?_; intro w hM
  refine rs hM ?_
  refine mv ?_
  refine asg ?_
  refine rw_nil ?_; intro w hM
  refine wp_ret ?_
  simp only [Exit.then, Exit.inBlock]
  refine post_tmp (v := .pointer _) rfl rfl rfl ?_
  refine ⟨8 * pr t.n (K.hash k) i + q, ?_, ⟨by omega, .inl h128, i, hi, by omega, fun j hj q hq => by have := hprev j hj q hq; omega⟩, h128, hM.mono (upd2_le ?_ ?_ ?_ hbg)⟩
  ·rw [show (8 * pr t.n (K.hash k) i + q) / 8 = pr t.n (K.hash k) i from by omega, show (8 * pr t.n (K.hash k) i + q) % 8 = q from by omega]
  ·rw [kS14 _ hbg, hS13]; rfl
  ·rw [hS14, show K.hash k % 128 % 256 = K.hash k % 128 from by omega, Gr.put, hsame]
  ·intro y u hy h1 h2
   rw [kS14 _ h2, kS13 _ h1, kS12 _ h1, kS9 _ h2]; exact hle' _ _ hy
 ·refine wp_skip ?_
  simp only [Exit.then, Exit.inBlock]
  refine re hM ?_
  refine rw_loadA [.int .u64 _, .int .u64 _, .int .u64 _] ld180 rfl rfl rfl hseq rfl ?_
  refine rw_callq cr119 rfl rfl (fun H' w hle hM => c119 hM _ _ _ (by omega)) rfl ?_
  refine rw_store (v := .agg #[.int .u64 _, .int .u64 _, .int .u64 _]) sz180 rfl rfl rfl rfl hseq rfl rfl rfl (by nofun) (fun S4 hS4 kS4 => ?_)
  refine rw_nil ?_; intro w hM
  obtain ⟨hnx, hnx1⟩ := probe_next hT (K.hash k) i hi
  refine ⟨t.n - (i + 1), _, rfl, by omega, i + 1, S4, rfl, Know.of ⟨rfl, rfl, rfl, rfl, rfl, trivial⟩, hM, le_keep hle' n9 kS4, ?_, n9, fun j hj => ?_⟩
  ·rw [hS4, ← hnx, hnx1]; rfl
  ·rcases Nat.lt_or_ge j i with h | h
   ·exact hprev j h
   ·rw [show j = i by omega]; exact free_mask0 hc
end
end Go.Proofs.YtddpfkcofmfmpaaGreatDoor
