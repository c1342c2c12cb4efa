/-
  Tombstones turned into empty slots. Conditions stand in the contract. More operations: new rows, nil pointers, bytes of a string. Conditions stand in each lemma. New groups, new tables. Conditions stand in each contract.
  Conditions stand in each lemma.
-/
import Derived.Test.YtddpfkcofmfmpaaGreatDoorQ06
import Derived.Laws.MakeOwn
import Derived.Laws.Pointers
namespace Go.Proofs.YtddpfkcofmfmpaaGreatDoor
open Go Go.RowKit
set_option maxRecDepth 20000
section
variable {w0 w : World} {H : Heap}
def arrW (W : Nat → Nat) : Array Value := #[u32 (W 0), u32 (W 1), u32 (W 2), u32 (W 3)]
def encW (W : Nat → Nat) : Obj := .cells (arrW W) 192 (0, 0)
theorem encW_cell {W : Nat → Nat} {j : Nat} (h : j < 4) : objCell (encW W) (0 + j * 1) = some (u32 (W j)) := by
 match j, h with
 | 0, _ | 1, _ | 2, _ | 3, _ => rfl
theorem arrW_set {W : Nat → Nat} {g : Nat} (h : g / 32 < 4) : (arrW W).setIfInBounds (0 + g / 32 * 1) (u32 (W (g / 32) ||| 1 * 2 ^ (g % 32) % 2 ^ 32)) = arrW (wset W g) := by
 have e : 1 * 2 ^ (g % 32) % 2 ^ 32 = 2 ^ (g % 32) := by rw [Nat.one_mul, Nat.mod_eq_of_lt (Nat.pow_lt_pow_right (by omega) (by omega))]
 rw [e]
 unfold wset
 generalize g / 32 = j at h
 match j, h with
 | 0, _ | 1, _ | 2, _ | 3, _ => rfl
def Mono (W V : Nat → Nat) : Prop := ∀ g, wbit W g = true → wbit V g = true
theorem Mono.set (W : Nat → Nat) (g : Nat) : Mono W (wset W g) := fun h hh => by rw [wset_bit, hh]; rfl
theorem wset_same (W : Nat → Nat) (g : Nat) : wbit (wset W g) g = true := by rw [wset_bit, decide_eq_true rfl, Bool.or_true]
/-- The groups on the way to the entry of slot s are marked. -/
def DoneSlot (K : KT) (n : Nat) (G : Gr) (W : Nat → Nat) (s : Nat) : Prop := K.eqk (G.k s) (G.k s) = true → ∀ i, i < n → pr n (K.hash (G.k s)) i = s / 8 → ∀ j, j < i → (∃ q, q < 8 ∧ 128 ≤ G.c (8 * pr n (K.hash (G.k s)) j + q)) → wbit W (pr n (K.hash (G.k s)) j) = true
theorem DoneSlot.mono {K : KT} {n : Nat} {G : Gr} {W V : Nat → Nat} {s : Nat} (h : DoneSlot K n G W s) (m : Mono W V) : DoneSlot K n G V s := fun a i b c j d e => m _ (h a i b c j d e)
structure Marked (K : KT) (n : Nat) (G : Gr) (W : Nat → Nat) (i : Nat) : Prop where
 lt : ∀ j, W j < 2 ^ 32
 slots : ∀ s, s < 8 * i → G.c s < 128 → DoneSlot K n G W s
 groups : ∀ g, g < i → ¬ G.packed g → wbit W g = true
theorem Gr.unpoint_none (G : Gr) : G.unpoint (fun _ => false) = G := by cases G; rfl
theorem obj_ne {S : Heap} {a b : Nat} {o o' : Obj} (h1 : S a = some o) (h2 : S b = some o') (h : o ≠ o') : a ≠ b := fun e => by subst e; rw [h1] at h2; exact h (Option.some.inj h2)
theorem free_ex {G : Gr} {g : Nat} (h : ∃ q, q < 8 ∧ 128 ≤ G.c (8 * g + q)) : ((bsw (mk8 fun q => decide (128 ≤ G.at g q)) : Int) != 0) = true := by
 cases hx : ((bsw (mk8 fun q => decide (128 ≤ G.at g q)) : Int) != 0) with
 | true => rfl
 | false => obtain ⟨q, hq, h1⟩ := h; have := free_mask0 hx q hq; omega
/-- What the last loops know. -/
structure Pruning (K : KT) (w0 : World) (H : Heap) (b b6 : Nat) (t : Tb) (W : Nat → Nat) (P : Nat → Bool) (i : Nat) (w : World) (S : Heap) : Prop where
 mem : Mem w0 w S
 tb : S b = some (encT { t with gl := t.gl + cnt P (8 * t.n) })
 gs : S t.gb = some (encG t.n (t.G.unpoint P))
 wd : S b6 = some (encW W)
 rest : ∀ x u, H x = some u → x ≠ b → x ≠ t.gb → S x = some u
 del : ∀ s, P s = true → s < 8 * t.n ∧ t.G.c s = 254 ∧ wbit W (s / 8) = false
 all : ∀ s, s < 8 * i → t.G.c s = 254 → wbit W (s / 8) = false → P s = true
set_option maxHeartbeats 4000000 in
theorem c128 (hM : Mem w0 w H) (hD : HasDb w0) {K : KT} {E : Heap} {bty : Nat} {nu : Bool} (hE : E.le H) (T : TypOK K w0 E bty nu) {b bm : Nat} {t : Tb} {mm : Mp} (hb : H b = some (encT t)) (hg : H t.gb = some (encG t.n t.G)) (hm : H bm = some (encM mm)) (n2 : b ≠ t.gb) (hT : TOK K t) :
  Calls Tryz.prog 128 [.pointer (some ⟨b, 0, none⟩), .pointer (some ⟨bty, 0, none⟩), .pointer (some ⟨bm, 0, none⟩)].toArray w (fun r w' => r = .returned (.tuple #[]) ∧ ∃ P, Prunable K t.n t.G P ∧
   Mem w0 w' ((H.upd b (encT { t with gl := t.gl + cnt P (8 * t.n), G := t.G.unpoint P })).upd t.gb (encG t.n (t.G.unpoint P)))) := by
 have hn := hT.npos
 obtain ⟨p, _, hp⟩ := hT.pow
 have hroom := hT.room
 have hcap := hT.cap
 have hnone : ∀ {S : Heap} {w' : World}, H.le S → Mem w0 w' S → ∃ P, Prunable K t.n t.G P ∧ Mem w0 w' ((H.upd b (encT { t with gl := t.gl + cnt P (8 * t.n), G := t.G.unpoint P })).upd t.gb (encG t.n (t.G.unpoint P))) := by
  intro S w' hle hM
  refine ⟨fun _ => false, ⟨fun s h => by simp at h, fun _ _ _ _ _ h => by simp at h, fun _ _ _ _ _ _ _ _ _ _ _ => rfl⟩, hM.mono (upd2_le ?_ ?_ (fun x u hx _ _ => hle _ _ hx) n2)⟩
  ·rw [cnt_zero (fun _ _ => rfl), Gr.unpoint_none]; exact hle _ _ hb
  ·rw [Gr.unpoint_none]; exact hle _ _ hg
 refine calls_start Tryz.func128 rfl Tryz.ntmps128 (Nat.le_of_ble_eq_true rfl) ?_
 refine wp_seq ?_
 refine wp_mix_seq [] [] [0, 1, 2, 3, 4, 5, 6, 7] H mixed (by kernel_rfl) (Heap.le_refl _) hM ?_
 refine mv ?_
 refine rw_callq cr133 rfl rfl (fun H' w hle hM => c133 hM (hle _ _ hb) hT) rfl ?_
 refine rw_bin rfl rfl rfl rfl (b_mul16 _ 10 (by omega)) ?_
 refine mv ?_
 refine nck ?_
 refine fa fr158_1 ?_
 refine lo ld152 hb ?_
 refine rw_bin rfl rfl rfl rfl (b_lt _ _) ?_
 refine rw_nil ?_; intro w hM
 refine wp_if (tmp_lt rfl) rfl (fun hc => ?_) (fun hc => ?_)
 ·refine wp_ret ?_
  simp only [Exit.then]
  exact post_none' rfl ⟨rfl, hnone (Heap.le_refl _) hM⟩
 refine wp_skip ?_
 refine rs hM ?_
 refine rw_allocN Tryz.zeroValue192 rfl rfl (fun b6 G6 n6 l6 e6 k6 => ?_)
 refine rw_nil ?_; intro w hM
 refine wp_seq ?_
 refine rs hM ?_
 refine asg ?_
 refine rw_nil ?_; intro w hM
 refine wp_block ?_
 refine wp_loop_s (fun m f w => ∃ i W S, m = t.n + 1 - i ∧ i ≤ t.n ∧ Know f [(0, .pointer (some ⟨b, 0, none⟩)), (1, .pointer (some ⟨bty, 0, none⟩)), (2, .pointer (some ⟨bm, 0, none⟩)), (6, .pointer (some ⟨b6, 0, none⟩)), (7, u64 i)] ∧ Mem w0 w S ∧ H.le S ∧ S b6 = some (encW W) ∧ Marked K t.n t.G W i) (t.n + 1 - 0) ?_ ?_
 ·refine ⟨0, fun _ => 0, G6, rfl, by omega, Know.of ⟨rfl, rfl, rfl, rfl, rfl, trivial⟩, hM, l6, e6, ⟨fun _ => by decide, fun s hs => by omega, fun g hg => by omega⟩⟩
 clear hM
 rintro m f w ⟨i, W, S, rfl, hi, ⟨g0, rfl⟩, hM, hle, hW, hMk⟩
 have hb' := hle _ _ hb
 refine wp_seq ?_
 refine rs hM ?_
 refine mv ?_
 refine mv ?_
 refine nck ?_
 refine fa fr158_5 ?_
 refine fa fr156_1 ?_
 refine lo ld22 hb' ?_
 refine rw_bin rfl rfl rfl rfl (b_le _ _) ?_
 refine rw_nil ?_; intro w hM
 refine wp_if (tmp_lt rfl) rfl (fun hc => ?_) (fun hc => ?_)
 ·have hi' : i < t.n := by have := of_decide_eq_true hc; omega
  refine wp_skip ?_
  refine wp_seq ?_
  refine wp_block ?_
  refine rs hM ?_
  refine mv ?_
  refine nck ?_
  refine fa fr158_5 ?_
  refine mv ?_
  refine mv ?_
  refine rw_callq cr93 rfl rfl (fun H' w hle' hM => c93 hM (hle' _ _ hb') rfl hi') rfl ?_
  refine rw_allocN Tryz.zeroValue104 rfl rfl (fun b8 G8 n8 l8 e8 k8 => ?_)
  refine rw_store (v := .agg #[.pointer _]) sz104 rfl rfl rfl rfl e8 rfl rfl rfl (by nofun) (fun S5 hS5 kS5 => ?_)
  refine rw_nil ?_; intro w hM
  have n8H := le_none hle n8
  have hle5 := Heap.le_trans hle (le_keep l8 n8 kS5)
  have hg5 := hle5 _ _ hg
  have hW5 := (kS5 _ (fun e => by rw [e] at hW; rw [hW] at n8; cases n8)).trans ((k8 _ (fun e => by rw [e] at hW; rw [hW] at n8; cases n8)).trans hW)
  have hgr := Gr.bytes hT.sl.ok i
  refine rs hM ?_
  refine rw_callq cr90 rfl rfl (fun H' w hle hM => c90 hM (hle _ _ hS5) rfl) rfl ?_
  refine nck ?_
  refine rw_load ld145 rfl rfl rfl hg5 (encG_ctrl hi') ?_
  refine rw_callq cr101 rfl rfl (fun H' w hle hM => c101 hM _ hgr) rfl ?_
  refine asg ?_
  refine rw_nil ?_; intro w hM
  refine wp_seq ?_
  refine wp_block ?_
  refine wp_loop_s (fun m f w => ∃ W S, m < 256 ∧ Know f [(0, .pointer (some ⟨b, 0, none⟩)), (1, .pointer (some ⟨bty, 0, none⟩)), (2, .pointer (some ⟨bm, 0, none⟩)), (6, .pointer (some ⟨b6, 0, none⟩)), (7, u64 i), (8, .pointer (some ⟨b8, 0, none⟩)), (9, u64 (bsw m))] ∧ Mem w0 w S ∧ H.le S ∧ S b6 = some (encW W) ∧ S b8 = some (.cells #[.pointer (some ⟨t.gb, 17 * i, none⟩)] 104 (0, 0)) ∧
   Marked K t.n t.G W i ∧ (∀ q, q < 8 → t.G.c (8 * i + q) < 128 → m.testBit q = true ∨ DoneSlot K t.n t.G W (8 * i + q)) ∧ ∀ q, q < 8 → m.testBit q = true → t.G.c (8 * i + q) < 128) (mk8 fun q => decide (t.G.at i q < 128)) ?_ ?_
  ·refine ⟨W, S5, mk8_lt _, Know.of ⟨rfl, rfl, rfl, rfl, rfl, rfl, rfl, trivial⟩, hM, hle5, hW5, hS5, hMk, fun q hq hf => .inl ?_, fun q hq h => ?_⟩
   ·rw [mk8_bit _ q hq]; exact decide_eq_true hf
   ·rw [mk8_bit _ q hq] at h; exact of_decide_eq_true h
  clear hM hW hMk hS5 kS5 hle5 hg5 hW5
  clear W
  rintro m f w ⟨W, S, hmb, ⟨g1, rfl⟩, hM, hle5, hW, h8, hMk, hA, hB⟩
  have hg5 := hle5 _ _ hg
  have hm5 := hle5 _ _ hm
  have hb5 := hle5 _ _ hb
  have hE5 := Heap.le_trans hE hle5
  refine wp_seq ?_
  refine rs hM ?_
  refine mv ?_
  refine rw_bin rfl rfl rfl rfl (b_ne _ _) ?_
  refine rw_nil ?_; intro w hM
  refine wp_if (tmp_lt rfl) rfl (fun hc => ?_) (fun hc => ?_)
  ·have h0 : m ≠ 0 := fun e => by subst e; simp [bsw, word, wl] at hc
   refine wp_skip ?_
   refine wp_block ?_
   have hlow := low_lt m
   have hin := low_in m hmb h0
   have hfull := hB _ hlow hin
   have hkey : objCell (encG t.n t.G) (17 * i + 1 + low m) = some (u64 (t.G.k (8 * i + low m))) := encG_key hi' hlow
   have hkl := hT.sl.ok.2.1 (8 * i + low m)
   refine rs hM ?_
   refine mv ?_
   refine rw_callq cr103 rfl rfl (fun H' w hle hM => c103 hM hD hmb h0) rfl ?_
   refine asg ?_
   refine rw_nil ?_; intro w hM
   refine rs hM ?_
   refine mv ?_
   refine rw_callq cr104 rfl rfl (fun H' w hle hM => c104 hM hmb h0) rfl ?_
   refine asg ?_
   refine rw_nil ?_; intro w hM
   refine rs hM ?_
   refine mv ?_
   refine mv ?_
   refine rw_callq cr96 rfl rfl (fun H' w hle hM => c96 hM (hle _ _ h8) rfl hlow) rfl ?_
   refine asg ?_
   refine rw_nil ?_; intro w hM
   refine wp_seq ?_
   refine rs hM ?_
   refine mv ?_
   refine nck ?_
   refine fa fr88_1 ?_
   refine lo ld86 (hE5 _ _ T.typ) ?_
   refine mv ?_
   refine mv ?_
   refine rw_callvq (captured := []) T.cre rfl rfl rfl (fun H' w hle2 hM => T.equal hM (Heap.le_trans hE5 hle2) (hle2 _ _ hg5) hkey hkl (hle2 _ _ hg5) hkey hkl) rfl ?_
   refine rw_un rfl rfl rfl (u_not _) ?_
   refine rw_nil ?_; intro w hM
   have hnext : ∀ V, Mono W V → DoneSlot K t.n t.G V (8 * i + low m) → (∀ q, q < 8 → t.G.c (8 * i + q) < 128 → (tl8 m).testBit q = true ∨ DoneSlot K t.n t.G V (8 * i + q)) ∧ ∀ q, q < 8 → (tl8 m).testBit q = true → t.G.c (8 * i + q) < 128 := by
    intro V hV hd
    refine ⟨fun q hq hf => ?_, fun q hq h => ?_⟩
    ·rcases hA q hq hf with h | h
     ·by_cases e : q = low m
      ·subst e; exact .inr hd
      ·refine .inl ?_
       rw [tl8_bit m hmb q hq, h, nat_beq_f.2 e]; rfl
     ·exact .inr (h.mono hV)
    ·rw [tl8_bit m hmb q hq] at h
     simp only [Bool.and_eq_true] at h
     exact hB q hq h.1
   refine wp_if (tmp_lt rfl) rfl (fun he => ?_) (fun he => ?_)
   ·have he' : K.eqk (t.G.k (8 * i + low m)) (t.G.k (8 * i + low m)) = false := by simpa using he
    refine wp_exit ?_
    simp only [Exit.then, Exit.inBlock, if_true]
    obtain ⟨h1, h2⟩ := hnext W (fun _ h => h) (fun hx => by rw [he'] at hx; cases hx)
    exact ⟨tl8 m, _, rfl, tl8_less m hmb h0, W, _, tl8_lt m hmb, Know.of ⟨rfl, rfl, rfl, rfl, rfl, rfl, rfl, trivial⟩, hM, hle5, hW, h8, hMk, h1, h2⟩
   ·have he' : K.eqk (t.G.k (8 * i + low m)) (t.G.k (8 * i + low m)) = true := by simpa using he
    refine wp_skip ?_
    refine wp_mix_seq [] [] [0, 1, 2, 3, 4, 5, 6, 7, 8, 9, 10] S mixed (by kernel_rfl) (Heap.le_refl _) hM ?_
    refine mv ?_
    refine nck ?_
    refine fa fr88_0 ?_
    refine lo ld85 (hE5 _ _ T.typ) ?_
    refine mv ?_
    refine mv ?_
    refine nck ?_
    refine fa fr132_1 ?_
    refine lo ld12 hm5 ?_
    refine rw_callvq (captured := T.ch) T.crh rfl rfl rfl (fun H' w hle2 hM => T.hasher hM (Heap.le_trans hE5 hle2) (hle2 _ _ hg5) hkey hkl) rfl ?_
    refine asg ?_
    refine rw_nil ?_; intro w hM
    generalize hh0 : K.hash (t.G.k (8 * i + low m)) = h
    have hh : h < 2 ^ 64 := hh0 ▸ K.lt _
    refine wp_mix_seq [8, 9] [9] [0, 1, 2, 3, 4, 5, 6, 7, 8, 9] S mixed (by kernel_rfl) (Heap.le_refl _) hM ?_
    refine mv ?_
    refine rw_callq cr118 rfl rfl (fun H' w hle hM => c118 hM _) rfl ?_
    refine mv ?_
    refine nck ?_
    refine fa fr158_5 ?_
    refine fa fr156_1 ?_
    refine lo ld22 hb5 ?_
    refine rw_callq cr117 rfl rfl (fun H' w hle hM => c117 hM _ _ (by omega) (by omega)) rfl ?_
    refine rw_allocD Tryz.zeroValue180 rfl rfl rfl (Heap.le_refl _) (fun b13 G13 n13 l13 e13 k13 => ?_)
    refine rw_store (v := .agg #[.int .u64 _, .int .u64 _, .int .u64 _]) sz180 rfl rfl rfl rfl e13 rfl rfl rfl (fun _ => ⟨rfl, rfl⟩) (fun S13 hS13 kS13 => ?_)
    refine rw_nil ?_; intro w hM
    refine wp_block ?_
    refine wp_loop_s (fun m' f w => ∃ j bq V S', m' = t.n - j ∧ Know f [(0, .pointer (some ⟨b, 0, none⟩)), (1, .pointer (some ⟨bty, 0, none⟩)), (2, .pointer (some ⟨bm, 0, none⟩)), (6, .pointer (some ⟨b6, 0, none⟩)), (7, u64 i), (8, .pointer (some ⟨b8, 0, none⟩)), (9, u64 (bsw (tl8 m))), (13, .pointer (some ⟨bq, 0, none⟩))] ∧ Mem w0 w S' ∧ H.le S' ∧ S' b6 = some (encW V) ∧ S' b8 = some (.cells #[.pointer (some ⟨t.gb, 17 * i, none⟩)] 104 (0, 0)) ∧
     S' bq = some (.cells #[u64 (t.n - 1), u64 (pr t.n h j), u64 j] 180 (0, 0)) ∧ H bq = none ∧ (∀ j, V j < 2 ^ 32) ∧ Mono W V ∧ (∀ j', j' < j → pr t.n h j' ≠ i) ∧ ∀ j', j' < j → (∃ q, q < 8 ∧ 128 ≤ t.G.c (8 * pr t.n h j' + q)) → wbit V (pr t.n h j') = true) (t.n - 0) ?_ ?_
    ·have e6 : b6 ≠ b13 := fun e => by rw [e] at hW; rw [hW] at n13; cases n13
     have e8 : b8 ≠ b13 := fun e => by rw [e] at h8; rw [h8] at n13; cases n13
     refine ⟨0, b13, W, S13, rfl, Know.of ⟨rfl, rfl, rfl, rfl, rfl, rfl, rfl, rfl, trivial⟩, hM, Heap.le_trans hle5 (le_keep l13 n13 kS13), (kS13 _ e6).trans ((k13 _ e6).trans hW), (kS13 _ e8).trans ((k13 _ e8).trans h8), ?_, le_none hle5 n13, hMk.lt, fun _ h => h, fun j hj => by omega, fun j hj => by omega⟩
     rw [hS13]
     have : pr t.n h 0 = h / 128 &&& (t.n - 1) := (pow_and hp).symm
     rw [this]; rfl
    clear hM
    rintro m' f w ⟨j, bq, V, S', rfl, ⟨g2, rfl⟩, hM, hle6, hV, h8', hq', nq, hVl, hWV, hne, hmk⟩
    have hj : j < t.n := by
     obtain ⟨i0, h1, h2⟩ := pr_visits (h := h) hp hi'
     rcases Nat.lt_or_ge i0 j with h3 | h3
     ·exact absurd h2 (hne i0 h3)
     ·omega
    have hb6 := hle6 _ _ hb
    have hg6 := hle6 _ _ hg
    have q6 : b6 ≠ bq := obj_ne hV hq' (by intro e; cases e)
    have q8 : b8 ≠ bq := obj_ne h8' hq' (by intro e; cases e)
    refine wp_seq ?_
    refine wp_block ?_
    refine wp_seq ?_
    refine rs hM ?_
    refine fa fr180_1 ?_
    refine lo ld22 hq' ?_
    refine mv ?_
    refine rw_bin rfl rfl rfl rfl (b_eq _ _) ?_
    refine rw_nil ?_; intro w hM
    refine wp_if (tmp_lt rfl) rfl (fun hz => ?_) (fun hz => ?_)
    ·have hz' : pr t.n h j = i := by have := beq_iff_eq.1 hz; omega
     refine wp_exit ?_
     simp only [Exit.then, Exit.inBlock, if_true, if_false, Nat.reduceEqDiff]
     have hds : DoneSlot K t.n t.G V (8 * i + low m) := by
      intro _ i0 hi0 hpi0 j' hj' hex
      rw [hh0] at *
      have : i0 = j := pr_inj hp hi0 hj (by rw [hpi0, hz']; omega)
      subst this
      exact hmk j' hj' hex
     obtain ⟨h1, h2⟩ := hnext V hWV hds
     exact ⟨tl8 m, _, rfl, tl8_less m hmb h0, V, _, tl8_lt m hmb, Know.of ⟨rfl, rfl, rfl, rfl, rfl, rfl, rfl, trivial⟩, hM, hle6, hV, h8', ⟨hVl, fun s hs hf => (hMk.slots s hs hf).mono hWV, fun g hg hx => hWV _ (hMk.groups g hg hx)⟩, h1, h2⟩
    ·have hz' : pr t.n h j ≠ i := fun e => by rw [e] at hz; simp at hz
     have hpj := pr_lt hn.1 h j
     have hgrj := Gr.bytes hT.sl.ok (pr t.n h j)
     refine wp_skip ?_
     refine wp_mix_seq [7, 8] [8] [0, 1, 2, 3, 4, 5, 6, 7, 8] S' mixed (by kernel_rfl) (Heap.le_refl _) hM ?_
     refine mv ?_
     refine nck ?_
     refine fa fr158_5 ?_
     refine mv ?_
     refine fa fr180_1 ?_
     refine lo ld22 hq' ?_
     refine rw_callq cr93 rfl rfl (fun H' w hle' hM => c93 hM (hle' _ _ hb6) rfl hpj) rfl ?_
     refine rw_allocD Tryz.zeroValue104 rfl rfl rfl (Heap.le_refl _) (fun b14 G14 n14 l14 e14 k14 => ?_)
     refine rw_store (v := .agg #[.pointer _]) sz104 rfl rfl rfl rfl e14 rfl rfl rfl (fun _ => ⟨rfl, rfl⟩) (fun S16 hS16 kS16 => ?_)
     refine rw_nil ?_; intro w hM
     have hle7 := le_keep l14 n14 kS16
     have hg7 := hle7 _ _ hg6
     have hq7 := hle7 _ _ hq'
     have hV7 := hle7 _ _ hV
     have h87 := hle7 _ _ h8'
     refine rs hM ?_
     refine rw_callq cr90 rfl rfl (fun H' w hle hM => c90 hM (hle _ _ hS16) rfl) rfl ?_
     refine nck ?_
     refine rw_load ld145 rfl rfl rfl hg7 (encG_ctrl hpj) ?_
     refine rw_callq cr126 rfl rfl (fun H' w hle hM => c126 hM _ hgrj) rfl ?_
     refine asg ?_
     refine rw_nil ?_; intro w hM
     refine rs hM ?_
     refine mv ?_
     refine rw_bin rfl rfl rfl rfl (b_ne _ _) ?_
     refine rw_nil ?_; intro w hM
     have hlast : ∀ (V' : Nat → Nat) (S7 : Heap) (w : World) (f : Slots), Know f [(0, .pointer (some ⟨b, 0, none⟩)), (1, .pointer (some ⟨bty, 0, none⟩)), (2, .pointer (some ⟨bm, 0, none⟩)), (6, .pointer (some ⟨b6, 0, none⟩)), (7, u64 i), (8, .pointer (some ⟨b8, 0, none⟩)), (9, u64 (bsw (tl8 m))), (13, .pointer (some ⟨bq, 0, none⟩))] → True := fun _ _ _ _ _ => trivial
     refine wp_if (tmp_lt rfl) rfl (fun hy => ?_) (fun hy => ?_)
     ·have hd4 : pr t.n h j / 32 < 4 := by omega
      refine wp_mix_end [11] [11] [0, 1, 2, 3, 4, 5, 6, 7, 8, 9, 10, 11] S16 mixed (by kernel_rfl) (Heap.le_refl _) hM ?_
      refine fa fr180_1 ?_
      refine lo ld22 hq7 ?_
      refine rw_bin rfl rfl rfl rfl (b_quo64 _ 32 (by decide) (by omega)) ?_
      refine rw_indexAddr rfl rfl rfl rfl (x_array Tryz.underlying192 sz191 hd4) ?_
      refine rw_load ld191 rfl rfl rfl hV7 (encW_cell hd4) ?_
      refine fa fr180_1 ?_
      refine lo ld22 hq7 ?_
      refine rw_bin rfl rfl rfl rfl (b_rem64 _ 32 (by decide)) ?_
      refine rw_bin rfl rfl rfl rfl (b_shl32 1 _ (by omega)) ?_
      refine rw_bin rfl rfl rfl rfl (b_or32 _ _ (hVl _) (Nat.mod_lt _ (by decide))) ?_
      refine rw_indexAddr rfl rfl rfl rfl (x_array Tryz.underlying192 sz191 hd4) ?_
      refine rw_storeE (v := .int .u32 _) (c' := arrW (wset V (pr t.n h j))) sz191 rfl rfl rfl rfl hV7 (arrW_set hd4) (by show _ < 4; omega) rfl (fun _ => ⟨rfl, rfl⟩) (fun S19 hS19 kS19 => ?_)
      refine rw_nil ?_; intro w hM
      simp only [Exit.then, Exit.inBlock]
      have hq19 := (kS19 _ q6.symm).trans hq7
      have h819 := (kS19 _ (fun e => by rw [e] at h87; rw [hV7] at h87; cases h87)).trans h87
      refine wp_seq ?_
      refine rs hM ?_
      refine rw_loadA [.int .u64 _, .int .u64 _, .int .u64 _] ld180 rfl rfl rfl hq19 rfl ?_
      refine rw_nil ?_; intro w hM
      refine re hM ?_
      refine rw_allocN Tryz.zeroValue180 rfl rfl (fun b13 G13 n13 l13 e13 k13 => ?_)
      refine rw_store (v := .agg #[.int .u64 _, .int .u64 _, .int .u64 _]) sz180 rfl rfl rfl rfl e13 rfl rfl rfl (by nofun) (fun S21 hS21 kS21 => ?_)
      refine rw_nil ?_; intro w hM
      refine re hM ?_
      refine rw_loadA [.int .u64 _, .int .u64 _, .int .u64 _] ld180 rfl rfl rfl hS21 rfl ?_
      refine rw_callq cr119 rfl rfl (fun H' w hle hM => c119 hM _ _ _ (by omega)) rfl ?_
      refine rw_store (v := .agg #[.int .u64 _, .int .u64 _, .int .u64 _]) sz180 rfl rfl rfl rfl hS21 rfl rfl rfl (by nofun) (fun S14 hS14 kS14 => ?_)
      refine rw_nil ?_; intro w hM
      obtain ⟨hnx, hnx1⟩ := probe_next hT h j hj
      have m6 : b6 ≠ b13 := fun e => by rw [e] at hS19; rw [hS19] at n13; cases n13
      have m8 : b8 ≠ b13 := fun e => by rw [e] at h819; rw [h819] at n13; cases n13
      have h6H : H b6 = none := n6
      refine ⟨t.n - (j + 1), _, rfl, by omega, j + 1, b13, wset V (pr t.n h j), S14, rfl, Know.of ⟨rfl, rfl, rfl, rfl, rfl, rfl, rfl, rfl, trivial⟩, hM, ?_, ?_, ?_, ?_, ?_, wset_lt hVl _, fun g hg => Mono.set _ _ _ (hWV _ hg), fun j' hj' => ?_, fun j' hj' hex => ?_⟩
      ·intro x u hx
       have x6 : x ≠ b6 := fun e => by rw [e, h6H] at hx; cases hx
       have h1 : S19 x = some u := (kS19 _ x6).trans (hle7 _ _ (hle6 _ _ hx))
       have x13 : x ≠ b13 := fun e => by rw [e, n13] at h1; cases h1
       rw [kS14 _ x13, kS21 _ x13]; exact l13 _ _ h1
      ·rw [kS14 _ m6, kS21 _ m6]; exact l13 _ _ hS19
      ·rw [kS14 _ m8, kS21 _ m8]; exact l13 _ _ h819
      ·rw [hS14, ← hnx, hnx1]; rfl
      ·cases hx : H b13 with
       | none => rfl
       | some u =>
        have x6 : b13 ≠ b6 := m6.symm
        have h1 : S19 b13 = some u := (kS19 _ x6).trans (hle7 _ _ (hle6 _ _ hx))
        rw [n13] at h1; cases h1
      ·rcases Nat.lt_or_ge j' j with h1 | h1
       ·exact hne j' h1
       ·rw [show j' = j by omega]; exact hz'
      ·rcases Nat.lt_or_ge j' j with h1 | h1
       ·exact Mono.set _ _ _ (hmk j' h1 hex)
       ·rw [show j' = j by omega]; exact wset_same _ _
     ·refine wp_skip ?_
      simp only [Exit.then, Exit.inBlock]
      refine wp_seq ?_
      refine rs hM ?_
      refine rw_loadA [.int .u64 _, .int .u64 _, .int .u64 _] ld180 rfl rfl rfl hq7 rfl ?_
      refine rw_nil ?_; intro w hM
      refine re hM ?_
      refine rw_allocN Tryz.zeroValue180 rfl rfl (fun b13 G13 n13 l13 e13 k13 => ?_)
      refine rw_store (v := .agg #[.int .u64 _, .int .u64 _, .int .u64 _]) sz180 rfl rfl rfl rfl e13 rfl rfl rfl (by nofun) (fun S21 hS21 kS21 => ?_)
      refine rw_nil ?_; intro w hM
      refine re hM ?_
      refine rw_loadA [.int .u64 _, .int .u64 _, .int .u64 _] ld180 rfl rfl rfl hS21 rfl ?_
      refine rw_callq cr119 rfl rfl (fun H' w hle hM => c119 hM _ _ _ (by omega)) rfl ?_
      refine rw_store (v := .agg #[.int .u64 _, .int .u64 _, .int .u64 _]) sz180 rfl rfl rfl rfl hS21 rfl rfl rfl (by nofun) (fun S14 hS14 kS14 => ?_)
      refine rw_nil ?_; intro w hM
      obtain ⟨hnx, hnx1⟩ := probe_next hT h j hj
      have hle8 := Heap.le_trans hle6 hle7
      have m6 : b6 ≠ b13 := fun e => by rw [e] at hV7; rw [hV7] at n13; cases n13
      have m8 : b8 ≠ b13 := fun e => by rw [e] at h87; rw [h87] at n13; cases n13
      have l14' : S16.le S14 := fun x u hx => by
       have x13 : x ≠ b13 := fun e => by rw [e, n13] at hx; cases hx
       rw [kS14 _ x13, kS21 _ x13]; exact l13 _ _ hx
      refine ⟨t.n - (j + 1), _, rfl, by omega, j + 1, b13, V, S14, rfl, Know.of ⟨rfl, rfl, rfl, rfl, rfl, rfl, rfl, rfl, trivial⟩, hM, Heap.le_trans hle8 l14', l14' _ _ hV7, l14' _ _ h87, ?_, le_none hle8 n13, hVl, hWV, fun j' hj' => ?_, fun j' hj' hex => ?_⟩
      ·rw [hS14, ← hnx, hnx1]; rfl
      ·rcases Nat.lt_or_ge j' j with h1 | h1
       ·exact hne j' h1
       ·rw [show j' = j by omega]; exact hz'
      ·rcases Nat.lt_or_ge j' j with h1 | h1
       ·exact hmk j' h1 hex
       ·rw [show j' = j by omega] at hex
        rw [free_ex hex] at hy; cases hy
  ·have h0 : m = 0 := by
    have : (bsw m : Int) = 0 := by simpa using hc
    exact (bsw_zero m hmb).1 (by omega)
   subst h0
   refine wp_exit ?_
   simp only [Exit.then, Exit.inBlock, if_true]
   have hsl : ∀ s, s < 8 * (i + 1) → t.G.c s < 128 → DoneSlot K t.n t.G W s := by
    intro s hs hf
    rcases Nat.lt_or_ge s (8 * i) with h1 | h1
    ·exact hMk.slots s h1 hf
    ·obtain ⟨q, rfl⟩ : ∃ q, s = 8 * i + q := ⟨s - 8 * i, by omega⟩
     rcases hA q (by omega) hf with h2 | h2
     ·simp at h2
     ·exact h2
   refine rs hM ?_
   refine rw_callq cr90 rfl rfl (fun H' w hle hM => c90 hM (hle _ _ h8) rfl) rfl ?_
   refine nck ?_
   refine rw_load ld145 rfl rfl rfl hg5 (encG_ctrl hi') ?_
   refine rw_callq cr120 rfl rfl (fun H' w hle hM => c120 hM _ hgr) rfl ?_
   refine rw_bin rfl rfl rfl rfl (b_ne _ _) ?_
   refine rw_nil ?_; intro w hM
   refine wp_if (tmp_lt rfl) rfl (fun hy => ?_) (fun hy => ?_)
   ·have hd4 : i / 32 < 4 := by omega
    refine re hM ?_
    refine mv ?_
    refine rw_bin rfl rfl rfl rfl (b_quo64 _ 32 (by decide) (by omega)) ?_
    refine rw_indexAddr rfl rfl rfl rfl (x_array Tryz.underlying192 sz191 hd4) ?_
    refine rw_load ld191 rfl rfl rfl hW (encW_cell hd4) ?_
    refine mv ?_
    refine rw_bin rfl rfl rfl rfl (b_rem64 _ 32 (by decide)) ?_
    refine rw_bin rfl rfl rfl rfl (b_shl32 1 _ (by omega)) ?_
    refine rw_bin rfl rfl rfl rfl (b_or32 _ _ (hMk.lt _) (Nat.mod_lt _ (by decide))) ?_
    refine rw_indexAddr rfl rfl rfl rfl (x_array Tryz.underlying192 sz191 hd4) ?_
    refine rw_storeE (v := .int .u32 _) (c' := arrW (wset W i)) sz191 rfl rfl rfl rfl hW (arrW_set hd4) (by show _ < 4; omega) rfl (by nofun) (fun S23 hS23 kS23 => ?_)
    refine rw_nil ?_; intro w hM
    simp only [Exit.then, Exit.inBlock]
    refine re hM ?_
    refine mv ?_
    refine rw_bin rfl rfl rfl rfl (b_add64 _ 1) ?_
    refine asg ?_
    refine rw_nil ?_; intro w hM
    refine ⟨t.n + 1 - (i + 1), _, rfl, by omega, i + 1, wset W i, S23, rfl, by omega, Know.of ⟨rfl, rfl, rfl, rfl, congrArg u64 (show (i + 1) % 2 ^ 64 = i + 1 by omega), trivial⟩, hM, le_keep hle5 n6 kS23, hS23, ⟨wset_lt hMk.lt _, fun s hs hf => (hsl s hs hf).mono (Mono.set _ _), fun g hg hx => ?_⟩⟩
    rcases Nat.lt_or_ge g i with h1 | h1
    ·exact Mono.set _ _ _ (hMk.groups g h1 hx)
    ·rw [show g = i by omega]; exact wset_same _ _
   ·refine wp_skip ?_
    simp only [Exit.then, Exit.inBlock]
    refine re hM ?_
    refine mv ?_
    refine rw_bin rfl rfl rfl rfl (b_add64 _ 1) ?_
    refine asg ?_
    refine rw_nil ?_; intro w hM
    refine ⟨t.n + 1 - (i + 1), _, rfl, by omega, i + 1, W, S, rfl, by omega, Know.of ⟨rfl, rfl, rfl, rfl, congrArg u64 (show (i + 1) % 2 ^ 64 = i + 1 by omega), trivial⟩, hM, hle5, hW, ⟨hMk.lt, hsl, fun g hg hx => ?_⟩⟩
    rcases Nat.lt_or_ge g i with h1 | h1
    ·exact hMk.groups g h1 hx
    ·rw [show g = i by omega] at hx; exact absurd (empty_mask0 hT.sl hi' hy) hx
 ·have hi' : i = t.n := by have := of_decide_eq_false hc; omega
  subst hi'
  refine wp_exit ?_
  simp only [Exit.then, Exit.inBlock, if_true]
  have hp7 := hn.2
  refine rs hM ?_
  refine asg ?_
  refine rw_nil ?_; intro w hM
  refine wp_seq ?_
  refine rs hM ?_
  refine asg ?_
  refine rw_nil ?_; intro w hM
  refine wp_block ?_
  refine wp_loop_s (fun m f w => ∃ i c, m = t.n + 1 - i ∧ i ≤ t.n ∧ Know f [(0, .pointer (some ⟨b, 0, none⟩)), (1, .pointer (some ⟨bty, 0, none⟩)), (2, .pointer (some ⟨bm, 0, none⟩)), (6, .pointer (some ⟨b6, 0, none⟩)), (16, i64 (c : Nat)), (17, u64 i)] ∧ Mem w0 w S ∧ c ≤ 8 * i) (t.n + 1 - 0) ?_ ?_
  ·exact ⟨0, 0, rfl, by omega, Know.of ⟨rfl, rfl, rfl, rfl, rfl, rfl, trivial⟩, hM, by omega⟩
  clear hM
  rintro m f w ⟨i, c, rfl, hi, ⟨g1, rfl⟩, hM, hcn⟩
  refine wp_seq ?_
  refine rs hM ?_
  refine mv ?_
  refine mv ?_
  refine nck ?_
  refine fa fr158_5 ?_
  refine fa fr156_1 ?_
  refine lo ld22 hb' ?_
  refine rw_bin rfl rfl rfl rfl (b_le _ _) ?_
  refine rw_nil ?_; intro w hM
  refine wp_if (tmp_lt rfl) rfl (fun hc => ?_) (fun hc => ?_)
  ·have hi' : i < t.n := by have := of_decide_eq_true hc; omega
   have hd4 : i / 32 < 4 := by omega
   refine wp_skip ?_
   refine wp_seq ?_
   refine wp_block ?_
   refine wp_seq ?_
   refine rs hM ?_
   refine mv ?_
   refine rw_bin rfl rfl rfl rfl (b_quo64 _ 32 (by decide) (by omega)) ?_
   refine rw_indexAddr rfl rfl rfl rfl (x_array Tryz.underlying192 sz191 hd4) ?_
   refine rw_load ld191 rfl rfl rfl hW (encW_cell hd4) ?_
   refine mv ?_
   refine rw_bin rfl rfl rfl rfl (b_rem64 _ 32 (by decide)) ?_
   refine rw_bin rfl rfl rfl rfl (b_shr32 _ _ (by omega)) ?_
   refine rw_bin rfl rfl rfl rfl (b_and32 _ 1 (Nat.lt_of_le_of_lt (Nat.div_le_self _ _) (hMk.lt _)) (by decide)) ?_
   refine rw_bin rfl rfl rfl rfl (b_ne _ _) ?_
   refine rw_nil ?_; intro w hM
   refine wp_if (tmp_lt rfl) rfl (fun hc => ?_) (fun hc => ?_)
   ·refine wp_exit ?_
    simp only [Exit.then, Exit.inBlock, if_true]
    refine re hM ?_
    refine mv ?_
    refine rw_bin rfl rfl rfl rfl (b_add64 _ 1) ?_
    refine asg ?_
    refine rw_nil ?_; intro w hM
    exact ⟨t.n + 1 - (i + 1), _, rfl, by omega, i + 1, c, rfl, by omega, Know.of ⟨rfl, rfl, rfl, rfl, rfl, congrArg u64 (show (i + 1) % 2 ^ 64 = i + 1 by omega), trivial⟩, hM, by omega⟩
   ·refine wp_skip ?_
    have hgr := Gr.bytes hT.sl.ok i
    refine rs hM ?_
    refine mv ?_
    refine nck ?_
    refine fa fr158_5 ?_
    refine mv ?_
    refine mv ?_
    refine rw_callq cr93 rfl rfl (fun H' w hle' hM => c93 hM (hle' _ _ hb') rfl hi') rfl ?_
    refine rw_allocN Tryz.zeroValue104 rfl rfl (fun b18 G18 n18 l18 e18 k18 => ?_)
    refine rw_store (v := .agg #[.pointer _]) sz104 rfl rfl rfl rfl e18 rfl rfl rfl (by nofun) (fun S29 hS29 kS29 => ?_)
    refine rw_nil ?_; intro w hM
    have hle5 := le_keep l18 n18 kS29
    have hg5 := hle5 _ _ (hle _ _ hg)
    refine rs hM ?_
    refine rw_callq cr90 rfl rfl (fun H' w hle hM => c90 hM (hle _ _ hS29) rfl) rfl ?_
    refine nck ?_
    refine rw_load ld145 rfl rfl rfl hg5 (encG_ctrl hi') ?_
    refine rw_callq cr126 rfl rfl (fun H' w hle hM => c126 hM _ hgr) rfl ?_
    refine asg ?_
    refine rw_nil ?_; intro w hM
    have hc8 := card8_le _ (mk8_lt (fun q => decide (128 ≤ t.G.at i q)))
    generalize hcc : card8 (mk8 (fun q => decide (128 ≤ t.G.at i q))) = cc at hc8
    refine re hM ?_
    refine mv ?_
    refine mv ?_
    refine rw_callq (v := i64 (cc : Nat)) cr134 rfl rfl (fun H' w hle hM => hcc ▸ c134 hM (mk8_lt _)) rfl ?_
    refine rw_bin rfl rfl rfl rfl (b_addi (by omega) (by omega)) ?_
    refine asg ?_
    refine rw_nil ?_; intro w hM
    simp only [Exit.then, Exit.inBlock]
    refine re hM ?_
    refine mv ?_
    refine rw_bin rfl rfl rfl rfl (b_add64 _ 1) ?_
    refine asg ?_
    refine rw_nil ?_; intro w hM
    exact ⟨t.n + 1 - (i + 1), _, rfl, by omega, i + 1, c + cc, rfl, by omega, Know.of ⟨rfl, rfl, rfl, rfl, rfl, congrArg u64 (show (i + 1) % 2 ^ 64 = i + 1 by omega), trivial⟩, hM.mono hle5, by omega⟩
  ·have hi' : i = t.n := by have := of_decide_eq_false hc; omega
   subst hi'
   refine wp_exit ?_
   simp only [Exit.then, Exit.inBlock, if_true]
   refine wp_seq ?_
   refine rs hM ?_
   refine mv ?_
   refine rw_bin rfl rfl rfl rfl (b_muli (b := 10) (by omega) (by omega)) ?_
   refine mv ?_
   refine nck ?_
   refine fa fr158_1 ?_
   refine lo ld152 hb' ?_
   refine rw_conv rfl rfl rfl (c_i64 Tryz.underlying152 Tryz.underlying3 (by omega) (by omega)) ?_
   refine rw_bin rfl rfl rfl rfl (b_lt _ _) ?_
   refine rw_nil ?_; intro w hM
   refine wp_if (tmp_lt rfl) rfl (fun hc => ?_) (fun hc => ?_)
   ·refine wp_ret ?_
    simp only [Exit.then]
    exact post_none' rfl ⟨rfl, hnone hle hM⟩
   refine wp_skip ?_
   refine rs hM ?_
   refine asg ?_
   refine rw_nil ?_; intro w hM
   refine wp_block ?_
   have hgb6 : t.gb ≠ b6 := fun e => by rw [← e, hg] at n6; cases n6
   have hbb6 : b ≠ b6 := fun e => by rw [← e, hb] at n6; cases n6
   refine wp_loop_s (fun m f w => ∃ i P S, m = t.n + 1 - i ∧ i ≤ t.n ∧ Know f [(0, .pointer (some ⟨b, 0, none⟩)), (1, .pointer (some ⟨bty, 0, none⟩)), (2, .pointer (some ⟨bm, 0, none⟩)), (6, .pointer (some ⟨b6, 0, none⟩)), (20, u64 i)] ∧ Pruning K w0 H b b6 t W P i w S ∧ ∀ s, P s = true → s < 8 * i) (t.n + 1 - 0) ?_ ?_
   ·refine ⟨0, fun _ => false, S, rfl, by omega, Know.of ⟨rfl, rfl, rfl, rfl, rfl, trivial⟩, ⟨hM, ?_, ?_, hW, fun x u hx _ _ => hle _ _ hx, fun s h => by simp at h, fun s hs => by omega⟩, fun s h => by simp at h⟩
    ·rw [cnt_zero (fun _ _ => rfl)]; exact hb'
    ·rw [Gr.unpoint_none]; exact hle _ _ hg
   clear hM
   rintro m f w ⟨i, P, S', rfl, hi, ⟨g2, rfl⟩, hPr, hPi⟩
   have hM := hPr.mem
   have hbP := hPr.tb
   have hWP := hPr.wd
   refine wp_seq ?_
   refine rs hM ?_
   refine mv ?_
   refine mv ?_
   refine nck ?_
   refine fa fr158_5 ?_
   refine fa fr156_1 ?_
   refine lo ld22 hbP ?_
   refine rw_bin rfl rfl rfl rfl (b_le _ _) ?_
   refine rw_nil ?_; intro w hM
   refine wp_if (tmp_lt rfl) rfl (fun hc => ?_) (fun hc => ?_)
   ·have hi' : i < t.n := by have : (i : Int) ≤ ((t.n - 1 : Nat) : Int) := of_decide_eq_true hc; omega
    have hd4 : i / 32 < 4 := by omega
    refine wp_skip ?_
    refine wp_seq ?_
    refine wp_block ?_
    refine wp_seq ?_
    refine rs hM ?_
    refine mv ?_
    refine rw_bin rfl rfl rfl rfl (b_quo64 _ 32 (by decide) (by omega)) ?_
    refine rw_indexAddr rfl rfl rfl rfl (x_array Tryz.underlying192 sz191 hd4) ?_
    refine rw_load ld191 rfl rfl rfl hWP (encW_cell hd4) ?_
    refine mv ?_
    refine rw_bin rfl rfl rfl rfl (b_rem64 _ 32 (by decide)) ?_
    refine rw_bin rfl rfl rfl rfl (b_shr32 _ _ (by omega)) ?_
    refine rw_bin rfl rfl rfl rfl (b_and32 _ 1 (Nat.lt_of_le_of_lt (Nat.div_le_self _ _) (hMk.lt _)) (by decide)) ?_
    refine rw_bin rfl rfl rfl rfl (b_ne _ _) ?_
    refine rw_nil ?_; intro w hM
    refine wp_if (tmp_lt rfl) rfl (fun hy => ?_) (fun hy => ?_)
    ·have hy' : wbit W i = true := wbit_shift.symm.trans hy
     refine wp_exit ?_
     simp only [Exit.then, Exit.inBlock, if_true]
     refine re hM ?_
     refine mv ?_
     refine rw_bin rfl rfl rfl rfl (b_add64 _ 1) ?_
     refine asg ?_
     refine rw_nil ?_; intro w hM
     refine ⟨t.n + 1 - (i + 1), _, rfl, by omega, i + 1, P, S', rfl, by omega, Know.of ⟨rfl, rfl, rfl, rfl, congrArg u64 (show (i + 1) % 2 ^ 64 = i + 1 by omega), trivial⟩, ⟨hM, hbP, hPr.gs, hWP, hPr.rest, hPr.del, fun s hs h1 h2 => ?_⟩, fun s h => by have := hPi s h; omega⟩
     rcases Nat.lt_or_ge s (8 * i) with h3 | h3
     ·exact hPr.all s h3 h1 h2
     ·rw [show s / 8 = i by omega, hy'] at h2; cases h2
    ·have hy' : wbit W i = false := wbit_shift.symm.trans hy
     have hpk : t.G.packed i := Classical.byContradiction fun hx => by rw [hMk.groups i hi' hx] at hy'; cases hy'
     refine wp_skip ?_
     have hgP := hPr.gs
     have hokP : (t.G.unpoint P).ok := ⟨fun s => by
      rw [Gr.unpoint_c]; split
      ·omega
      ·exact hT.sl.ok.1 s, hT.sl.ok.2.1, hT.sl.ok.2.2⟩
     have hgr := Gr.bytes hokP i
     have hat : ∀ q, q < 8 → (t.G.unpoint P).at i q = t.G.c (8 * i + q) := fun q hq => by
      show (t.G.unpoint P).c (8 * i + q) = _
      rw [Gr.unpoint_c, if_neg (fun h => by have := hPi _ h; omega)]
     refine rs hM ?_
     refine mv ?_
     refine nck ?_
     refine fa fr158_5 ?_
     refine mv ?_
     refine mv ?_
     refine rw_callq cr93 rfl rfl (fun H' w hle' hM => c93 hM (hle' _ _ hbP) rfl hi') rfl ?_
     refine rw_allocN Tryz.zeroValue104 rfl rfl (fun b21 G21 n21 l21 e21 k21 => ?_)
     refine rw_store (v := .agg #[.pointer _]) sz104 rfl rfl rfl rfl e21 rfl rfl rfl (by nofun) (fun S37 hS37 kS37 => ?_)
     refine rw_nil ?_; intro w hM
     have hle5 := le_keep l21 n21 kS37
     have hg5 := hle5 _ _ hgP
     refine rs hM ?_
     refine rw_callq cr90 rfl rfl (fun H' w hle hM => c90 hM (hle _ _ hS37) rfl) rfl ?_
     refine nck ?_
     refine rw_load ld145 rfl rfl rfl hg5 (encG_ctrl hi') ?_
     refine rw_callq cr126 rfl rfl (fun H' w hle hM => c126 hM _ hgr) rfl ?_
     refine asg ?_
     refine rw_nil ?_; intro w hM
     have d1 : t.gb ≠ b21 := fun e => by rw [e, n21] at hgP; cases hgP
     have d2 : b ≠ b21 := fun e => by rw [e, n21] at hbP; cases hbP
     have d3 : b6 ≠ b21 := fun e => by rw [e, n21] at hWP; cases hWP
     refine wp_block ?_
     refine wp_loop_s (fun m f w => ∃ P S, m < 256 ∧ Know f [(0, .pointer (some ⟨b, 0, none⟩)), (1, .pointer (some ⟨bty, 0, none⟩)), (2, .pointer (some ⟨bm, 0, none⟩)), (6, .pointer (some ⟨b6, 0, none⟩)), (20, u64 i), (21, .pointer (some ⟨b21, 0, none⟩)), (22, u64 (bsw m))] ∧ Pruning K w0 H b b6 t W P i w S ∧ S b21 = some (.cells #[.pointer (some ⟨t.gb, 17 * i, none⟩)] 104 (0, 0)) ∧ (∀ s, P s = true → s < 8 * (i + 1)) ∧
      (∀ q, q < 8 → t.G.c (8 * i + q) = 254 → P (8 * i + q) = true ∨ m.testBit q = true) ∧ ∀ q, q < 8 → m.testBit q = true → t.G.c (8 * i + q) = 254 ∧ P (8 * i + q) = false) (mk8 fun q => decide (128 ≤ (t.G.unpoint P).at i q)) ?_ ?_
     ·refine ⟨P, S37, mk8_lt _, Know.of ⟨rfl, rfl, rfl, rfl, rfl, rfl, rfl, trivial⟩, ⟨hM, hle5 _ _ hbP, hg5, hle5 _ _ hWP, fun x u hx h1 h2 => hle5 _ _ (hPr.rest x u hx h1 h2), hPr.del, hPr.all⟩, hS37, fun s h => by have := hPi s h; omega, fun q hq h => .inr ?_, fun q hq h => ?_⟩
      ·rw [mk8_bit _ q hq, hat q hq, h]; decide
      ·rw [mk8_bit _ q hq, hat q hq] at h
       have h1 := of_decide_eq_true h
       refine ⟨?_, ?_⟩
       ·rcases hT.sl.st (8 * i + q) (by omega) with h2 | h2 | h2
        ·omega
        ·exact absurd h2 (hpk q hq)
        ·exact h2
       ·cases hx : P (8 * i + q) with
        | false => rfl
        | true => have := hPi _ hx; omega
     clear hM hPr hbP hWP hgP hokP hgr hat hle5 hg5 hPi hS37 kS37
     rintro m f w ⟨P, S', hmb, ⟨g3, rfl⟩, hPr, h21, hPi, hA, hB⟩
     have hM := hPr.mem
     have hbP := hPr.tb
     have hgP := hPr.gs
     have hWP := hPr.wd
     have hokP : (t.G.unpoint P).ok := ⟨fun s => by
      rw [Gr.unpoint_c]; split
      ·omega
      ·exact hT.sl.ok.1 s, hT.sl.ok.2.1, hT.sl.ok.2.2⟩
     refine wp_seq ?_
     refine rs hM ?_
     refine mv ?_
     refine rw_bin rfl rfl rfl rfl (b_ne _ _) ?_
     refine rw_nil ?_; intro w hM
     refine wp_if (tmp_lt rfl) rfl (fun hc => ?_) (fun hc => ?_)
     ·have h0 : m ≠ 0 := fun e => by subst e; simp [bsw, word, wl] at hc
      refine wp_skip ?_
      refine wp_block ?_
      have hlow := low_lt m
      have hin := low_in m hmb h0
      obtain ⟨h254, hnP⟩ := hB _ hlow hin
      refine rs hM ?_
      refine mv ?_
      refine rw_callq cr103 rfl rfl (fun H' w hle hM => c103 hM hD hmb h0) rfl ?_
      refine asg ?_
      refine rw_nil ?_; intro w hM
      refine rs hM ?_
      refine mv ?_
      refine rw_callq cr104 rfl rfl (fun H' w hle hM => c104 hM hmb h0) rfl ?_
      refine asg ?_
      refine rw_nil ?_; intro w hM
      let P' : Nat → Bool := fun s => decide (s = 8 * i + low m) || P s
      have hP' : ∀ s, P' s = true → s < 8 * t.n ∧ t.G.c s = 254 ∧ wbit W (s / 8) = false := fun s hs => by
       simp only [P', Bool.or_eq_true, decide_eq_true_eq] at hs
       rcases hs with rfl | hs
       ·exact ⟨by omega, h254, by rw [show (8 * i + low m) / 8 = i by omega]; exact hy'⟩
       ·exact hPr.del s hs
      have hle7 := hT.prune_le (P := P') fun s hs => ⟨(hP' s hs).1, (hP' s hs).2.1⟩
      have hcnt : cnt P' (8 * t.n) = cnt P (8 * t.n) + 1 := by
       have := cnt_set (q := P') (r := P) (s := 8 * i + low m) (n := 8 * t.n) (by omega) (fun u _ hne => by simp [P', hne])
       rw [hnP] at this
       simp [P'] at this
       exact this
      have hG' : (t.G.unpoint P).setC (8 * i + low m) 128 = t.G.unpoint P' := by
       simp only [Gr.setC, Gr.unpoint, Gr.mk.injEq, and_true]
       funext s
       by_cases e : s = 8 * i + low m
       ·subst e; simp [P']
       ·rw [if_neg e]; simp [P', e]
      refine rs hM ?_
      refine rw_callq cr90 rfl rfl (fun H' w hle hM => c90 hM (hle _ _ h21) rfl) rfl ?_
      refine mv ?_
      refine rw_callS cr116 rfl rfl (fun w hM => c116 (v := 128) hM hokP hgP hi' hlow (by omega)) rfl (by nofun) (fun S42 hS42 kS42 => ?_)
      refine rw_nil ?_; intro w hM
      have hb42 := (kS42 _ n2).trans hbP
      refine re hM ?_
      refine mv ?_
      refine nck ?_
      refine fa fr158_2 ?_
      refine lo ld152 hb42 ?_
      refine rw_bin rfl rfl rfl rfl (b_add16 (t.gl + cnt P (8 * t.n)) 1 (by omega)) ?_
      refine nck ?_
      refine fa fr158_2 ?_
      refine rw_store1 (v := .int .u16 _) sz152 rfl rfl rfl rfl hb42 rfl rfl (by nofun) (fun S43 hS43 kS43 => ?_)
      refine rw_nil ?_; intro w hM
      refine ⟨tl8 m, _, rfl, tl8_less m hmb h0, P', S43, tl8_lt m hmb, Know.of ⟨rfl, rfl, rfl, rfl, rfl, rfl, rfl, trivial⟩, ⟨hM, ?_, ?_, ?_, ?_, hP', ?_⟩, ?_, ?_, ?_, ?_⟩
      ·rw [hS43, hcnt]; rfl
      ·rw [kS43 _ n2.symm, hS42, hG']
      ·rw [kS43 _ hbb6.symm, kS42 _ hgb6.symm]; exact hWP
      ·intro x u hx h1 h2; rw [kS43 _ h1, kS42 _ h2]; exact hPr.rest x u hx h1 h2
      ·intro s hs h1 h2; simp only [P', Bool.or_eq_true]; exact .inr (hPr.all s hs h1 h2)
      ·rw [kS43 _ d2.symm, kS42 _ d1.symm]; exact h21
      ·intro s hs; simp only [P', Bool.or_eq_true, decide_eq_true_eq] at hs
       rcases hs with rfl | hs
       ·omega
       ·exact hPi s hs
      ·intro q hq h
       rcases hA q hq h with h1 | h1
       ·exact .inl (by simp only [P', Bool.or_eq_true]; exact .inr h1)
       ·by_cases e : q = low m
        ·subst e; exact .inl (by simp [P'])
        ·exact .inr (by rw [tl8_bit m hmb q hq, h1, nat_beq_f.2 e]; rfl)
      ·intro q hq h
       rw [tl8_bit m hmb q hq] at h
       simp only [Bool.and_eq_true, Bool.not_eq_true'] at h
       obtain ⟨h1, h2⟩ := h
       have h3 := nat_beq_f.1 h2
       refine ⟨(hB q hq h1).1, ?_⟩
       simp only [P', Bool.or_eq_false_iff, decide_eq_false_iff_not]
       exact ⟨by omega, (hB q hq h1).2⟩
     ·have h0 : m = 0 := by
       have : (bsw m : Int) = 0 := by simpa using hc
       exact (bsw_zero m hmb).1 (by omega)
      subst h0
      refine wp_exit ?_
      simp only [Exit.then, Exit.inBlock, if_true]
      refine re hM ?_
      refine mv ?_
      refine rw_bin rfl rfl rfl rfl (b_add64 _ 1) ?_
      refine asg ?_
      refine rw_nil ?_; intro w hM
      refine ⟨t.n + 1 - (i + 1), _, rfl, by omega, i + 1, P, S', rfl, by omega, Know.of ⟨rfl, rfl, rfl, rfl, congrArg u64 (show (i + 1) % 2 ^ 64 = i + 1 by omega), trivial⟩, ⟨hM, hbP, hgP, hWP, hPr.rest, hPr.del, fun s hs h1 h2 => ?_⟩, hPi⟩
      rcases Nat.lt_or_ge s (8 * i) with h3 | h3
      ·exact hPr.all s h3 h1 h2
      ·obtain ⟨q, rfl⟩ : ∃ q, s = 8 * i + q := ⟨s - 8 * i, by omega⟩
       rcases hA q (by omega) h1 with h4 | h4
       ·exact h4
       ·simp at h4
   ·have hi' : i = t.n := by have : ¬ (i : Int) ≤ ((t.n - 1 : Nat) : Int) := of_decide_eq_false hc; omega
    subst hi'
    refine wp_exit ?_
    simp only [Exit.then, Exit.inBlock, if_true]
    refine post_none rfl ⟨rfl, P, ⟨fun s h => ⟨(hPr.del s h).1, (hPr.del s h).2.1⟩, fun g q r hq hr h1 h2 => ?_, fun s i hs hf he hi0 hpi j hj q hq => ?_⟩, hM.mono (upd2_le hbP hPr.gs hPr.rest n2)⟩
    ·have h3 := hPr.del _ h1
     refine hPr.all _ (by omega) h2 ?_
     rw [show (8 * g + r) / 8 = g by omega]; rw [show (8 * g + q) / 8 = g by omega] at h3; exact h3.2.2
    ·cases hx : P (8 * pr t.n (K.hash (t.G.k s)) j + q) with
     | false => rfl
     | true =>
      have h3 := hPr.del _ hx
      rw [show (8 * pr t.n (K.hash (t.G.k s)) j + q) / 8 = pr t.n (K.hash (t.G.k s)) j by omega] at h3
      have h4 := hMk.slots s hs hf he i hi0 hpi j hj ⟨q, hq, by omega⟩
      rw [h4] at h3; cases h3.2.2
end
section
section
variable {P : Program} {ops : Array Oper} {sp br : List Nat} {d : Bool} {w0 : World} {K : Slots → World → Prop} {i : Nat} {rest : List Nat} {Hq H : Heap} {f : Slots}
variable {dst : Tmp} {ty : TypeId} {pos : String} {aft : Array Edge} {g : Option (Nat × Bool)}
theorem b_nil_eq {t e : TypeId} (p : Option Addr) (h : P.underlying t = some (.pointer e)) : BinRun P .eql t (.pointer p) (.pointer none) (.bool p.isNone) := fun w X Y => by
 have hp : P.underlying t = some (.pointer (P.pointee t)) := by simp [Program.pointee, h]
 have h1 := run_eql_pointer_nil w t p hp
 simp only [eqGuard]
 cases p <;> exact h1
theorem b_nil_ne {t e : TypeId} (p : Option Addr) (h : P.underlying t = some (.pointer e)) : BinRun P .neq t (.pointer p) (.pointer none) (.bool (!p.isNone)) := fun w X Y => by
 have hp : P.underlying t = some (.pointer (P.pointee t)) := by simp [Program.pointee, h]
 have h1 := run_neq_pointer_nil w t p hp
 simp only [eqGuard]
 cases p <;> exact h1
/-- A row of n zeros. -/
structure RowRun (P : Program) (t e : TypeId) (bytes size : Nat) (z : Array Value) : Prop where
 und : P.underlying t = some (.slice e)
 run : ∀ w n, bytes * n ≤ 281474976710656 → n ≤ 9223372036854775807 → ∀ k j, (Instr.makeSlice t (.int k (n : Int)) (.int j (n : Int))).run P w = .ok (.slice (some ⟨w.heap.size, 0, none⟩) n n) (w.alloc (.cells (madeCells z (n * size)) e (0, 0)))
theorem RowRun.of {t e : TypeId} {i : TypeInfo} {z : Value} (ht : P.underlying t = some (.slice e)) (hi : P.info? e = some i) (hz : i.zero = some z) : RowRun P t e i.bytes i.size z.cells :=
 ⟨ht, fun w n h1 h2 k j => by
  have := run_make w t e i z ht hi hz k j n n (by omega) (by omega) (by rw [← Int.natCast_mul]; omega) (by omega)
  simpa using this⟩
theorem rw_makeU {t e : TypeId} {bytes size n : Nat} {z : Array Value} {x y : Operand} {k j : IntKind} (hr : RowRun P t e bytes size z) (ho : ops[i]? = some ⟨some dst, .makeSlice t x y, ty, pos, aft, g⟩) (hw : wantedS ops f ⟨some dst, .makeSlice t x y, ty, pos, aft, g⟩ = true) (hx : ev f x = .int k (n : Int)) (hy : ev f y = .int j (n : Int)) (h1 : bytes * n ≤ 281474976710656) (h2 : n ≤ 9223372036854775807)
  (hd : d = true → sp.contains i = true)
  (h : ∀ (b : Nat) (G : Heap), H b = none → H.le G → G b = some (.cells (madeCells z (n * size)) e (0, 0)) → (∀ k, k ≠ b → G k = H k) → ∃ Hq', (d = true → br.contains i = false → Hq' = Hq) ∧ Hq'.le G ∧ RW P ops sp br d w0 K rest Hq' G (f.set dst (.slice (some ⟨b, 0, none⟩) n n))) : RW P ops sp br d w0 K (i :: rest) Hq H f :=
 rw_s ho hw hd fun w hM => by
  simp only [execOp, hx, hy]
  show UponR P _ (Sem.run P (Sem.bind _ _) w)
  rw [Sem.run_bind', hr.run w n h1 h2 k j]
  obtain ⟨Hq', a, b, c⟩ := h w.heap.size (H.upd w.heap.size (.cells (madeCells z (n * size)) e (0, 0))) hM.fresh (Heap.le_upd _ hM.fresh) (Heap.upd_same _ _ _) (fun _ hk => Heap.upd_ne _ _ hk)
  exact ⟨Hq', _, a, b, hM.alloc _, c⟩
theorem rw_makeN {t e : TypeId} {bytes size n : Nat} {z : Array Value} {x y : Operand} {k j : IntKind} (hr : RowRun P t e bytes size z) (ho : ops[i]? = some ⟨some dst, .makeSlice t x y, ty, pos, aft, g⟩) (hw : wantedS ops f ⟨some dst, .makeSlice t x y, ty, pos, aft, g⟩ = true) (hx : ev f x = .int k (n : Int)) (hy : ev f y = .int j (n : Int)) (h1 : bytes * n ≤ 281474976710656) (h2 : n ≤ 9223372036854775807)
  (h : ∀ (b : Nat) (G : Heap), H b = none → H.le G → G b = some (.cells (madeCells z (n * size)) e (0, 0)) → (∀ k, k ≠ b → G k = H k) → RW P ops sp br false w0 K rest G G (f.set dst (.slice (some ⟨b, 0, none⟩) n n))) : RW P ops sp br false w0 K (i :: rest) Hq H f :=
 rw_makeU hr ho hw hx hy h1 h2 (by nofun) fun b G a1 a2 a3 a4 => ⟨G, fun e => (by cases e), Heap.le_refl _, h b G a1 a2 a3 a4⟩
theorem rw_makeD {t e : TypeId} {bytes size n : Nat} {z : Array Value} {x y : Operand} {k j : IntKind} (hr : RowRun P t e bytes size z) (ho : ops[i]? = some ⟨some dst, .makeSlice t x y, ty, pos, aft, g⟩) (hw : wantedS ops f ⟨some dst, .makeSlice t x y, ty, pos, aft, g⟩ = true) (hx : ev f x = .int k (n : Int)) (hy : ev f y = .int j (n : Int)) (h1 : bytes * n ≤ 281474976710656) (h2 : n ≤ 9223372036854775807)
  (hd : sp.contains i = true) (hq : Hq.le H)
  (h : ∀ (b : Nat) (G : Heap), H b = none → H.le G → G b = some (.cells (madeCells z (n * size)) e (0, 0)) → (∀ k, k ≠ b → G k = H k) → RW P ops sp br true w0 K rest Hq G (f.set dst (.slice (some ⟨b, 0, none⟩) n n))) : RW P ops sp br true w0 K (i :: rest) Hq H f :=
 rw_makeU hr ho hw hx hy h1 h2 (fun _ => hd) fun b G a1 a2 a3 a4 => ⟨Hq, fun _ _ => rfl, Heap.le_trans hq a2, h b G a1 a2 a3 a4⟩
/-- A byte of a string. -/
theorem rw_index {t : TypeId} {x y : Operand} {s : ByteArray} {k : IntKind} {n b : Nat} (ht : P.underlying t = some .string) (ho : ops[i]? = some ⟨some dst, .index t x y, ty, pos, aft, g⟩) (hw : wantedS ops f ⟨some dst, .index t x y, ty, pos, aft, g⟩ = true) (hx : ev f x = .string s) (hy : ev f y = .int k (n : Int)) (hs : (s[n]?).map (·.toNat) = some b)
  (h : RW P ops sp br d w0 K rest Hq H (f.set dst (u8 b))) : RW P ops sp br d w0 K (i :: rest) Hq H f :=
 rw_q ho hw (v := u8 b) (fun _ w _ _ => by
  simp only [execOp, hx, hy, Instr.index, asIntOf, underlying, program, bind, pure, Sem.bind, Sem.run, ht]
  have h0 : (0 : Int) ≤ (n : Int) := by omega
  simp only [h0, if_true, Int.toNat_natCast]
  cases hh : s[n]? with
  | none => rw [hh] at hs; cases hs
  | some c => rw [hh] at hs; cases hs; rfl) h
end
end
section
variable {w0 w : World} {H : Heap}
/-! ### A number's length -/
theorem nz {n : Nat} (h : 0 < n) : ((n : Int) == (0 : Int)) = false := by simp; omega
def IsLen (x L : Nat) : Prop := x < 2 ^ L ∧ (L = 0 ∨ 2 ^ (L - 1) ≤ x)
theorem IsLen.div {x L k : Nat} (h : IsLen x L) (hx : 2 ^ k ≤ x) : k < L ∧ IsLen (x / 2 ^ k) (L - k) := by
 have h1 : k < L := by
  rcases Nat.lt_or_ge k L with h1 | h1
  ·exact h1
  ·have := Nat.pow_le_pow_right (n := 2) (by omega) h1; have := h.1; omega
 refine ⟨h1, ?_, ?_⟩
 ·rw [Nat.div_lt_iff_lt_mul (Nat.two_pow_pos k), ← Nat.pow_add, show L - k + k = L from by omega]; exact h.1
 ·rcases h.2 with h2 | h2
  ·omega
  ·refine .inr ?_
   rw [Nat.le_div_iff_mul_le (Nat.two_pow_pos k), ← Nat.pow_add, show L - k - 1 + k = L - 1 from by omega]; exact h2
def len8 (n : Nat) : Nat := if n = 0 then 0 else Nat.log2 n + 1
def len8s : ByteArray := ⟨((List.range 256).map fun n => UInt8.ofNat (len8 n)).toArray⟩
theorem len8s_get : ∀ n, n < 256 → (len8s[n]?).map (·.toNat) = some (len8 n) := by decide +kernel
theorem len8_is : ∀ n, n < 256 → ∀ L, L < 9 → (n < 2 ^ L ∧ (L = 0 ∨ 2 ^ (L - 1) ≤ n)) → len8 n = L := by decide +kernel
theorem IsLen.small {x L : Nat} (h : IsLen x L) (hx : x < 256) : len8 x = L ∧ L < 9 := by
 have h1 : L < 9 := by
  rcases h.2 with h2 | h2
  ·omega
  ·rcases Nat.lt_or_ge L 9 with h3 | h3
   ·exact h3
   ·have : 2 ^ 8 ≤ 2 ^ (L - 1) := Nat.pow_le_pow_right (by omega) (by omega)
    omega
 exact ⟨len8_is x hx L h1 h, h1⟩
theorem c105 (hM : Mem w0 w H) {x L : Nat} (hx : x < 65536) (hL : IsLen x L) : Calls Tryz.prog 105 [u64 x].toArray w (Keeps w0 H (i64 L)) := by
 refine calls_start Tryz.func105 rfl Tryz.ntmps105 (Nat.le_of_ble_eq_true rfl) ?_
 refine rs hM ?_
 refine asg ?_
 refine rw_nil ?_; intro w hM
 refine wp_seq ?_
 refine rs hM ?_
 refine mv ?_
 refine rw_bin rfl rfl rfl rfl (b_false (b_ge _ _) (by simp; omega)) ?_
 refine rw_nil ?_; intro w hM
 refine wp_if (tmp_lt rfl) rfl (by nofun) (fun hc => ?_)
 refine wp_skip ?_
 refine wp_seq ?_
 refine rs hM ?_
 refine mv ?_
 refine rw_bin rfl rfl rfl rfl (b_false (b_ge _ _) (by simp; omega)) ?_
 refine rw_nil ?_; intro w hM
 refine wp_if (tmp_lt rfl) rfl (by nofun) (fun hc => ?_)
 refine wp_skip ?_
 refine wp_seq ?_
 refine rs hM ?_
 refine mv ?_
 refine rw_bin rfl rfl rfl rfl (b_ge _ _) ?_
 refine rw_nil ?_; intro w hM
 refine wp_if (tmp_lt rfl) rfl (fun hc => ?_) (fun hc => ?_)
 ·have hx8 : 2 ^ 8 ≤ x := by have := of_decide_eq_true hc; omega
  obtain ⟨h1, h2⟩ := hL.div hx8
  obtain ⟨h3, h4⟩ := h2.small (by omega)
  refine rs hM ?_
  refine mv ?_
  refine rw_bin rfl rfl rfl rfl (b_shr64 _ 8 (by decide)) ?_
  refine asg ?_
  refine rw_nil ?_; intro w hM
  refine re hM ?_
  refine mv ?_
  refine rw_bin rfl rfl rfl rfl (b_addi (by omega) (by omega)) ?_
  refine asg ?_
  refine rw_nil ?_; intro w hM
  simp only [Exit.then]
  refine rs hM ?_
  refine mv ?_
  refine mv ?_
  refine rw_conv rfl rfl rfl (conv_eq (c_u8 Tryz.underlying22 Tryz.underlying5 _) (congrArg u8 (show x / 2 ^ 8 % 256 = x / 2 ^ 8 by omega))) ?_
  refine rw_index Tryz.underlying9 rfl rfl (s := len8s) (by kernel_rfl) rfl (len8s_get _ (by omega)) ?_
  refine rw_conv rfl rfl rfl (c_i64 Tryz.underlying5 Tryz.underlying3 (by omega) (by omega)) ?_
  refine rw_bin rfl rfl rfl rfl (b_addi (by omega) (by omega)) ?_
  refine asg ?_
  refine rw_nil ?_; intro w hM
  refine wp_ret ?_
  exact post_tmp (v := .int .i64 _) rfl rfl rfl (keep (congrArg i64 (by omega)) hM)
 ·have hx8 : x < 256 := by have := of_decide_eq_false hc; omega
  obtain ⟨h3, h4⟩ := hL.small hx8
  refine wp_skip ?_
  refine rs hM ?_
  refine mv ?_
  refine mv ?_
  refine rw_conv rfl rfl rfl (conv_eq (c_u8 Tryz.underlying22 Tryz.underlying5 _) (congrArg u8 (show x % 256 = x by omega))) ?_
  refine rw_index Tryz.underlying9 rfl rfl (s := len8s) (by kernel_rfl) rfl (len8s_get _ (by omega)) ?_
  refine rw_conv rfl rfl rfl (c_i64 Tryz.underlying5 Tryz.underlying3 (by omega) (by omega)) ?_
  refine rw_bin rfl rfl rfl rfl (b_addi (by omega) (by omega)) ?_
  refine asg ?_
  refine rw_nil ?_; intro w hM
  refine wp_ret ?_
  exact post_tmp (v := .int .i64 _) rfl rfl rfl (keep (congrArg i64 (by omega)) hM)
/-- The next power of two. -/
theorem c80 (hM : Mem w0 w H) {n L : Nat} (h0 : 0 < n) (hn : n < 65536) (hL : IsLen (n - 1) L) (hl : L < 17) : Calls Tryz.prog 80 [u64 n].toArray w (Keeps w0 H (.tuple #[u64 (2 ^ L), .bool false])) := by
 have hp : 2 ^ L < 2 ^ 64 := Nat.pow_lt_pow_right (by omega) (by omega)
 have hp1 : 1 ≤ 2 ^ L := Nat.one_le_two_pow
 have e1 : 1 * 2 ^ L % 2 ^ 64 = 2 ^ L := by rw [Nat.one_mul, Nat.mod_eq_of_lt hp]
 refine calls_start Tryz.func80 rfl Tryz.ntmps80 (Nat.le_of_ble_eq_true rfl) ?_
 refine rs hM ?_
 refine asg ?_
 refine asg ?_
 refine rw_nil ?_; intro w hM
 refine wp_seq ?_
 refine rs hM ?_
 refine mv ?_
 refine rw_bin rfl rfl rfl rfl (b_false (b_eq _ _) (by simp; omega)) ?_
 refine rw_nil ?_; intro w hM
 refine wp_if (tmp_lt rfl) rfl (by nofun) (fun hc => ?_)
 refine wp_skip ?_
 refine rs hM ?_
 refine mv ?_
 refine rw_bin rfl rfl rfl rfl (b_sub64_le _ 1 (by omega) (by omega)) ?_
 refine rw_callq cr105 rfl rfl (fun H' w hle hM => c105 hM (by omega) hL) rfl ?_
 refine rw_bin rfl rfl rfl rfl (b_shl64 1 _ (by omega)) ?_
 refine rw_assign (v := u64 (2 ^ L)) rfl rfl (congrArg u64 e1) ?_
 refine rw_nil ?_; intro w hM
 refine wp_seq ?_
 refine rs hM ?_
 refine mv ?_
 refine rw_bin rfl rfl rfl rfl (b_false (b_eq _ _) (nz hp1)) ?_
 refine rw_nil ?_; intro w hM
 refine wp_if (tmp_lt rfl) rfl (by nofun) (fun hc => ?_)
 refine wp_skip ?_
 refine rs hM ?_
 refine mv ?_
 refine asg ?_
 refine asg ?_
 refine rw_nil ?_; intro w hM
 refine wp_ret ?_
 exact post_tmp2 rfl rfl rfl rfl rfl (keep rfl hM)
theorem isLen_pow {p : Nat} : IsLen (2 ^ p - 1) p := by
 have := Nat.one_le_two_pow (n := p)
 refine ⟨by omega, ?_⟩
 cases p with
 | zero => exact .inl rfl
 | succ p => refine .inr ?_; rw [Nat.pow_succ] at *; show 2 ^ p ≤ _; have := Nat.one_le_two_pow (n := p); omega
theorem c81 (hM : Mem w0 w H) {a b : Nat} (h0 : 0 < a) (h1 : a < 2 ^ 32) (h2 : b < 2 ^ 16) : Calls Tryz.prog 81 [u64 a, u64 b].toArray w (Keeps w0 H (.tuple #[u64 (a * b), .bool false])) := by
 have hlt : a * b < 2 ^ 64 := Nat.lt_of_lt_of_le (Nat.mul_lt_mul_of_lt_of_le h1 (Nat.le_of_lt h2) (by decide)) (by decide)
 have hq : b ≤ 18446744073709551615 / a := by
  rw [Nat.le_div_iff_mul_le h0, Nat.mul_comm]; omega
 have hza : ((a : Int) == 0) = false := by simp; omega
 refine calls_start Tryz.func81 rfl Tryz.ntmps81 (Nat.le_of_ble_eq_true rfl) ?_
 refine rs hM ?_
 refine asg ?_
 refine asg ?_
 refine rw_nil ?_; intro w hM
 refine wp_seq ?_
 refine rs hM ?_
 refine mv ?_
 refine rw_bin rfl rfl rfl rfl (b_false (b_eq _ _) hza) ?_
 refine mv ?_
 refine mv ?_
 refine mv ?_
 refine rw_bin rfl rfl rfl rfl (b_quo64 18446744073709551615 _ h0 (by decide)) ?_
 refine rw_bin rfl rfl rfl rfl (b_true (b_le _ _) (decide_eq_true (by exact Int.ofNat_le.2 hq))) ?_
 refine rw_pick rfl rfl rfl rfl rfl ?_
 refine rw_nil ?_; intro w hM
 refine wp_if (tmp_lt rfl) rfl (fun hc => ?_) (by nofun)
 refine rs hM ?_
 refine mv ?_
 refine mv ?_
 refine rw_bin rfl rfl rfl rfl (b_mul64 _ _) ?_
 refine asg ?_
 refine asg ?_
 refine rw_nil ?_; intro w hM
 refine wp_ret ?_
 exact post_tmp2 (v := .int .u64 _) (v' := .bool _) rfl rfl rfl rfl rfl (keep (by rw [Nat.mod_eq_of_lt hlt]) hM)
theorem c83 (hM : Mem w0 w H) {d : Nat} (h : d ≤ 64) : Calls Tryz.prog 83 [u8 d].toArray w (Keeps w0 H (u8 (64 - d))) := by
 refine calls_start Tryz.func83 rfl Tryz.ntmps83 (Nat.le_of_ble_eq_true rfl) ?_
 refine rs hM ?_
 refine asg ?_
 refine rw_nil ?_; intro w hM
 refine wp_seq ?_
 refine wp_if (fun t e => by cases e) rfl (by nofun) (fun hc => ?_)
 refine wp_skip ?_
 refine rs hM ?_
 refine mv ?_
 refine rw_bin rfl rfl rfl rfl (b_sub8 64 _ h (by decide)) ?_
 refine asg ?_
 refine rw_nil ?_; intro w hM
 refine wp_ret ?_
 exact post_tmp rfl rfl rfl (keep rfl hM)
theorem c139 (hM : Mem w0 w H) {d : Nat} (h0 : 0 < d) (h : d ≤ 64) : Calls Tryz.prog 139 [u8 d].toArray w (Keeps w0 H (u64 (2 ^ (64 - d)))) := by
 refine calls_start Tryz.func139 rfl Tryz.ntmps139 (Nat.le_of_ble_eq_true rfl) ?_
 refine rs hM ?_
 refine asg ?_
 refine rw_nil ?_; intro w hM
 refine wp_seq ?_
 refine wp_if (fun t e => by cases e) rfl (by nofun) (fun hc => ?_)
 refine wp_skip ?_
 refine rs hM ?_
 refine mv ?_
 refine rw_bin rfl rfl rfl rfl (b_sub8 64 _ h (by decide)) ?_
 refine rw_bin rfl rfl rfl rfl (b_shl64 1 _ (by omega)) ?_
 refine asg ?_
 refine rw_nil ?_; intro w hM
 refine wp_ret ?_
 exact post_tmp (v := .int .u64 _) rfl rfl rfl (keep (by rw [Nat.one_mul, Nat.mod_eq_of_lt (Nat.pow_lt_pow_right (by omega) (by omega))]) hM)
theorem c66 (hM : Mem w0 w H) {b : Nat} {m : Mp} (hb : H b = some (encM m)) : Calls Tryz.prog 66 [.pointer (some ⟨b, 0, none⟩)].toArray w (Keeps w0 H (u64 m.used)) := by
 refine calls_start Tryz.func66 rfl Tryz.ntmps66 (Nat.le_of_ble_eq_true rfl) ?_
 refine rs hM ?_
 refine asg ?_
 refine rw_nil ?_; intro w hM
 refine rs hM ?_
 refine mv ?_
 refine nck ?_
 refine fa fr132_0 ?_
 refine lo ld22 hb ?_
 refine asg ?_
 refine rw_nil ?_; intro w hM
 refine wp_ret ?_
 exact post_tmp rfl rfl rfl (keep rfl hM)
end
end Go.Proofs.YtddpfkcofmfmpaaGreatDoor
