/-
  The guard: what it lets in is what is spoken of. Conditions stand in each contract. The guard, whole. Conditions stand in the contract. A script that is spoken of is right; the program works; whatever script: it holds. Conditions stand in each contract. The laws' small functions; FnScript walked. Conditions stand in each contract.
  Conditions stand in each lemma.
-/
import Derived.Test.YtddpfkcofmfmpaaGreatDoorQ27
namespace Go.Proofs.YtddpfkcofmfmpaaGreatDoor
open Go Go.RowKit
set_option maxRecDepth 20000
section
variable {w0 w : World} {H : Heap}
theorem wf_u64 {n : Nat} (h : n < 18446744073709551616) : (Lit.int .u64 (n : Int)).wf = true := by
 show (decide ((0 : Int) ≤ (n : Int)) && decide ((n : Int) ≤ (18446744073709551615 : Int))) = true
 rw [decide_eq_true (by omega), decide_eq_true (by omega)]; rfl
def seenU (K : KT) (l : List Stp) (i k : Nat) : Bool := !K.nan k && (l.take i).any fun s => decide (s.kind = 0) && s.key == k
theorem seenU_succ {K : KT} {l : List Stp} {i : Nat} {s : Stp} (h : l[i]? = some s) (k : Nat) : seenU K l (i + 1) k = (seenU K l i k || (!K.nan k && decide (s.kind = 0) && s.key == k)) := by
 unfold seenU
 rw [take_get h, List.any_append]
 cases K.nan k <;> simp
theorem Counts_at {K : KT} {l : List Stp} {i : Nat} {s : Stp} (h : l[i]? = some s) (h0 : s.kind = 0) : Counts K l i = !seenU K l i s.key := by
 unfold Counts seenU
 rw [h]
 simp only [h0, decide_true, Bool.true_and]
 cases hn : K.nan s.key with
 | true => simp
 | false =>
  simp only [Bool.false_or, Bool.not_false, Bool.true_and]
  rw [List.not_any_eq_all_not]
def cntU (K : KT) (l : List Stp) (i c : Nat) : Nat := cnt (fun p => Counts K l p && cls12 K l c p) i
theorem cntU_succ {K : KT} {l : List Stp} {i : Nat} {s : Stp} (h : l[i]? = some s) (c : Nat) : cntU K l (i + 1) c = if Counts K l i = true ∧ K.hash s.key / 2 ^ 52 = c then cntU K l i c + 1 else cntU K l i c := by
 unfold cntU
 simp only [cnt]
 have : cls12 K l c i = decide (K.hash s.key / 2 ^ 52 = c) := by
  unfold cls12; rw [h]; simp only
  by_cases e : K.hash s.key / 2 ^ 52 = c
  ·rw [e]; simp
  ·rw [decide_eq_false e]; exact nat_beq_f.2 e
 rw [this]
 cases Counts K l i with
 | false => simp
 | true =>
  by_cases e : K.hash s.key / 2 ^ 52 = c
  ·rw [if_pos ⟨rfl, e⟩]; simp [e]
  ·rw [if_neg (fun h => e h.2)]; simp [e]
def cntF (g : Nat → Nat) : Int → Option Value := fun a => if 0 ≤ a ∧ g a.toNat ≠ 0 then some (i64 (g a.toNat : Nat)) else none
theorem cntF_at (g : Nat → Nat) (c : Nat) : (cntF g (c : Nat)).getD (i64 0) = i64 (g c : Nat) := by
 unfold cntF
 rw [Int.toNat_natCast]
 by_cases h : g c = 0
 ·rw [if_neg (fun e => e.2 h), h]; rfl
 ·rw [if_pos ⟨Int.natCast_nonneg c, h⟩]; rfl
theorem cntF_set (g : Nat → Nat) (c : Nat) (g' : Nat → Nat) (h1 : g' c = g c + 1) (h2 : ∀ x, x ≠ c → g' x = g x) (a : Int) : (if a = (c : Int) then some (i64 (g c + 1 : Nat)) else cntF g a) = cntF g' a := by
 by_cases h : a = (c : Int)
 ·subst h
  rw [if_pos rfl]
  unfold cntF
  rw [Int.toNat_natCast, if_pos ⟨Int.natCast_nonneg c, by omega⟩, h1]
 ·rw [if_neg h]
  unfold cntF
  by_cases h0 : 0 ≤ a
  ·have : a.toNat ≠ c := fun e => h (by omega)
   rw [h2 _ this]
  ·rw [if_neg (fun e => h0 e.1), if_neg (fun e => h0 e.1)]
theorem seenF_cnt (g : Nat → Bool) (k : Nat) (g' : Nat → Bool) (h1 : g' k = true) (h2 : ∀ x, x ≠ k → g' x = g x) (a : Int) : (if a = (k : Int) then some (.bool true) else seenF g a) = seenF g' a := by
 by_cases h : a = (k : Int)
 ·subst h
  rw [if_pos rfl]
  unfold seenF
  rw [Int.toNat_natCast, if_pos ⟨Int.natCast_nonneg k, h1⟩]
 ·rw [if_neg h]
  unfold seenF
  by_cases h0 : 0 ≤ a
  ·have : a.toNat ≠ k := fun e => h (by omega)
   rw [h2 _ this]
  ·rw [if_neg (fun e => h0 e.1), if_neg (fun e => h0 e.1)]
theorem c30 (hM : Mem w0 w H) {t : TabV} (ht : t.OK) {l : List Stp} (hk : ∀ s ∈ l, s.key < 2 ^ 64) (hlen : l.length ≤ 6000) {vs : Value} (hs : Rd w0 H 4 vs l.length (encS l)) :
  Calls Tryz.prog 30 [.agg t.cells.toArray, vs].toArray w (Gives w0 fun v S => S = H ∧ ∃ b, v = .bool b ∧ (b = true → SpreadP (ktOf t) l)) := by
 obtain ⟨so, sc, rfl⟩ := hs.shape
 obtain ⟨K, hK⟩ : ∃ K, K = ktOf t := ⟨_, rfl⟩
 rw [← hK]
 refine calls_start Tryz.func30 rfl Tryz.ntmps30 (Nat.le_of_ble_eq_true rfl) ?_
 refine rs hM ?_
 refine rw_boxN (v := .agg t.cells.toArray) rfl rfl rfl (fun b2 G2 n2 l2 e2 k2 => ?_)
 refine asg ?_
 refine rw_nil ?_; intro w hM
 have e2' : G2 b2 = some (encTab t) := e2
 refine rs hM ?_
 refine rw_makeMapN rfl rfl (fun bs G5 ns ls es ks => ?_)
 refine rw_makeMapN rfl rfl (fun bm G6 nm lm em km => ?_)
 refine asg ?_
 refine asg ?_
 refine rw_nil ?_; intro w hM
 refine wp_seq ?_
 refine rs hM ?_
 refine mv ?_
 refine rw_len Tryz.underlying30 rfl rfl rfl ?_
 refine mv ?_
 refine rw_nil ?_; intro w hM
 have hne : bs ≠ bm := ne_of_none nm es
 have hsb : bs ≠ b2 := (ne_of_none ns e2').symm
 have hmb : bm ≠ b2 := (ne_of_none nm (ls _ _ e2')).symm
 have hH6 : H.le G6 := Heap.le_trans l2 (Heap.le_trans ls lm)
 have hHs : H bs = none := le_none l2 ns
 have hHm : H bm = none := le_none (Heap.le_trans l2 ls) nm
 refine wp_block ?_
 refine wp_loop_s (fun c f w => ∃ i S os om, c = l.length - i ∧ i ≤ l.length ∧ Know f [(2, .pointer (some ⟨b2, 0, none⟩)), (5, .map (some bs)), (6, .map (some bm)), (12, .slice so l.length sc), (13, i64 (l.length : Nat)), (14, i64 (i : Nat))] ∧ Mem w0 w S ∧ H.le S ∧ S b2 = some (encTab t) ∧ S bs = some os ∧ S bm = some om ∧ MapOf .u64 os (seenF (seenU K l i)) ∧ MapOf .u64 om (cntF (cntU K l i)) ∧ ∀ c, cntU K l i c ≤ 800) (l.length - 0) ?_ ?_
 ·refine ⟨0, G6, _, _, rfl, Nat.zero_le _, Know.of ⟨rfl, rfl, rfl, rfl, rfl, rfl, trivial⟩, hM, hH6, lm _ _ (ls _ _ e2'), lm _ _ es, em, (MapOf.new .u64).ext fun a => ?_, (MapOf.new .u64).ext fun a => ?_, fun c => Nat.zero_le _⟩
  ·unfold seenF; rw [if_neg]; intro h; have := h.2; unfold seenU at this; simp at this
  ·unfold cntF; rw [if_neg]; intro h; exact h.2 rfl
 clear hM
 rintro c f w ⟨i, S, os, om, rfl, hi, ⟨f1, rfl⟩, hM, hle, h2, hbs, hbm, hmo, hco, hmax⟩
 refine rs hM ?_
 refine rw_bin rfl rfl rfl rfl (b_lt _ _) ?_
 refine rw_nil ?_; intro w hM
 refine wp_seq ?_
 refine wp_if (tmp_lt rfl) rfl (fun hz => ?_) (fun hz => ?_)
 ·have hil : i < l.length := by have := of_decide_eq_true hz; omega
  obtain ⟨s, hsq⟩ : ∃ s, l[i]? = some s := ⟨_, List.getElem?_eq_getElem hil⟩
  have hkey := hk s (List.mem_of_getElem? hsq)
  obtain ⟨b, o, cap, hsl, hrs⟩ := hs.some (by omega)
  cases hsl
  refine wp_skip ?_
  refine wp_seq ?_
  refine wp_block ?_
  refine rs hM ?_
  refine rw_indexAddr rfl rfl rfl rfl (x_slice Tryz.underlying30 sz36 hil) ?_
  refine rw_loadAG (stepC s) ld36 rfl rfl rfl (rd_step stepC_len hrs hsq hle) ?_
  refine rw_allocN Tryz.zeroValue36 rfl rfl (fun b8 G8 n8 l8 e8 k8 => ?_)
  refine rw_store (v := .agg #[.int .i64 _, .int .i64 _, .int .u64 _, .int .i64 _]) sz36 rfl rfl rfl rfl e8 rfl rfl rfl (by nofun) (fun S4 hS4 kS4 => ?_)
  refine rw_nil ?_; intro w hM
  have hS8 : S4 b8 = some (.cells (stepC s).toArray 36 (0, 0)) := hS4.trans rfl
  have l4 : S.le S4 := le_keep l8 n8 kS4
  have hle4 := Heap.le_trans hle l4
  have h24 := l4 _ _ h2
  have hbs4 := l4 _ _ hbs
  have hbm4 := l4 _ _ hbm
  have hss := seenU_succ (K := K) hsq
  have hcs := cntU_succ (K := K) hsq
  refine wp_seq ?_
  by_cases h0 : s.kind = 0
  ·have hcA := Counts_at (K := K) hsq h0
   cases hseen : seenU K l i s.key with
   | true =>
    refine rs hM ?_
    refine fa fr36_0 ?_
    refine lo (v := i64 s.kind) ld3 hS8 ?_
    refine rw_bin rfl rfl rfl rfl (b_false (b_ne _ _) (by rw [h0]; rfl)) ?_
    refine mv ?_
    refine mv ?_
    refine fa fr36_2 ?_
    refine lo (v := u64 s.key) ld22 hS8 ?_
    refine rw_lookup (v := .bool true) Tryz.underlying48 Tryz.underlying22 Tryz.zeroValue4 rfl rfl rfl rfl hbs4 hmo (wf_u64 hkey) (by rw [seenF_at, hseen]) ?_
    refine rw_pick rfl rfl rfl rfl rfl ?_
    refine rw_nil ?_; intro w hM
    refine wp_if (tmp_lt rfl) rfl (fun hc => ?_) (by nofun)
    refine wp_exit ?_
    simp only [Exit.then, Exit.inBlock, if_true]
    refine re hM ?_
    refine rw_bin (v := i64 ((i + 1 : Nat) : Int)) rfl rfl rfl rfl (bin_eq (b_addi (b := 1) (by omega) (by omega)) (congrArg i64 (by omega))) ?_
    refine mv ?_
    refine rw_nil ?_; intro w hM
    have e1 : seenU K l (i + 1) = seenU K l i := by
     funext k
     rw [hss]
     by_cases hk' : s.key = k
     ·subst hk'; rw [hseen]; rfl
     ·rw [beq_false_of_ne hk', Bool.and_false, Bool.or_false]
    have e2 : cntU K l (i + 1) = cntU K l i := by
     funext c; rw [hcs, if_neg]; rw [hcA, hseen]; exact fun h => by cases h.1
    exact ⟨l.length - (i + 1), _, rfl, by omega, i + 1, S4, os, om, rfl, by omega, Know.of ⟨rfl, rfl, rfl, rfl, rfl, rfl, trivial⟩, hM, hle4, h24, hbs4, hbm4, by rw [e1]; exact hmo, by rw [e2]; exact hco, by rw [e2]; exact hmax⟩
   | false =>
    rw [hseen] at hcA
    have hcT : Counts K l i = true := hcA
    obtain ⟨hi52, hhi⟩ : ∃ x, x = K.hash s.key / 2 ^ 52 := ⟨_, rfl⟩
    have hhl : K.hash s.key < 2 ^ 64 := K.lt _
    have hhi2 : hi52 < 4096 := by rw [hhi]; omega
    refine rs hM ?_
    refine fa fr36_0 ?_
    refine lo (v := i64 s.kind) ld3 hS8 ?_
    refine rw_bin rfl rfl rfl rfl (b_false (b_ne _ _) (by rw [h0]; rfl)) ?_
    refine mv ?_
    refine mv ?_
    refine fa fr36_2 ?_
    refine lo (v := u64 s.key) ld22 hS8 ?_
    refine rw_lookup (v := .bool false) Tryz.underlying48 Tryz.underlying22 Tryz.zeroValue4 rfl rfl rfl rfl hbs4 hmo (wf_u64 hkey) (by rw [seenF_at, hseen]) ?_
    refine rw_pick rfl rfl rfl rfl rfl ?_
    refine rw_nil ?_; intro w hM
    refine wp_if (tmp_lt rfl) rfl (by nofun) (fun hc => ?_)
    refine wp_skip ?_
    refine wp_seq_mid (fun f w => ∃ S os, Know f [(2, .pointer (some ⟨b2, 0, none⟩)), (5, .map (some bs)), (6, .map (some bm)), (8, .pointer (some ⟨b8, 0, none⟩)), (12, .slice (some ⟨b, o, none⟩) l.length sc), (13, i64 (l.length : Nat)), (14, i64 (i : Nat))] ∧ Mem w0 w S ∧ H.le S ∧ S b2 = some (encTab t) ∧ S b8 = some (.cells (stepC s).toArray 36 (0, 0)) ∧ S bs = some os ∧ S bm = some om ∧ MapOf .u64 os (seenF (seenU K l (i + 1)))) ?_ ?_
    ·cases hn : K.nan s.key with
     | true =>
      refine rs hM ?_
      refine fa fr27_0 ?_
      refine lo (v := .bool t.floats) ld4 h24 ?_
      refine fa fr36_2 ?_
      refine lo (v := u64 s.key) ld22 hS8 ?_
      refine rw_callq (v := .bool true) cr27 rfl rfl (fun H' w hle hM => by have := c27 hM t.floats s.key; rw [← nan_of, ← hK, hn] at this; exact this) rfl ?_
      refine rw_un rfl rfl rfl (u_not _) ?_
      refine rw_nil ?_; intro w hM
      refine wp_if (tmp_lt rfl) rfl (by nofun) (fun hc => ?_)
      refine wp_skip ?_
      have e1 : seenU K l (i + 1) = seenU K l i := by
       funext k
       rw [hss]
       by_cases hk' : s.key = k
       ·subst hk'; rw [hn]; simp
       ·rw [beq_false_of_ne hk', Bool.and_false, Bool.or_false]
      exact ⟨_, rfl, S4, os, Know.of ⟨rfl, rfl, rfl, rfl, rfl, rfl, rfl, trivial⟩, hM, hle4, h24, hS8, hbs4, hbm4, by rw [e1]; exact hmo⟩
     | false =>
      refine rs hM ?_
      refine fa fr27_0 ?_
      refine lo (v := .bool t.floats) ld4 h24 ?_
      refine fa fr36_2 ?_
      refine lo (v := u64 s.key) ld22 hS8 ?_
      refine rw_callq (v := .bool false) cr27 rfl rfl (fun H' w hle hM => by have := c27 hM t.floats s.key; rw [← nan_of, ← hK, hn] at this; exact this) rfl ?_
      refine rw_un rfl rfl rfl (u_not _) ?_
      refine rw_nil ?_; intro w hM
      refine wp_if (tmp_lt rfl) rfl (fun hc => ?_) (by nofun)
      refine re hM ?_
      refine mv ?_
      refine fa fr36_2 ?_
      refine lo (v := u64 s.key) ld22 hS8 ?_
      refine rw_mapUpdateN Tryz.underlying48 Tryz.underlying22 rfl rfl rfl rfl rfl hbs4 hmo (wf_u64 hkey) (fun os' S7 ho' hS7 kS7 => ?_)
      refine rw_nil ?_; intro w hM
      refine ⟨_, rfl, S7, os', Know.of ⟨rfl, rfl, rfl, rfl, rfl, rfl, rfl, trivial⟩, hM, fun x u hx => (kS7 _ fun e => by rw [e, hHs] at hx; cases hx).trans (hle4 _ _ hx), (kS7 _ hsb.symm).trans h24, (kS7 _ fun e => by rw [e, hbs4] at hS8; cases hS8; exact absurd hmo.plain (by show (36 : Nat) ≠ 0; decide)).trans hS8, hS7, (kS7 _ hne.symm).trans hbm4, ho'.ext fun a => seenF_cnt _ _ _ ?_ (fun x hx => ?_) a⟩
      ·rw [hss, hn, h0]; simp
      ·rw [hss, beq_false_of_ne (fun e => hx e.symm), Bool.and_false, Bool.or_false]
    clear hM
    rintro f w ⟨S', os', ⟨f2, rfl⟩, hM, hle', h2', h8', hbs', hbm', hmo'⟩
    have hc0 := hmax hi52
    refine rs hM ?_
    refine rw_loadA t.cells ld27 rfl rfl rfl h2' rfl ?_
    refine fa fr36_2 ?_
    refine lo (v := u64 s.key) ld22 h8' ?_
    refine rw_callq (v := u64 (K.hash s.key)) cr35 rfl rfl (fun H' w hle hM => by rw [hK]; exact c35 hM ht hkey) rfl ?_
    refine rw_bin (v := u64 hi52) rfl rfl rfl rfl (by rw [hhi]; exact b_shr64 _ 52 (by decide)) ?_
    refine asg ?_
    refine rw_nil ?_; intro w hM
    have e2 : ∀ c, cntU K l (i + 1) c = if c = hi52 then cntU K l i c + 1 else cntU K l i c := fun c => by
     rw [hcs, hcT]
     by_cases e : c = hi52
     ·rw [if_pos e, if_pos ⟨rfl, by rw [e, hhi]⟩]
     ·rw [if_neg e, if_neg (fun h => e (h.2.symm.trans hhi.symm))]
    have hcU : cntU K l (i + 1) hi52 = cntU K l i hi52 + 1 := by rw [e2, if_pos rfl]
    refine rs hM ?_
    refine mv ?_
    refine mv ?_
    refine rw_lookup (v := i64 (cntU K l i hi52 : Nat)) Tryz.underlying64 Tryz.underlying22 Tryz.zeroValue3 rfl rfl rfl rfl hbm' hco (wf_u64 (by omega)) (cntF_at _ _) ?_
    refine rw_bin (v := i64 ((cntU K l i hi52 + 1 : Nat) : Int)) rfl rfl rfl rfl (bin_eq (b_addi (b := 1) (by omega) (by omega)) (congrArg i64 (by omega))) ?_
    refine rw_mapUpdateN Tryz.underlying64 Tryz.underlying22 rfl rfl rfl rfl rfl hbm' hco (wf_u64 (by omega)) (fun om' S9 ho' hS9 kS9 => ?_)
    refine rw_nil ?_; intro w hM
    have hco' : MapOf .u64 om' (cntF (cntU K l (i + 1))) := ho'.ext fun a => cntF_set _ _ _ hcU (fun x hx => by rw [e2, if_neg hx]) a
    by_cases hbig : cntU K l i hi52 + 1 > 800
    ·refine rs hM ?_
     refine mv ?_
     refine mv ?_
     refine rw_lookup (v := i64 ((cntU K l i hi52 + 1 : Nat) : Int)) Tryz.underlying64 Tryz.underlying22 Tryz.zeroValue3 rfl rfl rfl rfl hS9 hco' (wf_u64 (by omega)) (by rw [cntF_at, hcU]) ?_
     refine rw_bin rfl rfl rfl rfl (b_true (b_gt _ _) (decide_eq_true (by omega))) ?_
     refine rw_nil ?_; intro w hM
     refine wp_if (tmp_lt rfl) rfl (fun hc => ?_) (by nofun)
     refine rs hM ?_
     refine asg ?_
     refine rw_nil ?_; intro w hM
     refine wp_ret ?_
     simp only [Exit.then, Exit.inBlock]
     exact post_tmp (v := .bool false) rfl rfl rfl ⟨_, H, rfl, hM.mono (fun x u hx => (kS9 _ fun e => by rw [e, hHm] at hx; cases hx).trans (hle' _ _ hx)), rfl, false, rfl, fun h => by cases h⟩
    ·refine rs hM ?_
     refine mv ?_
     refine mv ?_
     refine rw_lookup (v := i64 ((cntU K l i hi52 + 1 : Nat) : Int)) Tryz.underlying64 Tryz.underlying22 Tryz.zeroValue3 rfl rfl rfl rfl hS9 hco' (wf_u64 (by omega)) (by rw [cntF_at, hcU]) ?_
     refine rw_bin rfl rfl rfl rfl (b_false (b_gt _ _) (decide_eq_false (by omega))) ?_
     refine rw_nil ?_; intro w hM
     refine wp_if (tmp_lt rfl) rfl (by nofun) (fun hc => ?_)
     refine wp_skip ?_
     simp only [Exit.then, Exit.inBlock]
     refine re hM ?_
     refine rw_bin (v := i64 ((i + 1 : Nat) : Int)) rfl rfl rfl rfl (bin_eq (b_addi (b := 1) (by omega) (by omega)) (congrArg i64 (by omega))) ?_
     refine mv ?_
     refine rw_nil ?_; intro w hM
     refine ⟨l.length - (i + 1), _, rfl, by omega, i + 1, S9, os', om', rfl, by omega, Know.of ⟨rfl, rfl, rfl, rfl, rfl, rfl, trivial⟩, hM, fun x u hx => (kS9 _ fun e => by rw [e, hHm] at hx; cases hx).trans (hle' _ _ hx), (kS9 _ hmb.symm).trans h2', (kS9 _ hne).trans hbs', hS9, hmo', hco', fun c => ?_⟩
     rw [e2]
     by_cases e : c = hi52
     ·rw [if_pos e, e]; omega
     ·rw [if_neg e]; exact hmax c
  ·refine rs hM ?_
   refine fa fr36_0 ?_
   refine lo (v := i64 s.kind) ld3 hS8 ?_
   refine rw_bin rfl rfl rfl rfl (b_true (b_ne _ _) (bne_iff_ne.2 h0)) ?_
   refine mv ?_
   refine rw_skip rfl rfl ?_
   refine rw_skip rfl rfl ?_
   refine rw_skip rfl rfl ?_
   refine rw_skip rfl rfl ?_
   refine rw_pick rfl rfl rfl rfl rfl ?_
   refine rw_nil ?_; intro w hM
   refine wp_if (tmp_lt rfl) rfl (fun hc => ?_) (by nofun)
   refine wp_exit ?_
   simp only [Exit.then, Exit.inBlock, if_true]
   refine re hM ?_
   refine rw_bin (v := i64 ((i + 1 : Nat) : Int)) rfl rfl rfl rfl (bin_eq (b_addi (b := 1) (by omega) (by omega)) (congrArg i64 (by omega))) ?_
   refine mv ?_
   refine rw_nil ?_; intro w hM
   have e1 : seenU K l (i + 1) = seenU K l i := by
    funext k
    rw [hss, decide_eq_false h0]; simp
   have hcF : Counts K l i = false := by unfold Counts; rw [hsq]; simp [h0]
   have e2 : cntU K l (i + 1) = cntU K l i := by
    funext c; rw [hcs, if_neg]; rw [hcF]; exact fun h => by cases h.1
   exact ⟨l.length - (i + 1), _, rfl, by omega, i + 1, S4, os, om, rfl, by omega, Know.of ⟨rfl, rfl, rfl, rfl, rfl, rfl, trivial⟩, hM, hle4, h24, hbs4, hbm4, by rw [e1]; exact hmo, by rw [e2]; exact hco, by rw [e2]; exact hmax⟩
 ·refine wp_exit ?_
  simp only [Exit.then, Exit.inBlock, if_true]
  have hi' : i = l.length := by have := of_decide_eq_false hz; omega
  subst hi'
  refine rs hM ?_
  refine asg ?_
  refine rw_nil ?_; intro w hM
  refine wp_ret ?_
  exact post_tmp (v := .bool true) rfl rfl rfl ⟨_, H, rfl, hM.mono hle, rfl, true, rfl, fun _ => hmax⟩
end
section
variable {w0 w : World} {H : Heap}
/-- What any step of the language is. -/
structure StpTy (s : Stp) : Prop where
 key : s.key < 2 ^ 64
 elem : InI64 s.elem
/-- A map and a script of which is spoken. -/
structure FitsP (t : TabV) (l : List Stp) : Prop where
 len : l.length ≤ 6000
 hint : t.hint ≤ 5000
 ok : ∀ s ∈ l, StpOK s
 spread : SpreadP (ktOf t) l
theorem c24 (hM : Mem w0 w H) {t : TabV} (ht : t.OK) {l : List Stp} (hty : ∀ s ∈ l, StpTy s) (hll : l.length < 9223372036854775808) {vs : Value} (hs : Rd w0 H 4 vs l.length (encS l)) :
  Calls Tryz.prog 24 [.agg t.cells.toArray, vs].toArray w (Gives w0 fun v S => S = H ∧ ∃ b, v = .bool b ∧ (b = true → FitsP t l)) := by
 obtain ⟨so, sc, rfl⟩ := hs.shape
 refine calls_start Tryz.func24 rfl Tryz.ntmps24 (Nat.le_of_ble_eq_true rfl) ?_
 refine rs hM ?_
 refine rw_boxN (v := .agg t.cells.toArray) rfl rfl rfl (fun b2 G2 n2 l2 e2 k2 => ?_)
 refine asg ?_
 refine rw_nil ?_; intro w hM
 have e2' : G2 b2 = some (encTab t) := e2
 refine wp_seq ?_
 by_cases hlen : (l.length : Int) > 6000
 ·refine rs hM ?_
  refine mv ?_
  refine rw_len Tryz.underlying30 rfl rfl rfl ?_
  refine rw_bin rfl rfl rfl rfl (b_true (b_gt _ _) (decide_eq_true hlen)) ?_
  refine mv ?_
  refine rw_skip rfl rfl ?_
  refine rw_skip rfl rfl ?_
  refine rw_skip rfl rfl ?_
  refine rw_pick rfl rfl rfl rfl rfl ?_
  refine rw_nil ?_; intro w hM
  refine wp_if (tmp_lt rfl) rfl (fun hc => ?_) (by nofun)
  refine rs hM ?_
  refine asg ?_
  refine rw_nil ?_; intro w hM
  refine wp_ret ?_
  simp only [Exit.then]
  exact post_tmp (v := .bool false) rfl rfl rfl ⟨_, H, rfl, hM.mono l2, rfl, false, rfl, fun h => by cases h⟩
 by_cases hhint : t.hint > 5000
 ·refine rs hM ?_
  refine mv ?_
  refine rw_len Tryz.underlying30 rfl rfl rfl ?_
  refine rw_bin rfl rfl rfl rfl (b_false (b_gt _ _) (decide_eq_false hlen)) ?_
  refine mv ?_
  refine fa fr27_1 ?_
  refine lo (v := i64 t.hint) ld3 e2' ?_
  refine rw_bin rfl rfl rfl rfl (b_true (b_gt _ _) (decide_eq_true hhint)) ?_
  refine rw_pick rfl rfl rfl rfl rfl ?_
  refine rw_nil ?_; intro w hM
  refine wp_if (tmp_lt rfl) rfl (fun hc => ?_) (by nofun)
  refine rs hM ?_
  refine asg ?_
  refine rw_nil ?_; intro w hM
  refine wp_ret ?_
  simp only [Exit.then]
  exact post_tmp (v := .bool false) rfl rfl rfl ⟨_, H, rfl, hM.mono l2, rfl, false, rfl, fun h => by cases h⟩
 have hlen' : l.length ≤ 6000 := by omega
 refine rs hM ?_
 refine mv ?_
 refine rw_len Tryz.underlying30 rfl rfl rfl ?_
 refine rw_bin rfl rfl rfl rfl (b_false (b_gt _ _) (decide_eq_false hlen)) ?_
 refine mv ?_
 refine fa fr27_1 ?_
 refine lo (v := i64 t.hint) ld3 e2' ?_
 refine rw_bin rfl rfl rfl rfl (b_false (b_gt _ _) (decide_eq_false hhint)) ?_
 refine rw_pick rfl rfl rfl rfl rfl ?_
 refine rw_nil ?_; intro w hM
 refine wp_if (tmp_lt rfl) rfl (by nofun) (fun hc => ?_)
 refine wp_skip ?_
 refine wp_seq ?_
 refine rs hM ?_
 refine mv ?_
 refine rw_len Tryz.underlying30 rfl rfl rfl ?_
 refine mv ?_
 refine rw_nil ?_; intro w hM
 refine wp_block ?_
 refine wp_loop_s (fun c f w => ∃ i S, c = l.length - i ∧ i ≤ l.length ∧ Know f [(1, .slice so l.length sc), (2, .pointer (some ⟨b2, 0, none⟩)), (15, .slice so l.length sc), (16, i64 (l.length : Nat)), (17, i64 (i : Nat))] ∧ Mem w0 w S ∧ G2.le S ∧ ∀ j s, j < i → l[j]? = some s → StpOK s) (l.length - 0) ?_ ?_
 ·exact ⟨0, G2, rfl, Nat.zero_le _, Know.of ⟨rfl, rfl, rfl, rfl, rfl, trivial⟩, hM, Heap.le_refl _, fun j s hj => by omega⟩
 clear hM
 rintro c f w ⟨i, S, rfl, hi, ⟨f1, rfl⟩, hM, hle, hok⟩
 refine rs hM ?_
 refine rw_bin rfl rfl rfl rfl (b_lt _ _) ?_
 refine rw_nil ?_; intro w hM
 refine wp_seq ?_
 refine wp_if (tmp_lt rfl) rfl (fun hz => ?_) (fun hz => ?_)
 ·have hil : i < l.length := by have := of_decide_eq_true hz; omega
  obtain ⟨s, hsq⟩ : ∃ s, l[i]? = some s := ⟨_, List.getElem?_eq_getElem hil⟩
  have hst := hty s (List.mem_of_getElem? hsq)
  obtain ⟨b, o, cap, hsl, hrs⟩ := hs.some (by omega)
  cases hsl
  refine wp_skip ?_
  refine wp_seq ?_
  refine wp_block ?_
  refine rs hM ?_
  refine rw_indexAddr rfl rfl rfl rfl (x_slice Tryz.underlying30 sz36 hil) ?_
  refine rw_loadAG (stepC s) ld36 rfl rfl rfl (rd_step stepC_len hrs hsq (Heap.le_trans l2 hle)) ?_
  refine rw_allocN Tryz.zeroValue36 rfl rfl (fun b6 G6 n6 l6 e6 k6 => ?_)
  refine rw_store (v := .agg #[.int .i64 _, .int .i64 _, .int .u64 _, .int .i64 _]) sz36 rfl rfl rfl rfl e6 rfl rfl rfl (by nofun) (fun S5 hS5 kS5 => ?_)
  refine rw_nil ?_; intro w hM
  have hS6 : S5 b6 = some (.cells (stepC s).toArray 36 (0, 0)) := hS5.trans rfl
  have l5 : S.le S5 := le_keep l6 n6 kS5
  have hle5 := Heap.le_trans hle l5
  have hle6 := Heap.le_trans l2 hle5
  by_cases h0 : s.kind < 0
  ·skip
   refine rs hM ?_
   refine fa fr36_0 ?_
   refine lo (v := i64 s.kind) ld3 hS6 ?_
   refine rw_bin rfl rfl rfl rfl (b_true (b_lt _ _) (decide_eq_true h0)) ?_
   refine mv ?_
   refine rw_skip rfl rfl ?_
   refine rw_skip rfl rfl ?_
   refine rw_skip rfl rfl ?_
   refine rw_pick rfl rfl rfl rfl rfl ?_
   refine mv ?_
   refine rw_skip rfl rfl ?_
   refine rw_skip rfl rfl ?_
   refine rw_skip rfl rfl ?_
   refine rw_pick rfl rfl rfl rfl rfl ?_
   refine mv ?_
   refine rw_skip rfl rfl ?_
   refine rw_skip rfl rfl ?_
   refine rw_skip rfl rfl ?_
   refine rw_pick rfl rfl rfl rfl rfl ?_
   refine rw_nil ?_; intro w hM
   refine wp_if (tmp_lt rfl) rfl (fun hc => ?_) (by nofun)
   refine rs hM ?_
   refine asg ?_
   refine rw_nil ?_; intro w hM
   refine wp_ret ?_
   simp only [Exit.then, Exit.inBlock]
   exact post_tmp (v := .bool false) rfl rfl rfl ⟨_, H, rfl, hM.mono hle6, rfl, false, rfl, fun h => by cases h⟩
  by_cases h1 : s.kind > 6
  ·skip
   refine rs hM ?_
   refine fa fr36_0 ?_
   refine lo (v := i64 s.kind) ld3 hS6 ?_
   refine rw_bin rfl rfl rfl rfl (b_false (b_lt _ _) (decide_eq_false h0)) ?_
   refine mv ?_
   refine fa fr36_0 ?_
   refine lo (v := i64 s.kind) ld3 hS6 ?_
   refine rw_bin rfl rfl rfl rfl (b_true (b_gt _ _) (decide_eq_true h1)) ?_
   refine rw_pick rfl rfl rfl rfl rfl ?_
   refine mv ?_
   refine rw_skip rfl rfl ?_
   refine rw_skip rfl rfl ?_
   refine rw_skip rfl rfl ?_
   refine rw_pick rfl rfl rfl rfl rfl ?_
   refine mv ?_
   refine rw_skip rfl rfl ?_
   refine rw_skip rfl rfl ?_
   refine rw_skip rfl rfl ?_
   refine rw_pick rfl rfl rfl rfl rfl ?_
   refine rw_nil ?_; intro w hM
   refine wp_if (tmp_lt rfl) rfl (fun hc => ?_) (by nofun)
   refine rs hM ?_
   refine asg ?_
   refine rw_nil ?_; intro w hM
   refine wp_ret ?_
   simp only [Exit.then, Exit.inBlock]
   exact post_tmp (v := .bool false) rfl rfl rfl ⟨_, H, rfl, hM.mono hle6, rfl, false, rfl, fun h => by cases h⟩
  by_cases h2 : s.iter < 0
  ·skip
   refine rs hM ?_
   refine fa fr36_0 ?_
   refine lo (v := i64 s.kind) ld3 hS6 ?_
   refine rw_bin rfl rfl rfl rfl (b_false (b_lt _ _) (decide_eq_false h0)) ?_
   refine mv ?_
   refine fa fr36_0 ?_
   refine lo (v := i64 s.kind) ld3 hS6 ?_
   refine rw_bin rfl rfl rfl rfl (b_false (b_gt _ _) (decide_eq_false h1)) ?_
   refine rw_pick rfl rfl rfl rfl rfl ?_
   refine mv ?_
   refine fa fr36_1 ?_
   refine lo (v := i64 s.iter) ld3 hS6 ?_
   refine rw_bin rfl rfl rfl rfl (b_true (b_lt _ _) (decide_eq_true h2)) ?_
   refine rw_pick rfl rfl rfl rfl rfl ?_
   refine mv ?_
   refine rw_skip rfl rfl ?_
   refine rw_skip rfl rfl ?_
   refine rw_skip rfl rfl ?_
   refine rw_pick rfl rfl rfl rfl rfl ?_
   refine rw_nil ?_; intro w hM
   refine wp_if (tmp_lt rfl) rfl (fun hc => ?_) (by nofun)
   refine rs hM ?_
   refine asg ?_
   refine rw_nil ?_; intro w hM
   refine wp_ret ?_
   simp only [Exit.then, Exit.inBlock]
   exact post_tmp (v := .bool false) rfl rfl rfl ⟨_, H, rfl, hM.mono hle6, rfl, false, rfl, fun h => by cases h⟩
  by_cases h3 : s.iter ≥ 8
  ·skip
   refine rs hM ?_
   refine fa fr36_0 ?_
   refine lo (v := i64 s.kind) ld3 hS6 ?_
   refine rw_bin rfl rfl rfl rfl (b_false (b_lt _ _) (decide_eq_false h0)) ?_
   refine mv ?_
   refine fa fr36_0 ?_
   refine lo (v := i64 s.kind) ld3 hS6 ?_
   refine rw_bin rfl rfl rfl rfl (b_false (b_gt _ _) (decide_eq_false h1)) ?_
   refine rw_pick rfl rfl rfl rfl rfl ?_
   refine mv ?_
   refine fa fr36_1 ?_
   refine lo (v := i64 s.iter) ld3 hS6 ?_
   refine rw_bin rfl rfl rfl rfl (b_false (b_lt _ _) (decide_eq_false h2)) ?_
   refine rw_pick rfl rfl rfl rfl rfl ?_
   refine mv ?_
   refine fa fr36_1 ?_
   refine lo (v := i64 s.iter) ld3 hS6 ?_
   refine rw_bin rfl rfl rfl rfl (b_true (b_ge _ _) (decide_eq_true h3)) ?_
   refine rw_pick rfl rfl rfl rfl rfl ?_
   refine rw_nil ?_; intro w hM
   refine wp_if (tmp_lt rfl) rfl (fun hc => ?_) (by nofun)
   refine rs hM ?_
   refine asg ?_
   refine rw_nil ?_; intro w hM
   refine wp_ret ?_
   simp only [Exit.then, Exit.inBlock]
   exact post_tmp (v := .bool false) rfl rfl rfl ⟨_, H, rfl, hM.mono hle6, rfl, false, rfl, fun h => by cases h⟩
  refine rs hM ?_
  refine fa fr36_0 ?_
  refine lo (v := i64 s.kind) ld3 hS6 ?_
  refine rw_bin rfl rfl rfl rfl (b_false (b_lt _ _) (decide_eq_false h0)) ?_
  refine mv ?_
  refine fa fr36_0 ?_
  refine lo (v := i64 s.kind) ld3 hS6 ?_
  refine rw_bin rfl rfl rfl rfl (b_false (b_gt _ _) (decide_eq_false h1)) ?_
  refine rw_pick rfl rfl rfl rfl rfl ?_
  refine mv ?_
  refine fa fr36_1 ?_
  refine lo (v := i64 s.iter) ld3 hS6 ?_
  refine rw_bin rfl rfl rfl rfl (b_false (b_lt _ _) (decide_eq_false h2)) ?_
  refine rw_pick rfl rfl rfl rfl rfl ?_
  refine mv ?_
  refine fa fr36_1 ?_
  refine lo (v := i64 s.iter) ld3 hS6 ?_
  refine rw_bin rfl rfl rfl rfl (b_false (b_ge _ _) (decide_eq_false h3)) ?_
  refine rw_pick rfl rfl rfl rfl rfl ?_
  refine rw_nil ?_; intro w hM
  refine wp_if (tmp_lt rfl) rfl (by nofun) (fun hc => ?_)
  refine wp_skip ?_
  simp only [Exit.then, Exit.inBlock]
  refine re hM ?_
  refine rw_bin (v := i64 ((i + 1 : Nat) : Int)) rfl rfl rfl rfl (bin_eq (b_addi (b := 1) (by omega) (by omega)) (congrArg i64 (by omega))) ?_
  refine mv ?_
  refine rw_nil ?_; intro w hM
  refine ⟨l.length - (i + 1), _, rfl, by omega, i + 1, S5, rfl, by omega, Know.of ⟨rfl, rfl, rfl, rfl, rfl, trivial⟩, hM, hle5, fun j s' hj hs' => ?_⟩
  by_cases e : j = i
  ·subst e; rw [hsq] at hs'; cases hs'
   exact ⟨by omega, by omega, by omega, by omega, hst.key, hst.elem⟩
  ·exact hok j s' (by omega) hs'
 ·refine wp_exit ?_
  simp only [Exit.then, Exit.inBlock, if_true]
  have hi' : i = l.length := by have := of_decide_eq_false hz; omega
  subst hi'
  have hok' : ∀ s ∈ l, StpOK s := fun s hs => by
   obtain ⟨j, hj⟩ := List.mem_iff_getElem?.1 hs
   exact hok j s (List.getElem?_eq_some_iff.1 hj).1 hj
  refine rs hM ?_
  refine rw_loadA t.cells ld27 rfl rfl rfl (hle _ _ e2') rfl ?_
  refine mv ?_
  refine rw_callE cr30 rfl rfl (fun w hM => c30 hM ht (fun s hs => (hty s hs).key) hlen' (hs.mono (Heap.le_trans l2 hle))) rfl (by nofun) ?_; rintro _ S2 ⟨rfl, r, rfl, hr⟩
  refine asg ?_
  refine rw_nil ?_; intro w hM
  refine wp_ret ?_
  exact post_tmp (v := .bool r) rfl rfl rfl ⟨_, H, rfl, hM.mono (Heap.le_trans l2 hle), rfl, r, rfl, fun h => ⟨hlen', by omega, hok', hr h⟩⟩
end
section
variable {w0 w : World} {H : Heap}
/-- A heap of plain blocks, no iterators among them. -/
def PlainH (H : Heap) : Prop := ∀ x u, H x = some u → Plain u ∧ objTy u ≠ 108
theorem PlainH.new {H G : Heap} {b ty : Nat} {c : Array Value} (h : PlainH H) (hb : G b = some (.cells c ty (0, 0))) (hk : ∀ k, k ≠ b → G k = H k) (ht : (Nat.beq ty 132 || Nat.beq ty 149 || Nat.beq ty 158 || Nat.beq ty 101 || Nat.beq ty 108) = false) : PlainH G := fun x u hx => by
 rw [Bool.or_eq_false_iff] at ht
 by_cases e : x = b
 ·rw [e, hb] at hx; cases hx
  exact ⟨plain_of ht.1, nat_beq_f.1 ht.2⟩
 ·rw [hk x e] at hx; exact h x u hx
theorem c29 (hM : Mem w0 w H) (hDb : HasDb w0) (hPl : PlainH H) {t : TabV} (ht : t.OK) (hO : OffOK w0 t) {l : List Stp} (hF : FitsP t l) {vs : Value} (hs : Rd w0 H 4 vs l.length (encS l)) :
  Calls Tryz.prog 29 [.agg t.cells.toArray, vs].toArray w (Gives w0 fun v S => S = H ∧ v = .bool true) := by
 refine calls_start Tryz.func29 rfl Tryz.ntmps29 (Nat.le_of_ble_eq_true rfl) ?_
 refine rs hM ?_
 refine rw_boxN (v := .agg t.cells.toArray) rfl rfl rfl (fun b2 G2 n2 l2 e2 k2 => ?_)
 refine asg ?_
 refine rw_nil ?_; intro w hM
 have e2' : G2 b2 = some (encTab t) := e2
 have hP2 : PlainH G2 := hPl.new e2 k2 rfl
 have hs2 := hs.mono l2
 refine wp_mix_seq [4, 5] [5] [0, 1, 2, 3, 4, 5, 6] G2 mixed (by kernel_rfl) (Heap.le_refl _) hM ?_
 refine rw_loadA t.cells ld27 rfl rfl rfl e2' rfl ?_
 refine mv ?_
 refine rw_loadA t.cells ld27 rfl rfl rfl e2' rfl ?_
 refine mv ?_
 refine rw_callD cr26 rfl rfl (fun w hM => c26 hM hDb ht hO hF.hint hF.ok hF.len hF.spread hs2 hP2) rfl (fun _ => rfl) ?_; rintro va S4 ⟨r, M, hacc, hsl, hle4⟩; refine ⟨hle4, ?_⟩
 refine rw_callE (Φ := fun v S => S = H ∧ v = .bool true) cr34 rfl rfl (fun w hM => (c34 hM hacc hF.len (fun s h => ⟨(hF.ok s h).i0, (hF.ok s h).i7⟩) (hs2.mono hle4) hsl.rd).mono fun e w' h => ⟨_, _, h.1, h.2.mono (Heap.le_trans l2 hle4), rfl, rfl⟩) rfl (fun _ => ⟨rfl, rfl⟩) ?_; rintro _ S5 ⟨rfl, rfl⟩
 refine asg ?_
 refine rw_nil ?_; intro w hM
 refine wp_ret ?_
 exact post_tmp (v := .bool true) rfl rfl rfl ⟨_, _, rfl, hM, rfl, rfl⟩
theorem bd27_ : BuildRun Tryz.prog 27 [].toArray (.agg #[.bool false, .int .i64 0, .int .u64 0, .int .u64 0, .int .u64 0, .int .i64 0, .slice none 0 0]) := fun _ => by kernel_rfl
def wT1 : TabV := ⟨false, 0, 0, 1, 18446744073709551615, 0, none, 0, 0⟩
def wT2 : TabV := ⟨false, 0, 0, 0, 0, 0, none, 0, 0⟩
def wL : List Stp := [⟨0, 0, 7, 3⟩, ⟨1, 0, 7, 0⟩, ⟨4, 0, 0, 0⟩, ⟨5, 0, 0, 0⟩, ⟨6, 0, 0, 0⟩, ⟨6, 0, 0, 0⟩]
theorem wT1_ok : wT1.OK := ⟨by decide, by decide, by decide, ⟨by decide, by decide⟩, ⟨by decide, by decide⟩⟩
theorem wT2_ok : wT2.OK := ⟨by decide, by decide, by decide, ⟨by decide, by decide⟩, ⟨by decide, by decide⟩⟩
theorem wL_fits (t : TabV) (h : t.hint ≤ 5000) : FitsP t wL :=
 ⟨by decide, h, fun s hs => by
  simp only [wL, List.mem_cons, List.not_mem_nil, or_false] at hs
  rcases hs with rfl | rfl | rfl | rfl | rfl | rfl <;> exact ⟨by decide, by decide, by decide, by decide, by decide, ⟨by decide, by decide⟩⟩, fun c => Nat.le_trans (cnt_le _ _) (by decide)⟩
theorem c25 (hM : Mem w0 w H) (hDb : HasDb w0) (hPl : PlainH H) : Calls Tryz.prog 25 [].toArray w (Gives w0 fun v S => S = H ∧ v = .bool true) := by
 refine calls_start Tryz.func25 rfl Tryz.ntmps25 (Nat.le_of_ble_eq_true rfl) ?_
 refine rs hM ?_
 refine asg ?_
 refine rw_nil ?_; intro w hM
 refine rs hM ?_
 refine rw_build (bd36_0_2_3 _ _ _) rfl rfl rfl ?_
 refine rw_build (bd36_0_2 _ _) rfl rfl rfl ?_
 refine rw_build (bd36_0 _) rfl rfl rfl ?_
 refine rw_build (bd36_0 _) rfl rfl rfl ?_
 refine rw_build (bd36_0 _) rfl rfl rfl ?_
 refine rw_build (bd36_0 _) rfl rfl rfl ?_
 refine rw_buildSlN (bs30_6 _ _ _ _ _ _ _ _ _ _ _ _ _ _ _ _ _ _ _ _ _ _ _ _) rfl rfl rfl (fun b8 G8 n8 l8 e8 k8 => ?_)
 refine asg ?_
 refine rw_nil ?_; intro w hM
 have hs8 : Rd w0 G8 4 (.slice (some ⟨b8, 0, none⟩) 6 6) wL.length (encS wL) := ⟨rfl, .inr ⟨b8, 0, 6, rfl, fun H' w hle hM j u hj => hM.cell (hle _ _ e8) (by rw [Nat.zero_add]; show ((encS wL).toArray)[j]? = some u; rw [List.getElem?_toArray]; exact hj)⟩⟩
 have hP8 : PlainH G8 := hPl.new e8 k8 rfl
 refine rs hM ?_
 refine rw_build (bd24_1_2 _ _) rfl rfl rfl ?_
 refine rw_build (bd27_2 _ _ _ _) rfl rfl rfl ?_
 refine mv ?_
 refine rw_callE cr29 rfl rfl (fun w hM => c29 hM hDb hP8 wT1_ok ⟨by decide, .inl rfl⟩ (wL_fits wT1 (by decide)) hs8) rfl (by nofun) ?_; rintro _ S3 ⟨rfl, rfl⟩
 refine mv ?_
 refine rw_build bd27_ rfl rfl rfl ?_
 refine mv ?_
 refine rw_callE cr26 rfl rfl (fun w hM => c26 hM hDb wT2_ok ⟨by decide, .inl rfl⟩ (by decide) (wL_fits wT2 (by decide)).ok (by decide) (wL_fits wT2 (by decide)).spread hs8 hP8) rfl (by nofun) ?_; rintro va S7 ⟨r, M, hacc, hsl, hle7⟩; obtain ⟨ao, ac, rfl⟩ := hsl.shape
 refine rw_len Tryz.underlying41 rfl rfl rfl ?_
 refine mv ?_
 refine rw_len Tryz.underlying30 rfl rfl rfl ?_
 refine rw_bin (v := .bool true) rfl rfl rfl rfl (b_true (b_eq _ _) rfl) ?_
 refine rw_pick rfl rfl rfl rfl rfl ?_
 refine asg ?_
 refine rw_nil ?_; intro w hM
 refine wp_ret ?_
 exact post_tmp (v := .bool true) rfl rfl rfl ⟨_, H, rfl, hM.mono (Heap.le_trans l8 hle7), rfl, rfl⟩
theorem c22 (hM : Mem w0 w H) (hDb : HasDb w0) (hPl : PlainH H) {t : TabV} (ht : t.OK) (hO : OffOK w0 t) {l : List Stp} (hty : ∀ s ∈ l, StpTy s) (hll : l.length < 9223372036854775808) {vs : Value} (hs : Rd w0 H 4 vs l.length (encS l)) :
  Calls Tryz.prog 22 [.agg t.cells.toArray, vs].toArray w (Gives w0 fun v S => S = H ∧ v = .bool true) := by
 refine calls_start Tryz.func22 rfl Tryz.ntmps22 (Nat.le_of_ble_eq_true rfl) ?_
 refine rs hM ?_
 refine rw_boxN (v := .agg t.cells.toArray) rfl rfl rfl (fun b2 G2 n2 l2 e2 k2 => ?_)
 refine asg ?_
 refine rw_nil ?_; intro w hM
 have e2' : G2 b2 = some (encTab t) := e2
 have hP2 : PlainH G2 := hPl.new e2 k2 rfl
 have hs2 := hs.mono l2
 refine wp_seq ?_
 refine rs hM ?_
 refine rw_loadA t.cells ld27 rfl rfl rfl e2' rfl ?_
 refine mv ?_
 refine rw_callE cr24 rfl rfl (fun w hM => c24 hM ht hty hll hs2) rfl (by nofun) ?_; rintro _ S2 ⟨rfl, r, rfl, hr⟩
 refine rw_un rfl rfl rfl (u_not _) ?_
 refine rw_nil ?_; intro w hM
 cases r with
 | false =>
  refine wp_if (tmp_lt rfl) rfl (fun hc => ?_) (by nofun)
  refine rs hM ?_
  refine rw_callE cr25 rfl rfl (fun w hM => c25 hM hDb hP2) rfl (by nofun) ?_; rintro _ S0 ⟨rfl, rfl⟩
  refine asg ?_
  refine rw_nil ?_; intro w hM
  refine wp_ret ?_
  simp only [Exit.then]
  exact post_tmp (v := .bool true) rfl rfl rfl ⟨_, H, rfl, hM.mono l2, rfl, rfl⟩
 | true =>
  refine wp_if (tmp_lt rfl) rfl (by nofun) (fun hc => ?_)
  refine wp_skip ?_
  refine rs hM ?_
  refine rw_loadA t.cells ld27 rfl rfl rfl e2' rfl ?_
  refine mv ?_
  refine rw_callE cr29 rfl rfl (fun w hM => c29 hM hDb hP2 ht hO (hr rfl) hs2) rfl (by nofun) ?_; rintro _ S0 ⟨rfl, rfl⟩
  refine mv ?_
  refine rw_callE cr25 rfl rfl (fun w hM => c25 hM hDb hP2) rfl (by nofun) ?_; rintro _ S0 ⟨rfl, rfl⟩
  refine rw_pick rfl rfl rfl rfl rfl ?_
  refine asg ?_
  refine rw_nil ?_; intro w hM
  refine wp_ret ?_
  exact post_tmp (v := .bool true) rfl rfl rfl ⟨_, H, rfl, hM.mono l2, rfl, rfl⟩
end
section
variable {w0 w : World} {H : Heap}
/-- The numbers that are given lie in the memory that was there. -/
def OffRd (w0 : World) (t : TabV) : Prop := t.on < 9223372036854775808 ∧ (t.on = 0 ∨ ∃ b o, t.oa = some ⟨b, o, none⟩ ∧ ∀ i, i < t.on → ∃ x, x < 2 ^ 64 ∧ w0.cell? ⟨b, o + i, none⟩ = some (u64 x))
theorem OffRd.ok {t : TabV} (h : OffRd w0 t) (hn : t.on ≤ 2147483647) : OffOK w0 t := ⟨by omega, h.2⟩
theorem c18 (hM : Mem w0 w H) {t : TabV} : Calls Tryz.prog 18 [.agg t.cells.toArray].toArray w (Keeps w0 H (.bool (decide (t.on ≤ 2147483647)))) := by
 refine calls_start Tryz.func18 rfl Tryz.ntmps18 (Nat.le_of_ble_eq_true rfl) ?_
 refine rs hM ?_
 refine rw_boxN (v := .agg t.cells.toArray) rfl rfl rfl (fun b1 G1 n1 l1 e1 k1 => ?_)
 refine asg ?_
 refine rw_nil ?_; intro w hM
 have e1' : G1 b1 = some (encTab t) := e1
 refine wp_seq ?_
 by_cases h : (t.on : Int) > 2147483647
 ·refine rs hM ?_
  refine fa fr27_3 ?_
  refine lo (v := .slice t.oa t.on t.oc) ld25 e1' ?_
  refine rw_len Tryz.underlying25 rfl rfl rfl ?_
  refine rw_bin rfl rfl rfl rfl (b_true (b_gt _ _) (decide_eq_true h)) ?_
  refine rw_nil ?_; intro w hM
  refine wp_if (tmp_lt rfl) rfl (fun hc => ?_) (by nofun)
  refine rs hM ?_
  refine asg ?_
  refine rw_nil ?_; intro w hM
  refine wp_ret ?_
  simp only [Exit.then]
  rw [decide_eq_false (by omega)]
  exact post_tmp rfl rfl rfl (keep rfl (hM.mono l1))
 ·refine rs hM ?_
  refine fa fr27_3 ?_
  refine lo (v := .slice t.oa t.on t.oc) ld25 e1' ?_
  refine rw_len Tryz.underlying25 rfl rfl rfl ?_
  refine rw_bin rfl rfl rfl rfl (b_false (b_gt _ _) (decide_eq_false h)) ?_
  refine rw_nil ?_; intro w hM
  refine wp_if (tmp_lt rfl) rfl (by nofun) (fun hc => ?_)
  refine wp_skip ?_
  refine rs hM ?_
  refine asg ?_
  refine rw_nil ?_; intro w hM
  refine wp_ret ?_
  rw [decide_eq_true (by omega)]
  exact post_tmp rfl rfl rfl (keep rfl (hM.mono l1))
def noH : Heap := fun _ => none
theorem noH_plain : PlainH noH := fun _ _ h => by cases h
theorem mem0 (w0 : World) : Mem w0 w0 noH := ⟨Below.refl _ _, fun _ _ h => by cases h⟩
/-- What a law's call ends in. -/
abbrev True0 (w0 : World) : Ending → World → Prop := fun e w' => e = .returned (.bool true) ∧ Below w0.heap.size w0 w'
theorem end_of {P : Value → Heap → Prop} (h : ∀ v S, P v S → v = .bool true) {e : Ending} {w' : World} (hg : Gives w0 P e w') : True0 w0 e w' := by
 obtain ⟨v, S, rfl, hM, hp⟩ := hg
 exact ⟨by rw [h v S hp], hM.below⟩
theorem walk13 (hDb : HasDb w0) {t : TabV} (ht : t.OK) (hR : OffRd w0 t) {l : List Stp} (hty : ∀ s ∈ l, StpTy s) {vs : Value} (hs : Rd w0 noH 4 vs l.length (encS l)) :
  Calls Tryz.prog 13 [.agg t.cells.toArray, vs].toArray w0 (True0 w0) := by
 obtain ⟨so, sc, rfl⟩ := hs.shape
 have hM := mem0 w0
 refine calls_start Tryz.func13 rfl Tryz.ntmps13 (Nat.le_of_ble_eq_true rfl) ?_
 refine rs hM ?_
 refine rw_boxN (v := .agg t.cells.toArray) rfl rfl rfl (fun b2 G2 n2 l2 e2 k2 => ?_)
 refine asg ?_
 refine rw_nil ?_; intro w hM
 have e2' : G2 b2 = some (encTab t) := e2
 have hP2 : PlainH G2 := noH_plain.new e2 k2 rfl
 have out : ∀ {w : World}, Mem w0 w G2 → True0 w0 (.returned (.bool true)) w := fun hM => ⟨rfl, hM.below⟩
 refine wp_seq ?_
 by_cases h1 : t.on ≤ 2147483647
 ·by_cases h2 : (l.length : Int) > 2147483647
  ·refine rs hM ?_
   refine rw_loadA t.cells ld27 rfl rfl rfl e2' rfl ?_
   refine rw_callq (v := .bool true) cr18 rfl rfl (fun H' w hle hM => by have := c18 hM (t := t); rw [decide_eq_true h1] at this; exact this) rfl ?_
   refine rw_un rfl rfl rfl (u_not _) ?_
   refine mv ?_
   refine mv ?_
   refine rw_len Tryz.underlying30 rfl rfl rfl ?_
   refine rw_bin rfl rfl rfl rfl (b_true (b_gt _ _) (decide_eq_true h2)) ?_
   refine rw_pick rfl rfl rfl rfl rfl ?_
   refine rw_nil ?_; intro w hM
   refine wp_if (tmp_lt rfl) rfl (fun hc => ?_) (by nofun)
   refine rs hM ?_
   refine asg ?_
   refine rw_nil ?_; intro w hM
   refine wp_ret ?_
   simp only [Exit.then]
   exact post_tmp (v := .bool true) rfl rfl rfl (out hM)
  ·refine rs hM ?_
   refine rw_loadA t.cells ld27 rfl rfl rfl e2' rfl ?_
   refine rw_callq (v := .bool true) cr18 rfl rfl (fun H' w hle hM => by have := c18 hM (t := t); rw [decide_eq_true h1] at this; exact this) rfl ?_
   refine rw_un rfl rfl rfl (u_not _) ?_
   refine mv ?_
   refine mv ?_
   refine rw_len Tryz.underlying30 rfl rfl rfl ?_
   refine rw_bin rfl rfl rfl rfl (b_false (b_gt _ _) (decide_eq_false h2)) ?_
   refine rw_pick rfl rfl rfl rfl rfl ?_
   refine rw_nil ?_; intro w hM
   refine wp_if (tmp_lt rfl) rfl (by nofun) (fun hc => ?_)
   refine wp_skip ?_
   refine rs hM ?_
   refine rw_loadA t.cells ld27 rfl rfl rfl e2' rfl ?_
   refine mv ?_
   refine rw_callE cr22 rfl rfl (fun w hM => c22 hM hDb hP2 ht (hR.ok h1) hty (by omega) (hs.mono l2)) rfl (by nofun) ?_; rintro _ S0 ⟨rfl, rfl⟩
   refine asg ?_
   refine rw_nil ?_; intro w hM
   refine wp_ret ?_
   exact post_tmp (v := .bool true) rfl rfl rfl (out hM)
 ·refine rs hM ?_
  refine rw_loadA t.cells ld27 rfl rfl rfl e2' rfl ?_
  refine rw_callq (v := .bool false) cr18 rfl rfl (fun H' w hle hM => by have := c18 hM (t := t); rw [decide_eq_false h1] at this; exact this) rfl ?_
  refine rw_un rfl rfl rfl (u_not _) ?_
  refine mv ?_
  refine rw_skip rfl rfl ?_
  refine rw_skip rfl rfl ?_
  refine rw_skip rfl rfl ?_
  refine rw_pick rfl rfl rfl rfl rfl ?_
  refine rw_nil ?_; intro w hM
  refine wp_if (tmp_lt rfl) rfl (fun hc => ?_) (by nofun)
  refine rs hM ?_
  refine asg ?_
  refine rw_nil ?_; intro w hM
  refine wp_ret ?_
  simp only [Exit.then]
  exact post_tmp (v := .bool true) rfl rfl rfl (out hM)
end
end Go.Proofs.YtddpfkcofmfmpaaGreatDoor
