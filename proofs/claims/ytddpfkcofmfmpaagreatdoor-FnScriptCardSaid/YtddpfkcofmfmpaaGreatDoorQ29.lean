/-
  The laws' makers of steps: whatever they make are steps of the language. Conditions stand in each contract. Whatever steps were made: the script of them holds; a law's first words. Conditions stand in each contract. Steps put behind a row of the call's own. Conditions stand in each lemma. Plain law: without iterations the answers hang on the keys' equality alone. Conditions stand in each lemma. A step of the call's own row replaced. Conditions stand in the lemma. What a law's arguments read as: a table, steps, numbers; the table of Go's library. Conditions stand in each lemma. The library's table, read; what a law's row asks, from what its call ends in. Conditions stand in each lemma. More arguments: numbers in a row. Conditions stand in each lemma.
  Conditions stand in each lemma.
-/
import Derived.Test.YtddpfkcofmfmpaaGreatDoorQ28
import Derived.Test.YtddpfkcofmfmpaaGreatDoorRows
import Derived.WalkKit
import Derived.ProofKit
import Derived.OpenShut
import Derived.LaidMore
import Derived.Lib.SmallJoins
import Derived.Deep.Slices
import Derived.Test.YtddpfkcofmfmpaaGreatDoorTie
import Derived.Stop.Joined
import Derived.SevenTiedAt
import Derived.Test.YtddpfkcofmfmpaaGreatDoorCards
namespace Go.Proofs.YtddpfkcofmfmpaaGreatDoor
open Go Go.RowKit
set_option maxRecDepth 20000
section
variable {w0 w : World} {H : Heap}
def encK (ks : List Nat) : List Value := ks.flatMap fun k => [u64 k]
/-- Numbers in a row that can be read. -/
structure KeysR (w0 : World) (H : Heap) (v : Value) (ks : List Nat) : Prop where
 shape : ∃ ao cap, v = .slice ao ks.length cap ∧ ks.length ≤ cap
 key : ∀ k ∈ ks, k < 2 ^ 64
 rd : Rd w0 H 1 v ks.length (encK ks)
theorem KeysR.mono {S : Heap} {v : Value} {ks : List Nat} (h : KeysR w0 H v ks) (hle : H.le S) : KeysR w0 S v ks := ⟨h.shape, h.key, h.rd.mono hle⟩
/-- Steps in a row of the call's own. -/
structure OwnS (H0 S : Heap) (v : Value) (l : List Stp) : Prop where
 sl : Sl S 36 4 v l.length (encS l)
 ty : ∀ s ∈ l, StpTy s
 fresh : ∀ x, v.ownBlock = some x → H0 x = none
theorem OwnS.nil (H0 S : Heap) : OwnS H0 S (.slice none 0 0) [] := ⟨Sl.nil _ _ _, fun _ h => (by cases h), fun x h => (by cases h)⟩
theorem OwnS.mono {H0 S S' : Heap} {v : Value} {l : List Stp} (h : OwnS H0 S v l) (hle : S.le S') : OwnS H0 S' v l := ⟨h.sl.mono hle, h.ty, h.fresh⟩
/-- A row that was made behind what is kept. -/
theorem OwnS.made {H0 S : Heap} {b : Nat} {c : Array Value} {n : Nat} {l : List Stp} (hb : S b = some (.cells c 36 (0, 0))) (h0 : H0 b = none) (hc : c = (encS l).toArray) (hn : l.length = n) (hm : n ≤ maxLen) (ht : ∀ s ∈ l, StpTy s) : OwnS H0 S (.slice (some ⟨b, 0, none⟩) n n) l := by
 subst hn
 subst hc
 have hl : (encS l).length = l.length * 4 := flat_len stepC_len l
 exact ⟨⟨hl, .inr ⟨b, _, _, rfl, hb, Nat.le_refl _, hm, by simpa using hl, by rw [List.take_of_length_le]; simp [hl]⟩⟩, ht, fun x hx => by cases hx; exact h0⟩
/-- Steps of which some more are put behind. -/
theorem OwnS.app {H0 G S : Heap} {v v' : Value} {l news : List Stp} {n m : Nat} (h : OwnS H0 G v l) (hn : l.length = n) (hm : news.length = m) (hle : H0.le G) (hnt : ∀ s ∈ news, StpTy s) (hs : Sl S 36 4 v' (n + m) (encS l ++ encS news)) (ho : v'.ownBlock = v.ownBlock ∨ ∃ b, v'.ownBlock = some b ∧ G b = none) (hk : ∀ x o, G x = some o → v.ownBlock ≠ some x → S x = some o) : OwnS H0 S v' (l ++ news) ∧ H0.le S := by
 refine ⟨⟨?_, fun s hs => ?_, fun x hx => ?_⟩, fun x u hx => hk x u (hle _ _ hx) fun e => by rw [h.fresh x e] at hx; cases hx⟩
 ·rw [List.length_append, hn, hm]
  have : encS (l ++ news) = encS l ++ encS news := by simp [encS]
  rw [this]; exact hs
 ·rcases List.mem_append.1 hs with h1 | h1
  ·exact h.ty s h1
  ·exact hnt s h1
 ·rcases ho with e | ⟨b, e, hb⟩
  ·exact h.fresh x (e ▸ hx)
  ·rw [e] at hx; cases hx; exact le_none hle hb
theorem oneC_steps (l : List Stp) : ∀ x ∈ encS l, x.oneCell' = true := fun x hx => by
 obtain ⟨s, _, hs⟩ := List.mem_flatMap.1 hx
 simp only [stepC, List.mem_cons, List.not_mem_nil, or_false] at hs
 rcases hs with rfl | rfl | rfl | rfl <;> rfl
/-- A row that was made, to be read. -/
theorem rd_made {b n : Nat} {l : List Stp} {c : Array Value} (hb : H b = some (.cells c 36 (0, 0))) (hc : c = (encS l).toArray) (hn : l.length = n) : Rd w0 H 4 (.slice (some ⟨b, 0, none⟩) n n) n (encS l) := by
 subst hc
 refine ⟨by rw [← hn]; exact flat_len stepC_len l, .inr ⟨b, 0, n, rfl, fun H' w hle hM j u hj => hM.cell (hle _ _ hb) ?_⟩⟩
 show (encS l).toArray[0 + j]? = some u
 rw [Nat.zero_add, List.getElem?_toArray]; exact hj
theorem stpTy_mk {k i e : Int} {n : Nat} (hn : n < 2 ^ 64) (he : InI64 e) : StpTy ⟨k, i, n, e⟩ := ⟨hn, he⟩
theorem c19 (hM : Mem w0 w H) {ao : Option Addr} {n cap m : Nat} (hc : n ≤ cap) : Calls Tryz.prog 19 [.slice ao n cap, i64 (m : Nat)].toArray w (Keeps w0 H (sliced ao 0 (min n m) cap 1)) := by
 refine calls_start Tryz.func19 rfl Tryz.ntmps19 (Nat.le_of_ble_eq_true rfl) ?_
 refine rs hM ?_
 refine asg ?_
 refine rw_nil ?_; intro w hM
 refine rs hM ?_
 refine mv ?_
 refine mv ?_
 refine rw_len Tryz.underlying25 rfl rfl rfl ?_
 refine mv ?_
 refine rw_min rfl rfl rfl rfl ?_
 refine rw_firstN (l := min n m) Tryz.underlying25 sz22 rfl rfl rfl (congrArg i64 (by by_cases h : m < n; rw [if_pos (by omega)]; omega; rw [if_neg (by omega)]; omega)) (by omega) ?_
 refine asg ?_
 refine rw_nil ?_; intro w hM
 refine wp_ret ?_
 exact post_tmp rfl rfl rfl (keep rfl hM)
/-- The first numbers of a row. -/
theorem KeysR.few {ao : Option Addr} {cap m : Nat} {ks : List Nat} (h : KeysR w0 H (.slice ao ks.length cap) ks) : KeysR w0 H (sliced ao 0 (min ks.length m) cap 1) (ks.take m) := by
 obtain ⟨ao', cap', e, hcap⟩ := h.shape
 cases e
 have hl : (ks.take m).length = min ks.length m := by rw [List.length_take, Nat.min_comm]
 refine ⟨⟨_, cap, by rw [hl]; rfl, by rw [hl]; omega⟩, fun k hk => h.key k (List.mem_of_mem_take hk), ?_⟩
 rw [hl]
 have hlen : (encK (ks.take m)).length = min ks.length m * 1 := by unfold encK; rw [flat_len (n := 1) (fun _ => rfl), hl]
 refine ⟨hlen, ?_⟩
 by_cases h0 : min ks.length m = 0
 ·left
  refine ⟨h0, ?_⟩
  rw [h0]
  exact ⟨_, _, rfl⟩
 ·right
  obtain ⟨b, o, cap', e, hr⟩ := h.rd.some (by omega)
  cases e
  refine ⟨b, o, cap, ?_, fun H' w hle hM j u hj => hr H' w hle hM j u ?_⟩
  ·show Value.slice (if cap = 0 then some ⟨b, o, none⟩ else Option.map (fun x : Addr => x.add (0 * 1)) (some ⟨b, o, none⟩)) _ _ = _
   rw [if_neg (by omega)]
   simp only [Option.map_some, Nat.zero_mul, addr_add, Nat.add_zero, Nat.sub_zero]
  ·have hjl : j < min ks.length m := by
    have := (List.getElem?_eq_some_iff.1 hj).1
    rw [hlen, Nat.mul_one] at this; exact this
   unfold encK at hj ⊢
   obtain ⟨k, hk⟩ : ∃ k, ks[j]? = some k := ⟨_, List.getElem?_eq_getElem (by omega)⟩
   have hk' : (ks.take m)[j]? = some k := by rw [List.getElem?_take_of_lt (by omega)]; exact hk
   have e1 := flat_get (f := fun k : Nat => [u64 k]) (n := 1) (fun _ => rfl) hk (show 0 < 1 by decide)
   have e2 := flat_get (f := fun k : Nat => [u64 k]) (n := 1) (fun _ => rfl) hk' (show 0 < 1 by decide)
   rw [Nat.mul_one, Nat.add_zero] at e1 e2
   rw [e1, ← e2]; exact hj
theorem c20 (hM : Mem w0 w H) {v : Value} {ks : List Nat} (hk : KeysR w0 H v ks) (hn : ks.length ≤ 2147483647) : Calls Tryz.prog 20 [v].toArray w (Gives w0 fun v S => H.le S ∧ ∃ l, l.length = ks.length ∧ OwnS H S v l) := by
 obtain ⟨ao, cap, rfl, _⟩ := hk.shape
 refine calls_start Tryz.func20 rfl Tryz.ntmps20 (Nat.le_of_ble_eq_true rfl) ?_
 refine rs hM ?_
 refine asg ?_
 refine rw_nil ?_; intro w hM
 refine rs hM ?_
 refine asg ?_
 refine rw_nil ?_; intro w hM
 refine wp_seq ?_
 refine rs hM ?_
 refine mv ?_
 refine rw_len Tryz.underlying25 rfl rfl rfl ?_
 refine mv ?_
 refine rw_nil ?_; intro w hM
 refine wp_block ?_
 refine wp_loop_s (fun c f w => ∃ i S l out, c = ks.length - i ∧ i ≤ ks.length ∧ l.length = i ∧ Know f [(3, out), (6, .slice ao ks.length cap), (7, i64 (ks.length : Nat)), (8, i64 (i : Nat))] ∧ Mem w0 w S ∧ H.le S ∧ OwnS H S out l) (ks.length - 0) ?_ ?_
 ·exact ⟨0, H, [], _, rfl, Nat.zero_le _, rfl, Know.of ⟨rfl, rfl, rfl, rfl, trivial⟩, hM, Heap.le_refl _, OwnS.nil _ _⟩
 clear hM
 rintro c f w ⟨i, S, l, out, rfl, hi, hli, ⟨f1, rfl⟩, hM, hle, hO⟩
 refine rs hM ?_
 refine rw_bin rfl rfl rfl rfl (b_lt _ _) ?_
 refine rw_nil ?_; intro w hM
 refine wp_seq ?_
 refine wp_if (tmp_lt rfl) rfl (fun hz => ?_) (fun hz => ?_)
 ·have hil : i < ks.length := by have := of_decide_eq_true hz; omega
  obtain ⟨k, hki⟩ : ∃ k, ks[i]? = some k := ⟨_, List.getElem?_eq_getElem hil⟩
  have hkl := hk.key k (List.mem_of_getElem? hki)
  obtain ⟨b, o, cap', hsl, hr⟩ := hk.rd.some (by omega)
  cases hsl
  refine wp_skip ?_
  refine wp_seq ?_
  refine wp_block ?_
  refine rs hM ?_
  refine mv ?_
  refine rw_indexAddr rfl rfl rfl rfl (x_slice Tryz.underlying25 sz22 hil) ?_
  refine rw_loadG (v := u64 k) ld22 rfl rfl rfl (fun H' w hle' hM => by have := rd_step (size := 1) (f := fun k : Nat => [u64 k]) (fun _ => rfl) hr hki hle H' w hle' hM 0 _ rfl; rw [Nat.add_zero] at this; exact this) ?_
  refine asg ?_
  refine asg ?_
  refine rw_nil ?_; intro w hM
  refine re hM ?_
  refine mv ?_
  refine mv ?_
  refine mv ?_
  refine rw_build (bd36_0_2_3 _ _ _) rfl rfl rfl ?_
  refine rw_buildSlN (bs30_1 _ _ _ _) rfl rfl rfl (fun bs G4 ns ls es ks' => ?_)
  refine rw_appendN (v := out) ap30 rfl rfl rfl rfl (hO.sl.mono ls) (rd_made (l := [⟨0, 0, k, (i : Nat)⟩]) es rfl rfl) (oneC_steps _) (by omega) (fun out' S5 so ko oo => ?_)
  refine asg ?_
  refine rw_nil ?_; intro w hM
  simp only [Exit.then, Exit.inBlock]
  refine re hM ?_
  refine rw_bin (v := i64 ((i + 1 : Nat) : Int)) rfl rfl rfl rfl (bin_eq (b_addi (b := 1) (by omega) (by omega)) (congrArg i64 (by omega))) ?_
  refine mv ?_
  refine rw_nil ?_; intro w hM
  obtain ⟨hO', hle'⟩ := (hO.mono ls).app rfl rfl (Heap.le_trans hle ls) (fun s hs => by rw [List.mem_singleton] at hs; subst hs; exact stpTy_mk hkl ⟨by omega, by omega⟩) so oo ko
  exact ⟨ks.length - (i + 1), _, rfl, by omega, i + 1, S5, _, out', rfl, by omega, by simp [hli], Know.of ⟨rfl, rfl, rfl, rfl, trivial⟩, hM, hle', hO'⟩
 ·refine wp_exit ?_
  simp only [Exit.then, Exit.inBlock, if_true]
  refine rs hM ?_
  refine mv ?_
  refine asg ?_
  refine rw_nil ?_; intro w hM
  refine wp_ret ?_
  have hi' : i = ks.length := by have := of_decide_eq_false hz; omega
  exact post_tmp (v := out) rfl rfl rfl ⟨_, S, rfl, hM, hle, l, by omega, hO⟩
theorem c21 (hM : Mem w0 w H) {it n : Nat} (_ : it ≤ 7) (hn : n ≤ 4294967296) : Calls Tryz.prog 21 [i64 (it : Nat), i64 (n : Nat)].toArray w (Gives w0 fun v S => H.le S ∧ ∃ l, l.length = n + 2 ∧ OwnS H S v l) := by
 refine calls_start Tryz.func21 rfl Tryz.ntmps21 (Nat.le_of_ble_eq_true rfl) ?_
 refine rs hM ?_
 refine asg ?_
 refine rw_nil ?_; intro w hM
 refine rs hM ?_
 refine mv ?_
 refine rw_build (bd36_0_1 _ _) rfl rfl rfl ?_
 refine rw_buildSlN (bs30_1 _ _ _ _) rfl rfl rfl (fun bs G2 ns ls es ks' => ?_)
 refine asg ?_
 refine rw_nil ?_; intro w hM
 have hO0 : OwnS H G2 (.slice (some ⟨bs, 0, none⟩) 1 1) [⟨5, (it : Nat), 0, 0⟩] := OwnS.made es ns rfl rfl (by decide) (fun s hs => by rw [List.mem_singleton] at hs; subst hs; exact ⟨by show (0 : Nat) < 2 ^ 64; decide, by show (-9223372036854775808 : Int) ≤ 0; decide, by show (0 : Int) < 9223372036854775808; decide⟩)
 refine wp_seq ?_
 refine rs hM ?_
 refine mv ?_
 refine rw_bin (v := i64 ((n + 1 : Nat) : Int)) rfl rfl rfl rfl (bin_eq (b_addi (b := 1) (by omega) (by omega)) (congrArg i64 (by omega))) ?_
 refine mv ?_
 refine rw_nil ?_; intro w hM
 refine wp_block ?_
 refine wp_loop_s (fun c f w => ∃ i S l out, c = n + 1 - i ∧ i ≤ n + 1 ∧ l.length = i + 1 ∧ Know f [(0, i64 (it : Nat)), (5, out), (10, i64 ((n + 1 : Nat) : Int)), (11, i64 (i : Nat))] ∧ Mem w0 w S ∧ H.le S ∧ OwnS H S out l) (n + 1 - 0) ?_ ?_
 ·exact ⟨0, G2, _, _, rfl, Nat.zero_le _, rfl, Know.of ⟨rfl, rfl, rfl, rfl, trivial⟩, hM, ls, hO0⟩
 clear hM
 rintro c f w ⟨i, S, l, out, rfl, hi, hli, ⟨f1, rfl⟩, hM, hle, hO⟩
 refine rs hM ?_
 refine rw_bin rfl rfl rfl rfl (b_lt _ _) ?_
 refine rw_nil ?_; intro w hM
 refine wp_seq ?_
 refine wp_if (tmp_lt rfl) rfl (fun hz => ?_) (fun hz => ?_)
 ·have hil : i < n + 1 := by have := of_decide_eq_true hz; omega
  refine wp_skip ?_
  refine wp_seq ?_
  refine wp_block ?_
  refine re hM ?_
  refine mv ?_
  refine mv ?_
  refine rw_build (bd36_0_1 _ _) rfl rfl rfl ?_
  refine rw_buildSlN (bs30_1 _ _ _ _) rfl rfl rfl (fun bs G4 ns ls es ks' => ?_)
  refine rw_appendN (v := out) ap30 rfl rfl rfl rfl (hO.sl.mono ls) (rd_made (l := [⟨6, (it : Nat), 0, 0⟩]) es rfl rfl) (oneC_steps _) (by omega) (fun out' S5 so ko oo => ?_)
  refine asg ?_
  refine rw_nil ?_; intro w hM
  simp only [Exit.then, Exit.inBlock]
  refine re hM ?_
  refine rw_bin (v := i64 ((i + 1 : Nat) : Int)) rfl rfl rfl rfl (bin_eq (b_addi (b := 1) (by omega) (by omega)) (congrArg i64 (by omega))) ?_
  refine mv ?_
  refine rw_nil ?_; intro w hM
  obtain ⟨hO', hle'⟩ := (hO.mono ls).app rfl rfl (Heap.le_trans hle ls) (fun s hs => by rw [List.mem_singleton] at hs; subst hs; exact ⟨by show (0 : Nat) < 2 ^ 64; decide, by show (-9223372036854775808 : Int) ≤ 0; decide, by show (0 : Int) < 9223372036854775808; decide⟩) so oo ko
  exact ⟨n + 1 - (i + 1), _, rfl, by omega, i + 1, S5, _, out', rfl, by omega, by simp [hli], Know.of ⟨rfl, rfl, rfl, rfl, trivial⟩, hM, hle', hO'⟩
 ·refine wp_exit ?_
  simp only [Exit.then, Exit.inBlock, if_true]
  refine rs hM ?_
  refine mv ?_
  refine asg ?_
  refine rw_nil ?_; intro w hM
  refine wp_ret ?_
  have hi' : i = n + 1 := by have := of_decide_eq_false hz; omega
  exact post_tmp (v := out) rfl rfl rfl ⟨_, S, rfl, hM, hle, l, by omega, hO⟩
theorem c23 (hM : Mem w0 w H) {v : Value} {ks : List Nat} (hk : KeysR w0 H v ks) (hn : ks.length ≤ 2147483647) : Calls Tryz.prog 23 [v].toArray w (Gives w0 fun v S => H.le S ∧ ∃ l, l.length = ks.length + 1 ∧ OwnS H S v l) := by
 obtain ⟨ao, cap, rfl, _⟩ := hk.shape
 refine calls_start Tryz.func23 rfl Tryz.ntmps23 (Nat.le_of_ble_eq_true rfl) ?_
 refine rs hM ?_
 refine asg ?_
 refine rw_nil ?_; intro w hM
 refine rs hM ?_
 refine asg ?_
 refine rw_nil ?_; intro w hM
 refine wp_seq ?_
 refine rs hM ?_
 refine mv ?_
 refine rw_len Tryz.underlying25 rfl rfl rfl ?_
 refine mv ?_
 refine rw_nil ?_; intro w hM
 refine wp_block ?_
 refine wp_loop_s (fun c f w => ∃ i S l out, c = ks.length - i ∧ i ≤ ks.length ∧ l.length = i ∧ Know f [(3, out), (6, .slice ao ks.length cap), (7, i64 (ks.length : Nat)), (8, i64 (i : Nat))] ∧ Mem w0 w S ∧ H.le S ∧ OwnS H S out l) (ks.length - 0) ?_ ?_
 ·exact ⟨0, H, [], _, rfl, Nat.zero_le _, rfl, Know.of ⟨rfl, rfl, rfl, rfl, trivial⟩, hM, Heap.le_refl _, OwnS.nil _ _⟩
 clear hM
 rintro c f w ⟨i, S, l, out, rfl, hi, hli, ⟨f1, rfl⟩, hM, hle, hO⟩
 refine rs hM ?_
 refine rw_bin rfl rfl rfl rfl (b_lt _ _) ?_
 refine rw_nil ?_; intro w hM
 refine wp_seq ?_
 refine wp_if (tmp_lt rfl) rfl (fun hz => ?_) (fun hz => ?_)
 ·have hil : i < ks.length := by have := of_decide_eq_true hz; omega
  obtain ⟨k, hki⟩ : ∃ k, ks[i]? = some k := ⟨_, List.getElem?_eq_getElem hil⟩
  have hkl := hk.key k (List.mem_of_getElem? hki)
  obtain ⟨b, o, cap', hsl, hr⟩ := hk.rd.some (by omega)
  cases hsl
  refine wp_skip ?_
  refine wp_seq ?_
  refine wp_block ?_
  refine rs hM ?_
  refine rw_indexAddr rfl rfl rfl rfl (x_slice Tryz.underlying25 sz22 hil) ?_
  refine rw_loadG (v := u64 k) ld22 rfl rfl rfl (fun H' w hle' hM => by have := rd_step (size := 1) (f := fun k : Nat => [u64 k]) (fun _ => rfl) hr hki hle H' w hle' hM 0 _ rfl; rw [Nat.add_zero] at this; exact this) ?_
  refine asg ?_
  refine rw_nil ?_; intro w hM
  refine re hM ?_
  refine mv ?_
  refine mv ?_
  refine rw_build (bd36_0_2 _ _) rfl rfl rfl ?_
  refine rw_buildSlN (bs30_1 _ _ _ _) rfl rfl rfl (fun bs G4 ns ls es ks' => ?_)
  refine rw_appendN (v := out) ap30 rfl rfl rfl rfl (hO.sl.mono ls) (rd_made (l := [⟨1, 0, k, 0⟩]) es rfl rfl) (oneC_steps _) (by omega) (fun out' S5 so ko oo => ?_)
  refine asg ?_
  refine rw_nil ?_; intro w hM
  simp only [Exit.then, Exit.inBlock]
  refine re hM ?_
  refine rw_bin (v := i64 ((i + 1 : Nat) : Int)) rfl rfl rfl rfl (bin_eq (b_addi (b := 1) (by omega) (by omega)) (congrArg i64 (by omega))) ?_
  refine mv ?_
  refine rw_nil ?_; intro w hM
  obtain ⟨hO', hle'⟩ := (hO.mono ls).app rfl rfl (Heap.le_trans hle ls) (fun s hs => by rw [List.mem_singleton] at hs; subst hs; exact stpTy_mk hkl ⟨by omega, by omega⟩) so oo ko
  exact ⟨ks.length - (i + 1), _, rfl, by omega, i + 1, S5, _, out', rfl, by omega, by simp [hli], Know.of ⟨rfl, rfl, rfl, rfl, trivial⟩, hM, hle', hO'⟩
 ·refine wp_exit ?_
  simp only [Exit.then, Exit.inBlock, if_true]
  have hi' : i = ks.length := by have := of_decide_eq_false hz; omega
  refine rs hM ?_
  refine mv ?_
  refine rw_build (bd36_0 _) rfl rfl rfl ?_
  refine rw_buildSlN (bs30_1 _ _ _ _) rfl rfl rfl (fun bs G4 ns ls es ks' => ?_)
  refine rw_appendN (v := out) ap30 rfl rfl rfl rfl (hO.sl.mono ls) (rd_made (l := [⟨4, 0, 0, 0⟩]) es rfl rfl) (oneC_steps _) (by omega) (fun out' S5 so ko oo => ?_)
  refine asg ?_
  refine rw_nil ?_; intro w hM
  obtain ⟨hO', hle'⟩ := (hO.mono ls).app rfl rfl (Heap.le_trans hle ls) (fun s hs => by rw [List.mem_singleton] at hs; subst hs; exact ⟨by show (0 : Nat) < 2 ^ 64; decide, by show (-9223372036854775808 : Int) ≤ 0; decide, by show (0 : Int) < 9223372036854775808; decide⟩) so oo ko
  refine wp_ret ?_
  exact post_tmp (v := out') rfl rfl rfl ⟨_, S5, rfl, hM, hle', _, by simp [hli, hi'], hO'⟩
end
section
variable {w0 w : World} {H : Heap}
theorem Mem.none {S : Heap} (h : Mem w0 w S) : Mem w0 w noH := h.mono fun x u hx => by cases hx
theorem c22o {H0 S : Heap} (hM : Mem w0 w S) (hDb : HasDb w0) {t : TabV} (ht : t.OK) (hO : OffOK w0 t) {v : Value} {l : List Stp} (hl : OwnS H0 S v l) (hll : l.length < 9223372036854775808) :
  Calls Tryz.prog 22 [.agg t.cells.toArray, v].toArray w (Gives w0 fun v S' => S' = noH ∧ v = .bool true) := by
 have hX : Heap.le (fun x => if v.ownBlock = some x then S x else Option.none) S := fun x u hx => by
  simp only at hx; split at hx
  ·exact hx
  ·cases hx
 have hPl : PlainH (fun x => if v.ownBlock = some x then S x else Option.none) := fun x u hx => by
  simp only at hx; split at hx
  ·rename_i e
   obtain ⟨cur, hc⟩ := hl.sl.blk e
   rw [hc] at hx; cases hx
   exact ⟨plain_of rfl, by show (36 : Nat) ≠ 108; decide⟩
  ·cases hx
 have hsl : Sl (fun x => if v.ownBlock = some x then S x else Option.none) 36 4 v l.length (encS l) := hl.sl.move fun x u hx e => by show (if v.ownBlock = some x then S x else Option.none) = _; rw [if_pos e]; exact hx
 exact (c22 (hM.mono hX) hDb hPl ht hO hl.ty hll hsl.rd).mono fun e w' h => by
  obtain ⟨v, S', h1, h2, _, h4⟩ := h
  exact ⟨v, noH, h1, h2.none, rfl, h4⟩
theorem c25o {S : Heap} (hM : Mem w0 w S) (hDb : HasDb w0) : Calls Tryz.prog 25 [].toArray w (Gives w0 fun v S' => S' = noH ∧ v = .bool true) := c25 hM.none hDb noH_plain
end
section
theorem st0 (k i : Int) : StpTy ⟨k, i, 0, 0⟩ := ⟨by show (0 : Nat) < 2 ^ 64; decide, by show (-9223372036854775808 : Int) ≤ 0; decide, by show (0 : Int) < 9223372036854775808; decide⟩
theorem stk (k i : Int) {n : Nat} (h : n < 2 ^ 64) : StpTy ⟨k, i, n, 0⟩ := ⟨h, by show (-9223372036854775808 : Int) ≤ 0; decide, by show (0 : Int) < 9223372036854775808; decide⟩
theorem all1 {a : Stp} (h : StpTy a) : ∀ s ∈ [a], StpTy s := fun s hs => by rw [List.mem_singleton] at hs; subst hs; exact h
theorem all2 {a : Stp} {l : List Stp} (h : StpTy a) (hl : ∀ s ∈ l, StpTy s) : ∀ s ∈ a :: l, StpTy s := fun s hs => by
 rcases List.mem_cons.1 hs with rfl | hs
 ·exact h
 ·exact hl s hs
section
variable {ops : Array Oper} {sp br : List Nat} {d : Bool} {w0 : World} {K : Slots → World → Prop} {i : Nat} {rest : List Nat} {Hq H : Heap} {f : Slots}
variable {dst : Tmp} {ty : TypeId} {pos : String} {aft : Array Edge} {g : Option (Nat × Bool)}
theorem rw_ownN {x y : Operand} {v u : Value} {H0 : Heap} {l news : List Stp} {m : Nat} (ho : ops[i]? = some ⟨some dst, .call ⟨.builtin .append, #[x, y], #[30, 30]⟩, ty, pos, aft, g⟩) (hw : wantedS ops f ⟨some dst, .call ⟨.builtin .append, #[x, y], #[30, 30]⟩, ty, pos, aft, g⟩ = true) (hx : ev f x = v) (hy : ev f y = u)
  (hO : OwnS H0 H v l) (hle : H0.le H) (hu : Rd w0 H 4 u m (encS news)) (hm : news.length = m) (hnt : ∀ s ∈ news, StpTy s) (hb : l.length + m ≤ 1099511627776)
  (h : ∀ (v' : Value) (S : Heap), OwnS H0 S v' (l ++ news) → H0.le S → RW Tryz.prog ops sp br false w0 K rest S S (f.set dst v')) : RW Tryz.prog ops sp br false w0 K (i :: rest) Hq H f :=
 rw_appendN ap30 ho hw hx hy hO.sl hu (oneC_steps _) (by omega) fun v' S so ko oo => by
  obtain ⟨h1, h2⟩ := hO.app rfl hm hle hnt so oo ko
  exact h v' S h1 h2
theorem rw_ownD {x y : Operand} {v u : Value} {l news : List Stp} {m : Nat} (ho : ops[i]? = some ⟨some dst, .call ⟨.builtin .append, #[x, y], #[30, 30]⟩, ty, pos, aft, g⟩) (hw : wantedS ops f ⟨some dst, .call ⟨.builtin .append, #[x, y], #[30, 30]⟩, ty, pos, aft, g⟩ = true) (hx : ev f x = v) (hy : ev f y = u)
  (hO : OwnS Hq H v l) (hle : Hq.le H) (hu : Rd w0 H 4 u m (encS news)) (hm : news.length = m) (hnt : ∀ s ∈ news, StpTy s) (hb : l.length + m ≤ 1099511627776) (hd : sp.contains i = true)
  (h : ∀ (v' : Value) (S : Heap), OwnS Hq S v' (l ++ news) → Hq.le S → RW Tryz.prog ops sp br true w0 K rest Hq S (f.set dst v')) : RW Tryz.prog ops sp br true w0 K (i :: rest) Hq H f :=
 rw_appendD ap30 ho hw hx hy hO.sl hu (oneC_steps _) (by omega) hd fun v' S so ko oo => by
  obtain ⟨h1, h2⟩ := hO.app rfl hm hle hnt so oo ko
  exact ⟨h2, h v' S h1 h2⟩
end
/-- int(uint(n) % d), plus one. -/
theorem c_wrap (n : Int) : ∃ m : Nat, m < 2 ^ 64 ∧ ConvRun Tryz.prog 3 37 (i64 n) (u64 m) :=
 ⟨(n % 2 ^ 64).toNat, by omega, conv_eq (c_int Tryz.underlying3 Tryz.underlying37 n) (by rw [wrap_u rfl]; exact congrArg (Value.int .u64) (by show n % 2 ^ 64 = ((n % 2 ^ 64).toNat : Int); omega))⟩
end
theorem findE_same {K K' : KT} (h : ∀ a b, K.eqk a b = K'.eqk a b) (all : List Ent) (k : Nat) : findE K all k = findE K' all k := by
 unfold findE; congr 1; funext e; rw [h]
theorem acc_det {K K' : KT} (h : ∀ a b, K.eqk a b = K'.eqk a b) {M M' M1 M1' : Mdl} {s : Stp} {a b : Ans} (hk5 : s.kind ≠ 5) (hk6 : s.kind ≠ 6) (hA : Acc K M s a M1) (hB : Acc K' M' s b M1') (hall : M.all = M'.all) : a = b ∧ M1.all = M1'.all := by
 cases hA <;> cases hB <;> first | omega | skip
 ·refine ⟨rfl, ?_⟩
  show putE K M.all s.key s.elem = putE K' M'.all s.key s.elem
  unfold putE; rw [hall, findE_same h]
 ·refine ⟨?_, hall⟩
  unfold getE; rw [hall, findE_same h]
 ·refine ⟨rfl, ?_⟩
  show delE K M.all s.key = delE K' M'.all s.key
  unfold delE; rw [hall, findE_same h]
 ·refine ⟨rfl, ?_⟩
  show goneAll M.all = goneAll M'.all
  rw [hall]
 ·exact ⟨by rw [hall], hall⟩
theorem accAll_det {K K' : KT} (h : ∀ a b, K.eqk a b = K'.eqk a b) {M0 M0' M M' : Mdl} {l : List Stp} {ra rb : List Ans} (hl : ∀ s ∈ l, s.kind ≠ 5 ∧ s.kind ≠ 6) (hA : AccAll K M0 l ra M) (hB : AccAll K' M0' l rb M') (h0 : M0.all = M0'.all) : ra = rb := by
 have la := hA.len
 have lb := hB.len
 obtain ⟨Ms, m1, _, m3⟩ := hA.states
 obtain ⟨Ns, n1, _, n3⟩ := hB.states
 have key : ∀ q, q ≤ l.length → (Ms q).all = (Ns q).all ∧ ∀ j, j < q → ra[j]? = rb[j]? := fun q => by
  induction q with
  | zero => exact fun _ => ⟨by rw [m1, n1]; exact h0, fun j hj => by omega⟩
  | succ q ih =>
   intro hq
   obtain ⟨i1, i2⟩ := ih (by omega)
   have hs : l[q]? = some l[q] := List.getElem?_eq_getElem (by omega)
   have ha : ra[q]? = some ra[q] := List.getElem?_eq_getElem (by omega)
   have hb : rb[q]? = some rb[q] := List.getElem?_eq_getElem (by omega)
   obtain ⟨k5, k6⟩ := hl _ (List.getElem_mem (show q < l.length by omega))
   obtain ⟨e1, e2⟩ := acc_det h k5 k6 (m3 q _ _ hs ha) (n3 q _ _ hs hb) i1
   refine ⟨e2, fun j hj => ?_⟩
   by_cases e : j = q
   ·subst e; rw [ha, hb, e1]
   ·exact i2 j (by omega)
 apply List.ext_getElem?
 intro j
 by_cases hj : j < l.length
 ·exact (key l.length (Nat.le_refl _)).2 j hj
 ·rw [List.getElem?_eq_none (by omega), List.getElem?_eq_none (by omega)]
/-- A heap, and a row's block besides. -/
def Heap.add (H S : Heap) (v : Value) : Heap := fun x => if v.ownBlock = some x then S x else H x
theorem Heap.add_le {H S : Heap} {v : Value} (h : H.le S) : (H.add S v).le S := fun x u hx => by
 unfold Heap.add at hx; split at hx
 ·exact hx
 ·exact h x u hx
theorem Heap.le_add {H S : Heap} {v : Value} (h : H.le S) : H.le (H.add S v) := fun x u hx => by
 unfold Heap.add; split
 ·exact h x u hx
 ·exact hx
theorem PlainH.add {H S : Heap} {v : Value} {e size n : Nat} {cs : List Value} (h : PlainH H) (hs : Sl S e size v n cs) (he : (Nat.beq e 132 || Nat.beq e 149 || Nat.beq e 158 || Nat.beq e 101 || Nat.beq e 108) = false) : PlainH (H.add S v) := fun x u hx => by
 rw [Bool.or_eq_false_iff] at he
 unfold Heap.add at hx; split at hx
 ·rename_i e1
  obtain ⟨cur, hc⟩ := hs.blk e1
  rw [hc] at hx; cases hx
  exact ⟨plain_of he.1, nat_beq_f.1 he.2⟩
 ·exact h x u hx
theorem Sl.added {H S : Heap} {v : Value} {e size n : Nat} {cs : List Value} (hs : Sl S e size v n cs) : Sl (H.add S v) e size v n cs := hs.move fun x u hx e1 => by unfold Heap.add; rw [if_pos e1]; exact hx
theorem OwnS.set {H0 S S' : Heap} {g n cap i : Nat} {l : List Stp} {s : Stp} {c : Array Value} (h : OwnS H0 S (.slice (some ⟨g, 0, none⟩) n cap) l) (hi : i < l.length) (hs : StpTy s) (hS : S g = some (.cells c 36 (0, 0))) (hS' : S' g = some (.cells (setMany c (i * 4) (stepC s)) 36 (0, 0))) : OwnS H0 S' (.slice (some ⟨g, 0, none⟩) n cap) (l.set i s) := by
 have hlen : (encS l).length = l.length * 4 := flat_len stepC_len l
 have hlen' : (encS (l.set i s)).length = (l.set i s).length * 4 := flat_len stepC_len _
 rcases h.sl.2 with ⟨e, _⟩ | ⟨g', cap', cur, e, h1, h2, h3, h4, h5⟩
 ·cases e
 cases e
 rw [hS] at h1
 cases h1
 refine ⟨⟨hlen', .inr ⟨g, cap, _, by rw [List.length_set], hS', by rw [List.length_set]; exact h2, h3, by rw [setMany_size]; exact h4, ?_⟩⟩, fun x hx => ?_, h.fresh⟩
 ·rw [List.length_set] at hlen' ⊢
  apply List.ext_getElem?
  intro t
  by_cases ht : t < l.length * 4
  ·have hsz : t < c.size := by rw [h4]; omega
   rw [List.getElem?_take_of_lt ht, Array.getElem?_toList, setMany_get _ _ _ _ hsz]
   obtain ⟨j, r, hr, rfl⟩ : ∃ j r, r < 4 ∧ t = j * 4 + r := ⟨t / 4, t % 4, Nat.mod_lt _ (by decide), by omega⟩
   have hj : j < l.length := by omega
   by_cases hij : i = j
   ·subst hij
    have e1 : (l.set i s)[i]? = some s := by rw [List.getElem?_set_self hi]
    have e2 : (encS (l.set i s))[i * 4 + r]? = _ := flat_get stepC_len e1 hr
    rw [e2, stepC_len, if_pos ⟨by omega, by omega⟩, Nat.add_sub_cancel_left]
   ·have e1 : (l.set i s)[j]? = some l[j] := by rw [List.getElem?_set_ne hij]; exact List.getElem?_eq_getElem hj
    have e2 : (encS (l.set i s))[j * 4 + r]? = _ := flat_get stepC_len e1 hr
    have e3 : (encS l)[j * 4 + r]? = _ := flat_get stepC_len (List.getElem?_eq_getElem hj) hr
    rw [e2, ← e3, stepC_len, if_neg (by omega), ← h5, List.getElem?_take_of_lt ht, Array.getElem?_toList]
  ·rw [List.getElem?_eq_none (by rw [List.length_take]; omega), List.getElem?_eq_none (by omega)]
 ·rcases List.mem_or_eq_of_mem_set hx with h6 | h6
  ·exact h.ty x h6
  ·rw [h6]; exact hs
/-- The block of a row that has steps. -/
theorem OwnS.block {H0 S : Heap} {v : Value} {l : List Stp} (h : OwnS H0 S v l) (hl : 0 < l.length) : ∃ g cap c, v = .slice (some ⟨g, 0, none⟩) l.length cap ∧ S g = some (.cells c 36 (0, 0)) ∧ c.size = cap * 4 ∧ l.length ≤ cap ∧ H0 g = none := by
 rcases h.sl.2 with ⟨_, e⟩ | ⟨g, cap, c, e, h1, h2, _, h4, _⟩
 ·omega
 ·exact ⟨g, cap, c, e, h1, h4, h2, h.fresh g (by rw [e]; rfl)⟩
/-- Whole numbers in a row that can be read. -/
structure IntsR (w0 : World) (H : Heap) (v : Value) (zs : List Int) : Prop where
 shape : ∃ ao cap, v = .slice ao zs.length cap ∧ zs.length ≤ cap
 el : ∀ z ∈ zs, InI64 z
 rd : Rd w0 H 1 v zs.length (zs.flatMap fun z => [i64 z])
section
open Go.ChangeShapes Go.WideShapes Go.ChangeAt
theorem getD_at {zs : List Int} {i : Nat} (h : i < zs.length) : zs.getD i 0 = zs[i] := by
 rw [List.getD_eq_getElem?_getD, List.getElem?_eq_getElem h]; rfl
theorem wf_i64_of {n : Int} (h : (Lit.int .i64 n).wf = true) : InI64 n := by
 have h' : (decide ((-9223372036854775808 : Int) ≤ n) && decide (n ≤ (9223372036854775807 : Int))) = true := h
 rw [Bool.and_eq_true, decide_eq_true_eq, decide_eq_true_eq] at h'
 constructor <;> omega
theorem wf_u64_of {n : Int} (h : (Lit.int .u64 n).wf = true) : ∃ k : Nat, n = (k : Int) ∧ k < 2 ^ 64 := by
 have h' : (decide ((0 : Int) ≤ n) && decide (n ≤ (18446744073709551615 : Int))) = true := h
 rw [Bool.and_eq_true, decide_eq_true_eq, decide_eq_true_eq] at h'
 exact ⟨n.toNat, by omega, by omega⟩
section
variable {H : Type} {enc : TypeId × Value → H} {W : World} {base : Nat} {v : Value} {d : DataW H} {p : List MemPlace}
theorem row_at {a : Addr} {n : Nat} {f : Nat → Value} (h : ∀ i, i < n → W.cell? (a.add i) = some (f i)) (hn : 0 < n) : ∃ b o, a = ⟨b, o, none⟩ ∧ ∀ i, i < n → W.cell? ⟨b, o + i, none⟩ = some (f i) := by
 obtain ⟨b, o, sp⟩ := a
 have h0 := h 0 hn
 have hsp : sp = none := by simpa [Addr.add] using World.cell?_spot h0
 subst hsp
 exact ⟨b, o, rfl, fun i hi => by have := h i hi; rw [addr_add] at this; exact this⟩
/-- Numbers. -/
theorem u64s_open (hv : Value.okWide Tryz.prog W .any base 25 v) (h : DataW.Trod enc Tryz.prog W 0 (fun _ => true) true 25 v d p) : ∃ (ao : Option Addr) (n cap : Nat) (ks : List Nat), v = .slice ao n cap ∧ n ≤ cap ∧ n < 9223372036854775808 ∧ ks.length = n ∧ (∀ k ∈ ks, k < 2 ^ 64) ∧ (n = 0 ∨ ∃ b o, ao = some ⟨b, o, none⟩ ∧ ∀ (i k : Nat), ks[i]? = some k → W.cell? ⟨b, o + i, none⟩ = some (u64 k)) := by
 obtain ⟨ao, n, cap, rfl⟩ := okWide_slice Tryz.underlying25 hv
 obtain ⟨fuel, hf⟩ := h
 rcases open_ints Tryz.underlying25 Tryz.underlying22 (by kernel_rfl) hf with ⟨hcs, _⟩ | ⟨x, l, c, zs, hcs, _, hl, hm, hz, _, hcell, hwz⟩
 ·simp [Value.cells] at hcs
  obtain ⟨rfl, rfl, rfl⟩ := hcs
  exact ⟨_, 0, 0, [], rfl, Nat.le_refl _, by decide, rfl, fun k hk => (by cases hk), .inl rfl⟩
 ·simp [Value.cells] at hcs
  obtain ⟨rfl, rfl, rfl⟩ := hcs
  have hz' : zs.length = cap := by simpa using hz
  have hmx : cap < 9223372036854775808 := by simp only [maxLen] at hm; omega
  refine ⟨_, n, cap, (zs.take n).map Int.toNat, rfl, hl, by omega, by simp; omega, fun k hk => ?_, ?_⟩
  ·obtain ⟨z, hz1, rfl⟩ := List.mem_map.1 hk
   obtain ⟨k', e, hk'⟩ := wf_u64_of (hwz z (List.mem_of_mem_take hz1))
   rw [e]; exact hk'
  ·by_cases hn : n = 0
   ·exact .inl hn
   ·right
    obtain ⟨b, o, rfl, hc⟩ := row_at (W := W) hcell (by omega)
    refine ⟨b, o, rfl, fun i k hik => ?_⟩
    rw [List.getElem?_map, List.getElem?_take] at hik
    split at hik
    ·rename_i hi
     have hi' : i < zs.length := by omega
     rw [List.getElem?_eq_getElem hi'] at hik
     simp only [Option.map_some, Option.some.injEq] at hik
     obtain ⟨k', e, hk'⟩ := wf_u64_of (hwz _ (List.getElem_mem hi'))
     have := hc i hi'
     rw [this, getD_at hi', e]
     rw [e] at hik
     rw [← hik]; rfl
    ·cases hik
/-- A table. -/
theorem tab_open (hv : Value.okWide Tryz.prog W .any base 27 v) (h : DataW.Trod enc Tryz.prog W 0 (fun _ => true) true 27 v d p) : ∃ t : TabV, v = .agg t.cells.toArray ∧ t.OK ∧ OffRd W t := by
 obtain ⟨cs, rfl, hsz⟩ := okWide_struct Tryz.underlying27 hv
 have h7 : Tryz.prog.cellsOf 27 = 7 := by kernel_rfl
 rw [h7] at hsz
 obtain ⟨cl⟩ := cs
 have hl : cl.length = 7 := by simpa using hsz
 match cl, hl with
 | [c0, c1, c2, c3, c4, c5, c6], _ =>
  obtain ⟨fuel, hf⟩ := h
  have hf' : DataW.trod enc Tryz.prog W 0 (fun _ => true) true fuel 27 [c0, c1, c2, c3, c4, c5, c6] = some (d, p) := hf
  obtain ⟨y0, y1, y2, y3, n, _, _, h0, h1, h2, h3⟩ := Joins.trod_struct4 Tryz.underlying27 hf'
  have h0' : DataW.trod enc Tryz.prog W 0 (fun _ => true) true n 4 [c0] = some y0 := h0
  have h1' : DataW.trod enc Tryz.prog W 0 (fun _ => true) true n 3 [c1] = some y1 := h1
  have h2' : DataW.trod enc Tryz.prog W 0 (fun _ => true) true n 24 [c2, c3, c4, c5] = some y2 := h2
  have h3' : DataW.trod enc Tryz.prog W 0 (fun _ => true) true n 25 [c6] = some y3 := h3
  obtain ⟨fl, e0, _⟩ := DataW.trod_bool Tryz.underlying4 h0'
  obtain ⟨hint, e1, _, w1⟩ := DataW.trod_int Tryz.underlying3 h1'
  obtain ⟨z0, z1, z2, z3, m, _, _, g0, g1, g2, g3⟩ := Joins.trod_struct4 Tryz.underlying24 h2'
  have g0' : DataW.trod enc Tryz.prog W 0 (fun _ => true) true m 22 [c2] = some z0 := g0
  have g1' : DataW.trod enc Tryz.prog W 0 (fun _ => true) true m 22 [c3] = some z1 := g1
  have g2' : DataW.trod enc Tryz.prog W 0 (fun _ => true) true m 22 [c4] = some z2 := g2
  have g3' : DataW.trod enc Tryz.prog W 0 (fun _ => true) true m 3 [c5] = some z3 := g3
  obtain ⟨seed, e2, _, w2⟩ := DataW.trod_int Tryz.underlying22 g0'
  obtain ⟨times, e3, _, w3⟩ := DataW.trod_int Tryz.underlying22 g1'
  obtain ⟨mask, e4, _, w4⟩ := DataW.trod_int Tryz.underlying22 g2'
  obtain ⟨shift, e5, _, w5⟩ := DataW.trod_int Tryz.underlying3 g3'
  obtain ⟨so, sn, sc, hsl⟩ := Joins.slice_form Tryz.underlying25 h3'
  cases e0; cases e1; cases e2; cases e3; cases e4; cases e5; cases hsl
  obtain ⟨s', rfl, hs'⟩ := wf_u64_of w2
  obtain ⟨t', rfl, ht'⟩ := wf_u64_of w3
  obtain ⟨m', rfl, hm'⟩ := wf_u64_of w4
  refine ⟨⟨fl, hint, s', t', m', shift, so, sn, sc⟩, rfl, ⟨hs', ht', hm', wf_i64_of w5, wf_i64_of w1⟩, ?_⟩
  rcases open_ints Tryz.underlying25 Tryz.underlying22 (by kernel_rfl) h3' with ⟨hcs, _⟩ | ⟨x, l, c, zs, hcs, _, hl, hm, hz, _, hcell, hwz⟩
  ·cases hcs
   exact ⟨by show 0 < _; decide, .inl rfl⟩
  ·cases hcs
   have hz' : zs.length = sc := by simpa using hz
   have hmx : sc < 9223372036854775808 := by simp only [maxLen] at hm; omega
   refine ⟨by show sn < _; omega, ?_⟩
   by_cases hn : sn = 0
   ·exact .inl hn
   ·right
    obtain ⟨b, o, rfl, hc⟩ := row_at (W := W) hcell (by omega)
    refine ⟨b, o, rfl, fun i hi => ?_⟩
    have hi1 : i < sn := hi
    have hi' : i < zs.length := by omega
    obtain ⟨k', e, hk'⟩ := wf_u64_of (hwz _ (List.getElem_mem hi'))
    exact ⟨k', hk', by rw [hc i hi', getD_at hi', e]⟩
/-- Steps. -/
theorem steps_open (hv : Value.okWide Tryz.prog W .any base 30 v) (h : DataW.Trod enc Tryz.prog W 0 (fun _ => true) true 30 v d p) : ∃ l : List Stp, (∀ s ∈ l, StpTy s) ∧ Rd W noH 4 v l.length (encS l) := by
 obtain ⟨ao, n, cap, rfl⟩ := okWide_slice Tryz.underlying30 hv
 obtain ⟨fuel, hf⟩ := h
 rcases Deep.open_slice Tryz.underlying30 hf with ⟨hcs, _⟩ | ⟨a, len, c, m, q, D, Pl, hcs, _, hl, hm, hmm, _, hel⟩
 ·simp [Value.cells] at hcs
  obtain ⟨rfl, rfl, rfl⟩ := hcs
  exact ⟨[], fun s hs => (by cases hs), rfl, .inl ⟨rfl, _, _, rfl⟩⟩
 ·simp [Value.cells] at hcs
  obtain ⟨rfl, rfl, rfl⟩ := hcs
  have hmc : m = cap := by simpa using hmm
  have h4 : Tryz.prog.cellsOf 36 = 4 := by kernel_rfl
  rw [h4] at hel
  have step : ∀ i, i < n → ∃ s : Stp, StpTy s ∧ ∀ j u, (stepC s)[j]? = some u → W.cell? ((a.add (i * 4)).add j) = some u := fun i hi => by
   obtain ⟨cs', h1, h2⟩ := hel i (by omega)
   obtain ⟨g1, g2, g3⟩ := World.cells?_some h1
   match cs', g2 with
   | [c0, c1, c2, c3], _ =>
    obtain ⟨y0, y1, y2, y3, n', _, _, k0, k1, k2, k3⟩ := Joins.trod_struct4 Tryz.underlying36 h2
    have k0' : DataW.trod enc Tryz.prog W 0 (fun _ => true) true n' 3 [c0] = some y0 := k0
    have k1' : DataW.trod enc Tryz.prog W 0 (fun _ => true) true n' 3 [c1] = some y1 := k1
    have k2' : DataW.trod enc Tryz.prog W 0 (fun _ => true) true n' 22 [c2] = some y2 := k2
    have k3' : DataW.trod enc Tryz.prog W 0 (fun _ => true) true n' 2 [c3] = some y3 := k3
    obtain ⟨kd, e0, _, w0⟩ := DataW.trod_int Tryz.underlying3 k0'
    obtain ⟨it, e1, _, w1⟩ := DataW.trod_int Tryz.underlying3 k1'
    obtain ⟨ky, e2, _, w2⟩ := DataW.trod_int Tryz.underlying22 k2'
    obtain ⟨el, e3, _, w3⟩ := DataW.trod_int Tryz.underlying2 k3'
    cases e0; cases e1; cases e2; cases e3
    obtain ⟨ky', rfl, hky⟩ := wf_u64_of w2
    refine ⟨⟨kd, it, ky', el⟩, ⟨hky, wf_i64_of w3⟩, fun j u hj => ?_⟩
    have hjl : j < 4 := (List.getElem?_eq_some_iff.1 hj).1
    rw [g3 j hjl]; exact hj
  have hex : ∃ F : Nat → Stp, ∀ i, i < n → StpTy (F i) ∧ ∀ j u, (stepC (F i))[j]? = some u → W.cell? ((a.add (i * 4)).add j) = some u :=
   ⟨fun i => if hi : i < n then Classical.choose (step i hi) else ⟨0, 0, 0, 0⟩, fun i hi => by simp only [dif_pos hi]; exact Classical.choose_spec (step i hi)⟩
  obtain ⟨F, hF⟩ := hex
  have hlen : ((List.range n).map F).length = n := by simp
  refine ⟨(List.range n).map F, fun s hs => ?_, ?_⟩
  ·obtain ⟨i, hi, rfl⟩ := List.mem_map.1 hs
   exact (hF i (List.mem_range.1 hi)).1
  ·rw [hlen]
   refine ⟨by unfold encS; rw [flat_len stepC_len, hlen], ?_⟩
   by_cases hn : n = 0
   ·subst hn; exact .inl ⟨rfl, _, _, rfl⟩
   ·right
    have h0 := (hF 0 (by omega)).2 0 _ rfl
    obtain ⟨b, o, sp⟩ := a
    have hsp : sp = none := by simpa [Addr.add] using World.cell?_spot h0
    subst hsp
    refine ⟨b, o, cap, rfl, fun H' w _ hM j u hj => ?_⟩
    have hjl : j < n * 4 := by
     have := (List.getElem?_eq_some_iff.1 hj).1
     unfold encS at this
     rw [flat_len stepC_len, hlen] at this; exact this
    have hi : j / 4 < n := by omega
    have hg : ((List.range n).map F)[j / 4]? = some (F (j / 4)) := by
     rw [List.getElem?_map, List.getElem?_range hi]; rfl
    have hm4 : j % 4 < 4 := Nat.mod_lt _ (by decide)
    have e := flat_get stepC_len hg hm4
    have hje : j / 4 * 4 + j % 4 = j := by omega
    rw [hje] at e
    have := (hF (j / 4) hi).2 (j % 4) u (by rw [← e]; exact hj)
    rw [addr_add, addr_add, Nat.add_assoc, hje] at this
    exact hM.old this
end
end
section
open Go.ChangeShapes Go.WideShapes Go.ChangeAt
def laidDb : List (String × DataW Unit) := [("math/bits.deBruijn64tab", Rows.laid_math_bits_deBruijn64tab)]
theorem gDb : Tryz.prog.globalNamed "math/bits.deBruijn64tab" = some 1 := by kernel_rfl
theorem tyDb : ∃ T, (Tryz.prog.globals[1]?).map (·.type) = some T ∧ Tryz.prog.underlying T = some (.array 64 5) ∧ Tryz.prog.cellsOf 5 = 1 := ⟨171, by kernel_rfl, Tryz.underlying171, by kernel_rfl⟩
theorem laid_is : (Rows.laid_math_bits_deBruijn64tab : DataW Unit) = .agg (dbTab.map fun (n : Nat) => .lit (.int .u8 (n : Int))) := by rfl
theorem hasDb_of {W : World} (h : laidMetH Tryz.prog laidDb W) : HasDb W := by
 rw [MakeChecks.laidMetH_plain _ _ _ (by kernel_rfl)] at h
 obtain ⟨ps, ⟨g0, t0, cs0, f0, p0, q0, hg0, ht0, hv0, hd0, _, _⟩, _, _⟩ := h
 obtain ⟨T, hT, hu, hc⟩ := tyDb
 obtain rfl := Option.some.inj (gDb.symm.trans hg0)
 obtain rfl := Option.some.inj (hT.symm.trans ht0)
 obtain ⟨xs, m, _, hx, _, hlen, hel⟩ := DataW.trod_array hu hd0
 rw [laid_is] at hx
 simp only [Prod.mk.injEq, DataW.agg.injEq] at hx
 intro i hi
 have h1 := hel i hi
 rw [hc, Nat.mul_one] at h1
 obtain ⟨x, hxi⟩ : ∃ x, xs[i]? = some x := ⟨_, List.getElem?_eq_getElem (by omega)⟩
 rw [hxi] at h1
 obtain ⟨n, e1, e2, _⟩ := DataW.trod_int Tryz.underlying5 h1
 have h2 : (xs.map fun x => x.1)[i]? = some (.lit (.int .u8 n)) := by rw [List.getElem?_map, hxi, e2]; rfl
 rw [← hx.1, List.getElem?_map] at h2
 have h3 : cs0[i]? = some (.int .u8 n) := by
  have : (cs0.toList.drop i).take 1 = [Value.int .u8 n] := e1
  have h4 : ((cs0.toList.drop i).take 1)[0]? = some (Value.int .u8 n) := by rw [this]; rfl
  rw [List.getElem?_take_of_lt (by decide), List.getElem?_drop] at h4
  simpa using h4
 rw [World.var?_cell hg0 hv0 i, h3]
 cases hd : dbTab[i]? with
 | none => rw [hd] at h2; cases h2
 | some k =>
  rw [hd] at h2
  simp only [Option.map_some, Option.some.injEq, DataW.lit.injEq, Lit.int.injEq, true_and] at h2
  rw [List.getD_eq_getElem?_getD, hd, ← h2]; rfl
theorem own : ownKnob Tryz.prog.godebug = none := by kernel_rfl
theorem laidOut : laidOutB Tryz.prog = true := by kernel_rfl
theorem door_met (os : Os) (args : Array Value) : laidMetH Tryz.prog laidDb ((World.doorLaid Tryz.prog 14 os).forCall (fun _ _ => 0) ⟨#[], args, []⟩).memory :=
 laidMetH_of_parts3 (fuel := 8) (laidMet_of_run' 8 (by kernel_rfl) (by kernel_rfl)) (by kernel_rfl) (by kernel_rfl)
end
section
open Go.ChangeShapes Go.WideShapes Go.ChangeAt
section
variable {H : Type} {enc : TypeId × Value → H} {W : World} {base : Nat} {v : Value} {d : DataW H} {p : List MemPlace}
theorem keys_open (hv : Value.okWide Tryz.prog W .any base 25 v) (h : DataW.Trod enc Tryz.prog W 0 (fun _ => true) true 25 v d p) : ∃ ks : List Nat, KeysR W noH v ks := by
 obtain ⟨ao, n, cap, ks, rfl, hn, _, rfl, hk, hr⟩ := u64s_open hv h
 have hlen : (encK ks).length = ks.length * 1 := flat_len (n := 1) (fun _ => rfl) ks
 refine ⟨ks, ⟨ao, cap, rfl, hn⟩, hk, hlen, ?_⟩
 rcases hr with h0 | ⟨b, o, rfl, hc⟩
 ·exact .inl ⟨h0, ao, cap, by rw [h0]⟩
 ·refine .inr ⟨b, o, cap, rfl, fun H' w _ hM j u hj => hM.old ?_⟩
  have hjl : j < ks.length := by
   have := (List.getElem?_eq_some_iff.1 hj).1
   rw [hlen, Nat.mul_one] at this; exact this
  obtain ⟨k, hkj⟩ : ∃ k, ks[j]? = some k := ⟨_, List.getElem?_eq_getElem hjl⟩
  have e1 := flat_get (f := fun k : Nat => [u64 k]) (n := 1) (fun _ => rfl) hkj (show 0 < 1 by decide)
  rw [Nat.mul_one, Nat.add_zero] at e1
  unfold encK at hj
  rw [e1] at hj
  cases hj
  exact hc j k hkj
theorem ints_open (hv : Value.okWide Tryz.prog W .any base 47 v) (h : DataW.Trod enc Tryz.prog W 0 (fun _ => true) true 47 v d p) : ∃ zs : List Int, IntsR W noH v zs := by
 obtain ⟨ao, n, cap, rfl⟩ := okWide_slice Tryz.underlying47 hv
 obtain ⟨fuel, hf⟩ := h
 rcases open_ints Tryz.underlying47 Tryz.underlying3 (by kernel_rfl) hf with ⟨hcs, _⟩ | ⟨x, l, c, zs, hcs, _, hl, hm, hz, _, hcell, hwz⟩
 ·simp [Value.cells] at hcs
  obtain ⟨rfl, rfl, rfl⟩ := hcs
  exact ⟨[], ⟨_, _, rfl, Nat.le_refl _⟩, fun k hk => (by cases hk), rfl, .inl ⟨rfl, _, _, rfl⟩⟩
 ·simp [Value.cells] at hcs
  obtain ⟨rfl, rfl, rfl⟩ := hcs
  have hz' : zs.length = cap := by simpa using hz
  have hl2 : (zs.take n).length = n := by rw [List.length_take]; omega
  refine ⟨zs.take n, ⟨_, cap, by rw [hl2], by omega⟩, fun z hz1 => wf_i64_of (hwz z (List.mem_of_mem_take hz1)), flat_len (n := 1) (fun _ => rfl) _, ?_⟩
  rw [hl2]
  by_cases hn : n = 0
  ·exact .inl ⟨hn, _, cap, by rw [hn]⟩
  ·obtain ⟨b, o, rfl, hc⟩ := row_at (W := W) hcell (by omega)
   refine .inr ⟨b, o, cap, rfl, fun H' w _ hM j u hj => hM.old ?_⟩
   have hjl : j < n := by
    have := (List.getElem?_eq_some_iff.1 hj).1
    rw [flat_len (n := 1) (fun _ => rfl), hl2, Nat.mul_one] at this; exact this
   have hji : j < zs.length := by omega
   have e0 : (zs.take n)[j]? = some zs[j] := by rw [List.getElem?_take_of_lt hjl]; exact List.getElem?_eq_getElem hji
   have e1 := flat_get (f := fun z : Int => [i64 z]) (n := 1) (fun _ => rfl) e0 (show 0 < 1 by decide)
   rw [Nat.mul_one, Nat.add_zero] at e1
   rw [e1] at hj
   cases hj
   rw [hc j hji, getD_at hji]
end
end
end Go.Proofs.YtddpfkcofmfmpaaGreatDoor
