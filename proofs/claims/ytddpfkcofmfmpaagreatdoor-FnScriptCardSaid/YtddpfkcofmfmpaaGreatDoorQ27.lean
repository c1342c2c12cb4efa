/-
  The reference's step: what it takes is taken. Conditions stand in the contract. The reference judges a whole script: what it takes is right. Conditions stand in each contract.
  Conditions stand in each lemma.
-/
import Derived.Test.YtddpfkcofmfmpaaGreatDoorQ26
namespace Go.Proofs.YtddpfkcofmfmpaaGreatDoor
open Go Go.RowKit
set_option maxRecDepth 20000
section
variable {w0 w : World} {H : Heap} {H0 : Heap} {bM : Nat} {fl : Bool} {al : Value} {ix : Nat → ItM} {M : Mdl} {K : KT}
/-- A heap without a row's block. -/
def Heap.less (G : Heap) (v : Value) : Heap := fun x => if v.ownBlock = some x then none else G x
theorem Heap.less_le (G : Heap) (v : Value) : (G.less v).le G := fun x u h => by
 unfold Heap.less at h; split at h
 ·cases h
 ·exact h
theorem Heap.less_at {G : Heap} {v : Value} {x : Nat} {u : Obj} (h : G x = some u) (hn : v.ownBlock ≠ some x) : (G.less v) x = some u := by unfold Heap.less; rw [if_neg hn]; exact h
theorem Heap.less_app {G S : Heap} {v : Value} (h : ∀ x o, G x = some o → v.ownBlock ≠ some x → S x = some o) : (G.less v).le S := fun x u hx => by
 unfold Heap.less at hx; split at hx
 ·cases hx
 ·rename_i hn; exact h x u hx hn
theorem oneC_ent (a : Ent) : ∀ x ∈ entE a, x.oneCell' = true := fun x hx => by
 simp only [entE, List.mem_cons, List.not_mem_nil, or_false] at hx
 rcases hx with rfl | rfl | rfl <;> rfl
theorem c51 (hM : Mem w0 w H) (hP : MdMem H0 H bM fl al ix M) (hle0 : H0.le H) (hK : ∀ a b, K.eqk a b = sameB fl a b) (hN : ∀ a, K.nan a = nanB fl a) (hn : M.all.length ≤ 6000) {s : Stp} (hi0 : 0 ≤ s.iter) (hi7 : s.iter ≤ 7) {a : Ans} {M' : Mdl} (hA : Acc K M s a M') :
  Calls Tryz.prog 51 [.pointer (some ⟨bM, 0, none⟩), .agg (stepC s).toArray, .agg (ansC a).toArray].toArray w (Gives w0 fun v S => v = .bool true ∧ H0.le S ∧ ∃ al' ix', MdMem H0 S bM fl al' ix' M') := by
 refine calls_start Tryz.func51 rfl Tryz.ntmps51 (Nat.le_of_ble_eq_true rfl) ?_
 refine rs hM ?_
 refine rw_boxN (v := .agg (stepC s).toArray) rfl rfl rfl (fun b4 G4 n4 l4 e4 k4 => ?_)
 refine rw_boxN (v := .agg (ansC a).toArray) rfl rfl rfl (fun b5 G5 n5 l5 e5 k5 => ?_)
 refine asg ?_
 refine rw_nil ?_; intro w hM
 refine rs hM ?_
 refine rw_build (bd44_) rfl rfl rfl ?_
 refine rw_allocN Tryz.zeroValue44 rfl rfl (fun b7 G7 n7 l7 e7 k7 => ?_)
 refine rw_store (v := .agg #[.bool _, .int .u64 _, .int .i64 _]) sz44 rfl rfl rfl rfl e7 rfl rfl rfl (by nofun) (fun S1 hS1 kS1 => ?_)
 refine rw_nil ?_; intro w hM
 have e7' : S1 b7 = some (.cells (ansC Ans.no).toArray 44 (0, 0)) := hS1.trans rfl
 have l1 : G5.le S1 := le_keep l7 n7 kS1
 have e5' : S1 b5 = some (.cells (ansC a).toArray 44 (0, 0)) := l1 _ _ e5
 have e4' : S1 b4 = some (.cells (stepC s).toArray 36 (0, 0)) := l1 _ _ (l5 _ _ e4)
 have hHS : H.le S1 := Heap.le_trans l4 (Heap.le_trans l5 l1)
 have hP1 := hP.mono hHS
 have hle1 := Heap.le_trans hle0 hHS
 have hb1 := hP1.blk
 have fin0 : ∀ {w : World} {S : Heap} {al' : Value} {ix' : Nat → ItM}, Mem w0 w S → H0.le S → MdMem H0 S bM fl al' ix' M' → Gives w0 (fun v S => v = .bool true ∧ H0.le S ∧ ∃ al' ix', MdMem H0 S bM fl al' ix' M') (.returned (.bool true)) w := fun hM h1 h2 => ⟨_, _, rfl, hM, rfl, h1, _, _, h2⟩
 clear hP hHS l4 l5 l1 e4 e5 k4 k5 k7 hle0 hb1
 have hb1 := hP1.blk
 refine wp_seq ?_
 refine rs hM ?_
 refine fa fr36_0 ?_
 refine lo (v := i64 s.kind) ld3 e4' ?_
 refine rw_nil ?_; intro w hM
 refine wp_block ?_
 have hput : ∀ (S : Heap) (al' : Value), MdMem H0 S bM fl al' ix M' → True := fun _ _ _ => trivial
 cases hA with
 | put h0 =>
  refine rs hM ?_
  refine rw_bin rfl rfl rfl rfl (b_true (b_eq _ _) (beq_iff_eq.2 h0)) ?_
  refine asg ?_
  refine rw_nil ?_; intro w hM
  refine wp_if (tmp_lt rfl) rfl (fun hc => ?_) (by nofun)
  refine wp_seq_mid (fun f w => ∃ S al', Know f [(5, .pointer (some ⟨b5, 0, none⟩)), (7, .pointer (some ⟨b7, 0, none⟩))] ∧ Mem w0 w S ∧ H0.le S ∧ MdMem H0 S bM fl al' ix { M with all := putE K M.all s.key s.elem } ∧ S b5 = some (.cells (ansC Ans.no).toArray 44 (0, 0)) ∧ S b7 = some (.cells (ansC Ans.no).toArray 44 (0, 0))) ?_ ?_
  ·cases hf : findE K M.all s.key with
   | some i =>
    have hput : putE K M.all s.key s.elem = setElem M.all i s.elem := by unfold putE; rw [hf]
    rw [hput]
    obtain ⟨x, hx, _⟩ := findE_some hf
    have hil : i < M.all.length := (List.getElem?_eq_some_iff.1 hx).1
    obtain ⟨g, cap, cur, rfl, hg, hcap, hcs⟩ := hP1.all.some_of (by omega)
    have hfi : findI K M.all s.key = (i : Nat) := by unfold findI; rw [hf]
    refine rs hM ?_
    refine mv ?_
    refine fa fr36_2 ?_
    refine lo (v := u64 s.key) ld22 e4' ?_
    refine rw_callq (v := i64 (i : Nat)) cr69 rfl rfl (fun H' w hle hM => by rw [← hfi]; exact c69 hM (hP1.mono hle) hK hn) rfl ?_
    refine asg ?_
    refine rw_nil ?_; intro w hM
    refine rs hM ?_
    refine mv ?_
    refine rw_bin rfl rfl rfl rfl (b_true (b_ge _ _) (decide_eq_true (by omega))) ?_
    refine rw_nil ?_; intro w hM
    refine wp_if (tmp_lt rfl) rfl (fun hc => ?_) (by nofun)
    refine wp_mix_end [9] [9] [0, 1, 2, 3, 4, 5, 6, 7, 8, 9] S1 mixed (by kernel_rfl) (Heap.le_refl _) hM ?_
    refine mv ?_
    refine nck ?_
    refine fa fr118_1 ?_
    refine lo (v := .slice (some ⟨g, 0, none⟩) M.all.length cap) ld112 hb1 ?_
    refine mv ?_
    refine fa fr36_3 ?_
    refine lo (v := i64 s.elem) ld2 e4' ?_
    refine rw_indexAddr rfl rfl rfl rfl (x_slice Tryz.underlying112 sz121 hil) ?_
    refine fa fr121_1 ?_
    refine rw_storeE (v := i64 s.elem) (c' := cur.setIfInBounds (i * 3 + 1) (i64 s.elem)) sz2 rfl rfl rfl rfl hg (by rw [Nat.zero_add]) (by rw [Nat.zero_add, hcs]; omega) rfl (fun _ => ⟨rfl, rfl⟩) (fun S9 hS9 kS9 => ?_)
    refine rw_nil ?_; intro w hM
    exact ⟨_, rfl, S9, _, Know.of ⟨rfl, rfl, trivial⟩, hM, fun z u hz => (kS9 _ fun e => by rw [e, hP1.aold g rfl] at hz; cases hz).trans (hle1 _ _ hz), hP1.setE hg (enc_setElem hx s.elem) (by simp [setElem]) hS9 kS9, (kS9 _ fun e => by rw [e, hg] at e5'; cases e5').trans e5', (kS9 _ fun e => by rw [e, hg] at e7'; cases e7').trans e7'⟩
   | none =>
    have hput : putE K M.all s.key s.elem = M.all ++ [⟨s.key, s.elem, false⟩] := by unfold putE; rw [hf]
    rw [hput]
    have hfi : findI K M.all s.key = -1 := by unfold findI; rw [hf]
    refine rs hM ?_
    refine mv ?_
    refine fa fr36_2 ?_
    refine lo (v := u64 s.key) ld22 e4' ?_
    refine rw_callq (v := i64 (-1)) cr69 rfl rfl (fun H' w hle hM => by rw [← hfi]; exact c69 hM (hP1.mono hle) hK hn) rfl ?_
    refine asg ?_
    refine rw_nil ?_; intro w hM
    refine rs hM ?_
    refine mv ?_
    refine rw_bin rfl rfl rfl rfl (b_false (b_ge _ _) (by decide)) ?_
    refine rw_nil ?_; intro w hM
    refine wp_if (tmp_lt rfl) rfl (by nofun) (fun hc => ?_)
    have nal : ∀ {x : Nat} {u : Obj}, S1 x = some u → objTy u ≠ 121 → al.ownBlock ≠ some x := fun {x u} hx hne ho => by obtain ⟨cur, hc⟩ := hP1.all.blk ho; rw [hc] at hx; cases hx; exact hne rfl
    have hq4 := Heap.less_at e4' (nal e4' (by show (36 : Nat) ≠ 121; decide))
    have hqM := Heap.less_at hb1 (nal hb1 (by show (118 : Nat) ≠ 121; decide))
    refine wp_mix_end [10, 11, 14] [14] [0, 1, 2, 3, 4, 5, 6, 7, 8, 9, 10, 11, 12, 13, 14] (S1.less al) mixed (by kernel_rfl) (Heap.less_le _ _) hM ?_
    refine mv ?_
    refine mv ?_
    refine nck ?_
    refine fa fr118_1 ?_
    refine lo (v := al) ld112 hqM ?_
    refine fa fr36_2 ?_
    refine lo (v := u64 s.key) ld22 hq4 ?_
    refine fa fr36_3 ?_
    refine lo (v := i64 s.elem) ld2 hq4 ?_
    refine rw_build (bd121_0_1 _ _) rfl rfl rfl ?_
    refine rw_buildSlD (bs112 _ _ _) rfl rfl rfl rfl (Heap.less_le _ _) (fun bs G10 ns ls es ks => ?_)
    refine rw_appendD (v := al) ap112 rfl rfl rfl rfl (hP1.all.mono ls) (u := .slice (some ⟨bs, 0, none⟩) 1 1) (m := 1) (news := entE ⟨s.key, s.elem, false⟩) ⟨rfl, .inr ⟨bs, 0, 1, rfl, fun H' w hle hM j u hj => hM.cell (hle _ _ es) (by rw [Nat.zero_add]; show ((entE ⟨s.key, s.elem, false⟩).toArray)[j]? = some u; rw [List.getElem?_toArray]; exact hj)⟩⟩ (oneC_ent _) (by omega) rfl (fun al' S11 so ko oo => ⟨Heap.less_app fun x o hx hne => ko x o (ls _ _ hx) hne, ?_⟩)
    refine nck ?_
    refine fa fr118_1 ?_
    refine rw_storeE (v := al') (c' := mdC fl al' ix) sz112 rfl rfl rfl rfl (ko _ _ (ls _ _ hb1) (nal hb1 (by show (118 : Nat) ≠ 121; decide))) rfl (by show 0 + 1 < 26; decide) (by obtain ⟨ao, cp, e⟩ := so.shape; rw [e]; rfl) (fun _ => ⟨rfl, rfl⟩) (fun S14 hS14 kS14 => ?_)
    refine rw_nil ?_; intro w hM
    obtain ⟨hP14, hle14⟩ := hP1.append hle1 so (fun x o hx hne => ko x o (ls _ _ hx) hne) (oo.imp (fun h => h) fun ⟨b, h1, h2⟩ => ⟨b, h1, le_none ls h2⟩) hS14 kS14
    exact ⟨_, rfl, S14, _, Know.of ⟨rfl, rfl, trivial⟩, hM, hle14, hP14, (kS14 _ fun e => by rw [e, hb1] at e5'; cases e5').trans (ko _ _ (ls _ _ e5') (nal e5' (by show (44 : Nat) ≠ 121; decide))), (kS14 _ fun e => by rw [e, hb1] at e7'; cases e7').trans (ko _ _ (ls _ _ e7') (nal e7' (by show (44 : Nat) ≠ 121; decide)))⟩
  ·clear hM
   rintro f w ⟨S, al', ⟨f1, rfl⟩, hM, hleS, hPS, h5, h7⟩
   refine rs hM ?_
   refine rw_loadA (ansC Ans.no) ld44 rfl rfl rfl h5 rfl ?_
   refine rw_loadA (ansC Ans.no) ld44 rfl rfl rfl h7 rfl ?_
   refine rw_bin rfl rfl rfl rfl (eq44_same Ans.no) ?_
   refine asg ?_
   refine rw_nil ?_; intro w hM
   refine wp_ret ?_
   simp only [Exit.inBlock, Exit.then]
   exact post_tmp (v := .bool true) rfl rfl rfl (fin0 hM hleS hPS)
 | get h1 =>
  refine rs hM ?_
  refine rw_bin rfl rfl rfl rfl (b_false (b_eq _ _) (beq_false_of_ne (by omega))) ?_
  refine asg ?_
  refine rw_nil ?_; intro w hM
  refine wp_if (tmp_lt rfl) rfl (by nofun) (fun hc => ?_)
  refine rs hM ?_
  refine rw_bin rfl rfl rfl rfl (b_true (b_eq _ _) (beq_iff_eq.2 h1)) ?_
  refine asg ?_
  refine rw_nil ?_; intro w hM
  refine wp_if (tmp_lt rfl) rfl (fun hc => ?_) (by nofun)
  refine wp_seq ?_
  cases hf : findE K M.all s.key with
  | some i =>
   obtain ⟨x, hx, _⟩ := findE_some hf
   have hil : i < M.all.length := (List.getElem?_eq_some_iff.1 hx).1
   have hget : getE K M.all s.key = ⟨true, 0, x.elem⟩ := by unfold getE; rw [hf]; show Ans.mk true 0 ((M.all[i]?.map (·.elem)).getD 0) = _; rw [hx]; rfl
   rw [hget] at e5'
   obtain ⟨b, o, cap, rfl, hr⟩ := (hP1.all.rd (w0 := w0)).some (by omega)
   have hent := rd_step entE_len hr hx (Heap.le_refl _)
   have hfi : findI K M.all s.key = (i : Nat) := by unfold findI; rw [hf]
   refine rs hM ?_
   refine mv ?_
   refine fa fr36_2 ?_
   refine lo (v := u64 s.key) ld22 e4' ?_
   refine rw_callq (v := i64 (i : Nat)) cr69 rfl rfl (fun H' w hle hM => by rw [← hfi]; exact c69 hM (hP1.mono hle) hK hn) rfl ?_
   refine asg ?_
   refine rw_nil ?_; intro w hM
   refine rs hM ?_
   refine mv ?_
   refine rw_bin rfl rfl rfl rfl (b_true (b_ge _ _) (decide_eq_true (by omega))) ?_
   refine rw_nil ?_; intro w hM
   refine wp_if (tmp_lt rfl) rfl (fun hc => ?_) (by nofun)
   refine wp_mix_seq [] [] [0, 1, 2, 3, 4, 5, 6, 7, 8, 9, 10, 11] S1 mixed (by kernel_rfl) (Heap.le_refl _) hM ?_
   refine rw_loadA (ansC ⟨true, 0, x.elem⟩) ld44 rfl rfl rfl e5' rfl ?_
   refine mv ?_
   refine nck ?_
   refine fa fr118_1 ?_
   refine lo (v := .slice (some ⟨b, o, none⟩) M.all.length cap) ld112 hb1 ?_
   refine mv ?_
   refine rw_indexAddr rfl rfl rfl rfl (x_slice Tryz.underlying112 sz121 hil) ?_
   refine fa fr121_1 ?_
   refine rw_loadG (v := i64 x.elem) ld2 rfl rfl rfl (fun H' w hle hM => hent H' w hle hM 1 _ rfl) ?_
   refine rw_build (bd44_0_2 _ _) rfl rfl rfl ?_
   refine rw_bin (v := .bool true) rfl rfl rfl rfl (eq44_same ⟨true, 0, x.elem⟩) ?_
   refine asg ?_
   refine rw_nil ?_; intro w hM
   refine wp_ret ?_
   simp only [Exit.inBlock, Exit.then]
   exact post_tmp (v := .bool true) rfl rfl rfl (fin0 hM hle1 hP1)
  | none =>
   have hget : getE K M.all s.key = Ans.no := by unfold getE; rw [hf]
   rw [hget] at e5'
   have hfi : findI K M.all s.key = -1 := by unfold findI; rw [hf]
   refine rs hM ?_
   refine mv ?_
   refine fa fr36_2 ?_
   refine lo (v := u64 s.key) ld22 e4' ?_
   refine rw_callq (v := i64 (-1)) cr69 rfl rfl (fun H' w hle hM => by rw [← hfi]; exact c69 hM (hP1.mono hle) hK hn) rfl ?_
   refine asg ?_
   refine rw_nil ?_; intro w hM
   refine rs hM ?_
   refine mv ?_
   refine rw_bin rfl rfl rfl rfl (b_false (b_ge _ _) (by decide)) ?_
   refine rw_nil ?_; intro w hM
   refine wp_if (tmp_lt rfl) rfl (by nofun) (fun hc => ?_)
   refine wp_skip ?_
   simp only [Exit.then]
   refine rs hM ?_
   refine rw_loadA (ansC Ans.no) ld44 rfl rfl rfl e5' rfl ?_
   refine rw_loadA (ansC Ans.no) ld44 rfl rfl rfl e7' rfl ?_
   refine rw_bin rfl rfl rfl rfl (eq44_same Ans.no) ?_
   refine asg ?_
   refine rw_nil ?_; intro w hM
   refine wp_ret ?_
   simp only [Exit.inBlock, Exit.then]
   exact post_tmp (v := .bool true) rfl rfl rfl (fin0 hM hle1 hP1)
 | del h2 =>
  refine rs hM ?_
  refine rw_bin rfl rfl rfl rfl (b_false (b_eq _ _) (beq_false_of_ne (by omega))) ?_
  refine asg ?_
  refine rw_nil ?_; intro w hM
  refine wp_if (tmp_lt rfl) rfl (by nofun) (fun hc => ?_)
  refine rs hM ?_
  refine rw_bin rfl rfl rfl rfl (b_false (b_eq _ _) (beq_false_of_ne (by omega))) ?_
  refine asg ?_
  refine rw_nil ?_; intro w hM
  refine wp_if (tmp_lt rfl) rfl (by nofun) (fun hc => ?_)
  refine rs hM ?_
  refine rw_bin rfl rfl rfl rfl (b_true (b_eq _ _) (beq_iff_eq.2 h2)) ?_
  refine asg ?_
  refine rw_nil ?_; intro w hM
  refine wp_if (tmp_lt rfl) rfl (fun hc => ?_) (by nofun)
  refine wp_seq_mid (fun f w => ∃ S, Know f [(5, .pointer (some ⟨b5, 0, none⟩)), (7, .pointer (some ⟨b7, 0, none⟩))] ∧ Mem w0 w S ∧ H0.le S ∧ MdMem H0 S bM fl al ix { M with all := delE K M.all s.key } ∧ S b5 = some (.cells (ansC Ans.no).toArray 44 (0, 0)) ∧ S b7 = some (.cells (ansC Ans.no).toArray 44 (0, 0))) ?_ ?_
  ·cases hf : findE K M.all s.key with
   | some i =>
    have hdel : delE K M.all s.key = goneAt M.all i := by unfold delE; rw [hf]
    rw [hdel]
    obtain ⟨x, hx, _⟩ := findE_some hf
    have hil : i < M.all.length := (List.getElem?_eq_some_iff.1 hx).1
    obtain ⟨g, cap, cur, rfl, hg, hcap, hcs⟩ := hP1.all.some_of (by omega)
    have hfi : findI K M.all s.key = (i : Nat) := by unfold findI; rw [hf]
    refine rs hM ?_
    refine mv ?_
    refine fa fr36_2 ?_
    refine lo (v := u64 s.key) ld22 e4' ?_
    refine rw_callq (v := i64 (i : Nat)) cr69 rfl rfl (fun H' w hle hM => by rw [← hfi]; exact c69 hM (hP1.mono hle) hK hn) rfl ?_
    refine asg ?_
    refine rw_nil ?_; intro w hM
    refine rs hM ?_
    refine mv ?_
    refine rw_bin rfl rfl rfl rfl (b_true (b_ge _ _) (decide_eq_true (by omega))) ?_
    refine rw_nil ?_; intro w hM
    refine wp_if (tmp_lt rfl) rfl (fun hc => ?_) (by nofun)
    refine re hM ?_
    refine mv ?_
    refine nck ?_
    refine fa fr118_1 ?_
    refine lo (v := .slice (some ⟨g, 0, none⟩) M.all.length cap) ld112 hb1 ?_
    refine mv ?_
    refine rw_indexAddr rfl rfl rfl rfl (x_slice Tryz.underlying112 sz121 hil) ?_
    refine fa fr121_2 ?_
    refine rw_storeE (v := .bool true) (c' := cur.setIfInBounds (i * 3 + 2) (.bool true)) sz4 rfl rfl rfl rfl hg (by rw [Nat.zero_add]) (by rw [Nat.zero_add, hcs]; omega) rfl (by nofun) (fun S9 hS9 kS9 => ?_)
    refine rw_nil ?_; intro w hM
    exact ⟨_, rfl, S9, Know.of ⟨rfl, rfl, trivial⟩, hM, fun z u hz => (kS9 _ fun e => by rw [e, hP1.aold g rfl] at hz; cases hz).trans (hle1 _ _ hz), hP1.setE hg (enc_goneAt hx) (by simp [goneAt]) hS9 kS9, (kS9 _ fun e => by rw [e, hg] at e5'; cases e5').trans e5', (kS9 _ fun e => by rw [e, hg] at e7'; cases e7').trans e7'⟩
   | none =>
    have hdel : delE K M.all s.key = M.all := by unfold delE; rw [hf]
    rw [hdel]
    have hfi : findI K M.all s.key = -1 := by unfold findI; rw [hf]
    refine rs hM ?_
    refine mv ?_
    refine fa fr36_2 ?_
    refine lo (v := u64 s.key) ld22 e4' ?_
    refine rw_callq (v := i64 (-1)) cr69 rfl rfl (fun H' w hle hM => by rw [← hfi]; exact c69 hM (hP1.mono hle) hK hn) rfl ?_
    refine asg ?_
    refine rw_nil ?_; intro w hM
    refine rs hM ?_
    refine mv ?_
    refine rw_bin rfl rfl rfl rfl (b_false (b_ge _ _) (by decide)) ?_
    refine rw_nil ?_; intro w hM
    refine wp_if (tmp_lt rfl) rfl (by nofun) (fun hc => ?_)
    refine wp_skip ?_
    exact ⟨_, rfl, S1, Know.of ⟨rfl, rfl, trivial⟩, hM, hle1, hP1, e5', e7'⟩
  ·clear hM
   rintro f w ⟨S, ⟨f1, rfl⟩, hM, hleS, hPS, h5, h7⟩
   refine rs hM ?_
   refine rw_loadA (ansC Ans.no) ld44 rfl rfl rfl h5 rfl ?_
   refine rw_loadA (ansC Ans.no) ld44 rfl rfl rfl h7 rfl ?_
   refine rw_bin rfl rfl rfl rfl (eq44_same Ans.no) ?_
   refine asg ?_
   refine rw_nil ?_; intro w hM
   refine wp_ret ?_
   simp only [Exit.inBlock, Exit.then]
   exact post_tmp (v := .bool true) rfl rfl rfl (fin0 hM hleS hPS)
 | clear h3 =>
  refine rs hM ?_
  refine rw_bin rfl rfl rfl rfl (b_false (b_eq _ _) (beq_false_of_ne (by omega))) ?_
  refine asg ?_
  refine rw_nil ?_; intro w hM
  refine wp_if (tmp_lt rfl) rfl (by nofun) (fun hc => ?_)
  refine rs hM ?_
  refine rw_bin rfl rfl rfl rfl (b_false (b_eq _ _) (beq_false_of_ne (by omega))) ?_
  refine asg ?_
  refine rw_nil ?_; intro w hM
  refine wp_if (tmp_lt rfl) rfl (by nofun) (fun hc => ?_)
  refine rs hM ?_
  refine rw_bin rfl rfl rfl rfl (b_false (b_eq _ _) (beq_false_of_ne (by omega))) ?_
  refine asg ?_
  refine rw_nil ?_; intro w hM
  refine wp_if (tmp_lt rfl) rfl (by nofun) (fun hc => ?_)
  refine rs hM ?_
  refine rw_bin rfl rfl rfl rfl (b_true (b_eq _ _) (beq_iff_eq.2 h3)) ?_
  refine asg ?_
  refine rw_nil ?_; intro w hM
  refine wp_if (tmp_lt rfl) rfl (fun hc => ?_) (by nofun)
  obtain ⟨ao, cap, hal⟩ := hP1.all.shape
  refine wp_seq ?_
  refine rs hM ?_
  refine mv ?_
  refine nck ?_
  refine fa fr118_1 ?_
  refine rw_load (v := .slice ao M.all.length cap) ld112 rfl rfl rfl hb1 (by rw [← hal]; rfl) ?_
  refine rw_len Tryz.underlying112 rfl rfl rfl ?_
  refine mv ?_
  refine rw_nil ?_; intro w hM
  refine wp_block ?_
  refine wp_loop_s (fun c f w => ∃ i S, c = M.all.length - i ∧ i ≤ M.all.length ∧ Know f [(0, .pointer (some ⟨bM, 0, none⟩)), (5, .pointer (some ⟨b5, 0, none⟩)), (7, .pointer (some ⟨b7, 0, none⟩)), (98, i64 (M.all.length : Nat)), (99, i64 (i : Nat))] ∧ Mem w0 w S ∧ H0.le S ∧ MdMem H0 S bM fl al ix { M with all := goneTo M.all i } ∧ S b5 = some (.cells (ansC Ans.no).toArray 44 (0, 0)) ∧ S b7 = some (.cells (ansC Ans.no).toArray 44 (0, 0))) (M.all.length - 0) ?_ ?_
  ·exact ⟨0, S1, rfl, Nat.zero_le _, Know.of ⟨rfl, rfl, rfl, rfl, rfl, trivial⟩, hM, hle1, hP1, e5', e7'⟩
  clear hM
  rintro c f w ⟨i, S, rfl, hi, ⟨f1, rfl⟩, hM, hleS, hPS, h5, h7⟩
  refine rs hM ?_
  refine rw_bin rfl rfl rfl rfl (b_lt _ _) ?_
  refine rw_nil ?_; intro w hM
  refine wp_seq ?_
  refine wp_if (tmp_lt rfl) rfl (fun hz => ?_) (fun hz => ?_)
  ·have hil : i < M.all.length := by have := of_decide_eq_true hz; omega
   have hlen : (goneTo M.all i).length = M.all.length := goneTo_len _ _
   obtain ⟨g, cap', cur, hsl, hg, hcap, hcs⟩ := hPS.all.some_of (show 0 < (goneTo M.all i).length by omega)
   have hsl' : al = .slice (some ⟨g, 0, none⟩) (goneTo M.all i).length cap' := hsl
   obtain ⟨x, hx⟩ : ∃ x, (goneTo M.all i)[i]? = some x := ⟨_, List.getElem?_eq_getElem (by omega)⟩
   have hcap' : (goneTo M.all i).length ≤ cap' := hcap
   subst hsl'
   refine wp_skip ?_
   refine wp_seq ?_
   refine wp_block ?_
   refine rs hM ?_
   refine mv ?_
   refine asg ?_
   refine rw_nil ?_; intro w hM
   refine re hM ?_
   refine mv ?_
   refine nck ?_
   refine fa fr118_1 ?_
   refine lo (v := .slice (some ⟨g, 0, none⟩) (goneTo M.all i).length cap') ld112 hPS.blk ?_
   refine mv ?_
   refine rw_indexAddr rfl rfl rfl rfl (x_slice Tryz.underlying112 sz121 (show i < (goneTo M.all i).length by omega)) ?_
   refine fa fr121_2 ?_
   refine rw_storeE (v := .bool true) (c' := cur.setIfInBounds (i * 3 + 2) (.bool true)) sz4 rfl rfl rfl rfl hg (by rw [Nat.zero_add]) (by rw [Nat.zero_add, hcs]; omega) rfl (by nofun) (fun S9 hS9 kS9 => ?_)
   refine rw_nil ?_; intro w hM
   simp only [Exit.then, Exit.inBlock]
   refine re hM ?_
   refine rw_bin (v := i64 ((i + 1 : Nat) : Int)) rfl rfl rfl rfl (bin_eq (b_addi (b := 1) (by omega) (by omega)) (congrArg i64 (by omega))) ?_
   refine mv ?_
   refine rw_nil ?_; intro w hM
   have hPn := MdMem.setE (M := { M with all := goneTo M.all i }) (all' := goneTo M.all (i + 1)) hPS hg (enc_goneAt hx) (by show (goneTo M.all (i + 1)).length = (goneTo M.all i).length; rw [goneTo_len, hlen]) hS9 kS9
   exact ⟨M.all.length - (i + 1), _, rfl, by omega, i + 1, S9, rfl, by omega, Know.of ⟨rfl, rfl, rfl, rfl, rfl, trivial⟩, hM, fun z u hz => (kS9 _ fun e => by rw [e, hPS.aold g rfl] at hz; cases hz).trans (hleS _ _ hz), hPn, (kS9 _ fun e => by rw [e, hg] at h5; cases h5).trans h5, (kS9 _ fun e => by rw [e, hg] at h7; cases h7).trans h7⟩
  ·refine wp_exit ?_
   simp only [Exit.then, Exit.inBlock, if_true]
   have hi' : i = M.all.length := by have := of_decide_eq_false hz; omega
   subst hi'
   rw [goneTo_all] at hPS
   refine rs hM ?_
   refine rw_loadA (ansC Ans.no) ld44 rfl rfl rfl h5 rfl ?_
   refine rw_loadA (ansC Ans.no) ld44 rfl rfl rfl h7 rfl ?_
   refine rw_bin rfl rfl rfl rfl (eq44_same Ans.no) ?_
   refine asg ?_
   refine rw_nil ?_; intro w hM
   refine wp_ret ?_
   simp only [Exit.inBlock, Exit.then]
   exact post_tmp (v := .bool true) rfl rfl rfl (fin0 hM hleS hPS)
 | len h4 =>
  refine rs hM ?_
  refine rw_bin rfl rfl rfl rfl (b_false (b_eq _ _) (beq_false_of_ne (by omega))) ?_
  refine asg ?_
  refine rw_nil ?_; intro w hM
  refine wp_if (tmp_lt rfl) rfl (by nofun) (fun hc => ?_)
  refine rs hM ?_
  refine rw_bin rfl rfl rfl rfl (b_false (b_eq _ _) (beq_false_of_ne (by omega))) ?_
  refine asg ?_
  refine rw_nil ?_; intro w hM
  refine wp_if (tmp_lt rfl) rfl (by nofun) (fun hc => ?_)
  refine rs hM ?_
  refine rw_bin rfl rfl rfl rfl (b_false (b_eq _ _) (beq_false_of_ne (by omega))) ?_
  refine asg ?_
  refine rw_nil ?_; intro w hM
  refine wp_if (tmp_lt rfl) rfl (by nofun) (fun hc => ?_)
  refine rs hM ?_
  refine rw_bin rfl rfl rfl rfl (b_false (b_eq _ _) (beq_false_of_ne (by omega))) ?_
  refine asg ?_
  refine rw_nil ?_; intro w hM
  refine wp_if (tmp_lt rfl) rfl (by nofun) (fun hc => ?_)
  refine rs hM ?_
  refine rw_bin rfl rfl rfl rfl (b_true (b_eq _ _) (beq_iff_eq.2 h4)) ?_
  refine asg ?_
  refine rw_nil ?_; intro w hM
  refine wp_if (tmp_lt rfl) rfl (fun hc => ?_) (by nofun)
  refine wp_mix_seq [] [] [0, 1, 2, 3, 4, 5] S1 mixed (by kernel_rfl) (Heap.le_refl _) hM ?_
  refine rw_loadA (ansC ⟨false, 0, (lenE M.all : Nat)⟩) ld44 rfl rfl rfl e5' rfl ?_
  refine mv ?_
  refine rw_callq (v := i64 (lenE M.all : Nat)) cr70 rfl rfl (fun H' w hle hM => c70 hM (hP1.mono hle) hn) rfl ?_
  refine rw_build (bd44_2 _) rfl rfl rfl ?_
  refine rw_bin (v := .bool true) rfl rfl rfl rfl (eq44_same ⟨false, 0, (lenE M.all : Nat)⟩) ?_
  refine asg ?_
  refine rw_nil ?_; intro w hM
  refine wp_ret ?_
  simp only [Exit.inBlock, Exit.then]
  exact post_tmp (v := .bool true) rfl rfl rfl (fin0 hM hle1 hP1)
 | start h5 =>
  refine rs hM ?_
  refine rw_bin rfl rfl rfl rfl (b_false (b_eq _ _) (beq_false_of_ne (by omega))) ?_
  refine asg ?_
  refine rw_nil ?_; intro w hM
  refine wp_if (tmp_lt rfl) rfl (by nofun) (fun hc => ?_)
  refine rs hM ?_
  refine rw_bin rfl rfl rfl rfl (b_false (b_eq _ _) (beq_false_of_ne (by omega))) ?_
  refine asg ?_
  refine rw_nil ?_; intro w hM
  refine wp_if (tmp_lt rfl) rfl (by nofun) (fun hc => ?_)
  refine rs hM ?_
  refine rw_bin rfl rfl rfl rfl (b_false (b_eq _ _) (beq_false_of_ne (by omega))) ?_
  refine asg ?_
  refine rw_nil ?_; intro w hM
  refine wp_if (tmp_lt rfl) rfl (by nofun) (fun hc => ?_)
  refine rs hM ?_
  refine rw_bin rfl rfl rfl rfl (b_false (b_eq _ _) (beq_false_of_ne (by omega))) ?_
  refine asg ?_
  refine rw_nil ?_; intro w hM
  refine wp_if (tmp_lt rfl) rfl (by nofun) (fun hc => ?_)
  refine rs hM ?_
  refine rw_bin rfl rfl rfl rfl (b_false (b_eq _ _) (beq_false_of_ne (by omega))) ?_
  refine asg ?_
  refine rw_nil ?_; intro w hM
  refine wp_if (tmp_lt rfl) rfl (by nofun) (fun hc => ?_)
  refine rs hM ?_
  refine rw_bin rfl rfl rfl rfl (b_true (b_eq _ _) (beq_iff_eq.2 h5)) ?_
  refine asg ?_
  refine rw_nil ?_; intro w hM
  refine wp_if (tmp_lt rfl) rfl (fun hc => ?_) (by nofun)
  obtain ⟨ao, cap, hal⟩ := hP1.all.shape
  obtain ⟨q, hq⟩ : ∃ q : Nat, s.iter = (q : Nat) := ⟨s.iter.toNat, by omega⟩
  have hq8 : q < 8 := by omega
  have hqn : s.iter.toNat = q := by omega
  have hit : objCell (.cells (stepC s).toArray 36 (0, 0)) 1 = some (i64 (q : Nat)) := by rw [← hq]; rfl
  refine rs hM ?_
  refine rw_makeMapN rfl rfl (fun bs G29 ns ls es ks => ?_)
  refine rw_build (bd115_0_2 _ _) rfl rfl rfl ?_
  refine rw_allocN Tryz.zeroValue115 rfl rfl (fun b12 G12 n12 l12 e12 k12 => ?_)
  refine rw_store (v := .agg #[.bool _, .slice _ _ _, .map _]) sz115 rfl rfl rfl rfl e12 rfl rfl rfl (by nofun) (fun S29 hS29 kS29 => ?_)
  refine rw_nil ?_; intro w hM
  have hS12 : S29 b12 = some (.cells #[.bool true, .slice none 0 0, .map (some bs)] 115 (0, 0)) := hS29.trans rfl
  have l29 : G29.le S29 := le_keep l12 n12 kS29
  refine wp_seq ?_
  refine rs hM ?_
  refine mv ?_
  refine nck ?_
  refine fa fr118_1 ?_
  refine rw_load (v := .slice ao M.all.length cap) ld112 rfl rfl rfl (l29 _ _ (ls _ _ hb1)) (by rw [← hal]; rfl) ?_
  refine rw_len Tryz.underlying112 rfl rfl rfl ?_
  refine mv ?_
  refine rw_nil ?_; intro w hM
  have hra := hP1.all.rd (w0 := w0)
  refine wp_block ?_
  refine wp_loop_s (fun c f w => ∃ i S wv, c = M.all.length - i ∧ i ≤ M.all.length ∧ Know f [(0, .pointer (some ⟨bM, 0, none⟩)), (4, .pointer (some ⟨b4, 0, none⟩)), (5, .pointer (some ⟨b5, 0, none⟩)), (7, .pointer (some ⟨b7, 0, none⟩)), (12, .pointer (some ⟨b12, 0, none⟩)), (127, .slice ao M.all.length cap), (128, i64 (M.all.length : Nat)), (129, i64 (i : Nat))] ∧ Mem w0 w S ∧ S1.le S ∧ S b12 = some (.cells #[.bool true, wv, .map (some bs)] 115 (0, 0)) ∧ S bs = some (.map #[] 0) ∧ Sl S 3 1 wv (wasTo M.all i).length (encNs (wasTo M.all i)) ∧ ∀ y, wv.ownBlock = some y → S1 y = none) (M.all.length - 0) ?_ ?_
  ·exact ⟨0, S29, _, rfl, Nat.zero_le _, Know.of ⟨rfl, rfl, rfl, rfl, rfl, rfl, rfl, rfl, trivial⟩, hM, Heap.le_trans ls l29, hS12, l29 _ _ es, Sl.nil _ _ _, fun y hy => by cases hy⟩
  clear hM
  rintro c f w ⟨i, S, wv, rfl, hi, ⟨f1, rfl⟩, hM, hle, h12, hbs, hwv, hwo⟩
  refine rs hM ?_
  refine rw_bin rfl rfl rfl rfl (b_lt _ _) ?_
  refine rw_nil ?_; intro w hM
  refine wp_seq ?_
  refine wp_if (tmp_lt rfl) rfl (fun hz => ?_) (fun hz => ?_)
  ·have hil : i < M.all.length := by have := of_decide_eq_true hz; omega
   obtain ⟨x, hx⟩ : ∃ x, M.all[i]? = some x := ⟨_, List.getElem?_eq_getElem hil⟩
   obtain ⟨b, o, cap', hsl, hr⟩ := hra.some (by omega)
   rw [hal] at hsl
   cases hsl
   have hwl := wasTo_len M.all i
   refine wp_skip ?_
   refine wp_seq ?_
   refine wp_block ?_
   refine rs hM ?_
   refine mv ?_
   refine rw_indexAddr rfl rfl rfl rfl (x_slice Tryz.underlying112 sz121 hil) ?_
   refine rw_loadAG (entE x) ld121 rfl rfl rfl (rd_step entE_len hr hx hle) ?_
   refine rw_allocN Tryz.zeroValue121 rfl rfl (fun b14 G14 n14 l14 e14 k14 => ?_)
   refine asg ?_
   refine rw_store (v := .agg #[.int .u64 _, .int .i64 _, .bool _]) sz121 rfl rfl rfl rfl e14 rfl rfl rfl (by nofun) (fun S32 hS32 kS32 => ?_)
   refine rw_nil ?_; intro w hM
   have hS14 : S32 b14 = some (.cells (entE x).toArray 121 (0, 0)) := hS32.trans rfl
   have l32 : S.le S32 := le_keep l14 n14 kS32
   cases hg : x.gone with
   | true =>
    refine rs hM ?_
    refine fa fr121_2 ?_
    refine rw_load (v := .bool true) ld4 rfl rfl rfl hS14 (by rw [← hg]; rfl) ?_
    refine rw_un rfl rfl rfl (u_not _) ?_
    refine rw_nil ?_; intro w hM
    refine wp_if (tmp_lt rfl) rfl (by nofun) (fun hc => ?_)
    refine wp_skip ?_
    simp only [Exit.then, Exit.inBlock]
    refine re hM ?_
    refine rw_bin (v := i64 ((i + 1 : Nat) : Int)) rfl rfl rfl rfl (bin_eq (b_addi (b := 1) (by omega) (by omega)) (congrArg i64 (by omega))) ?_
    refine mv ?_
    refine rw_nil ?_; intro w hM
    have hw1 : wasTo M.all (i + 1) = wasTo M.all i := by rw [wasTo_succ, if_neg]; unfold liv; rw [hx]; simp [hg]
    exact ⟨M.all.length - (i + 1), _, rfl, by omega, i + 1, S32, wv, rfl, by omega, Know.of ⟨rfl, rfl, rfl, rfl, rfl, rfl, rfl, rfl, trivial⟩, hM, Heap.le_trans hle l32, l32 _ _ h12, l32 _ _ hbs, by rw [hw1]; exact hwv.mono l32, hwo⟩
   | false =>
    refine rs hM ?_
    refine fa fr121_2 ?_
    refine rw_load (v := .bool false) ld4 rfl rfl rfl hS14 (by rw [← hg]; rfl) ?_
    refine rw_un rfl rfl rfl (u_not _) ?_
    refine rw_nil ?_; intro w hM
    refine wp_if (tmp_lt rfl) rfl (fun hc => ?_) (by nofun)
    have hw1 : wasTo M.all (i + 1) = wasTo M.all i ++ [i] := by rw [wasTo_succ, if_pos]; unfold liv; rw [hx]; simp [hg]
    have h1S : S1.le S32 := Heap.le_trans hle l32
    have n12' : S1 b12 = none := le_none ls n12
    refine re hM ?_
    refine fa fr115_1 ?_
    refine lo (v := wv) ld47 (l32 _ _ h12) ?_
    refine mv ?_
    refine rw_buildSlN (bs47 _) rfl rfl rfl (fun b3 G3 n3 l3 e3 k3 => ?_)
    refine rw_appendN (v := wv) ap47 rfl rfl rfl rfl ((hwv.mono l32).mono l3) (u := .slice (some ⟨b3, 0, none⟩) 1 1) (m := 1) (news := [i64 (i : Nat)]) ⟨rfl, .inr ⟨b3, 0, 1, rfl, fun H' w hle hM j u hj => hM.cell (hle _ _ e3) (by rw [Nat.zero_add]; show ([i64 (i : Nat)].toArray)[j]? = some u; rw [List.getElem?_toArray]; exact hj)⟩⟩ (fun x hx => by rw [List.mem_singleton] at hx; subst hx; rfl) (by omega) (fun wv' S4 so ko oo => ?_); have h12' := ko _ _ (l3 _ _ (l32 _ _ h12)) (fun e => by obtain ⟨cur, hc⟩ := hwv.blk e; rw [h12] at hc; cases hc)
    refine fa fr115_1 ?_
    refine rw_storeE (v := wv') (c' := #[.bool true, wv', .map (some bs)]) sz47 rfl rfl rfl rfl h12' rfl (by show 0 + 1 < 3; decide) (by obtain ⟨ao, cp, e⟩ := so.shape; rw [e]; rfl) (by nofun) (fun S6 hS6 kS6 => ?_)
    refine rw_nil ?_; intro w hM
    simp only [Exit.then, Exit.inBlock]
    refine re hM ?_
    refine rw_bin (v := i64 ((i + 1 : Nat) : Int)) rfl rfl rfl rfl (bin_eq (b_addi (b := 1) (by omega) (by omega)) (congrArg i64 (by omega))) ?_
    refine mv ?_
    refine rw_nil ?_; intro w hM
    have hbs4 : S4 bs = some (.map #[] 0) := ko _ _ (l3 _ _ (l32 _ _ hbs)) fun e => by obtain ⟨cur, hc⟩ := hwv.blk e; rw [hbs] at hc; cases hc
    refine ⟨M.all.length - (i + 1), _, rfl, by omega, i + 1, S6, wv', rfl, by omega, Know.of ⟨rfl, rfl, rfl, rfl, rfl, rfl, rfl, rfl, trivial⟩, hM, fun y u hy => (kS6 _ fun e => by rw [e, n12'] at hy; cases hy).trans (ko _ _ (l3 _ _ (h1S _ _ hy)) fun e => by rw [hwo y e] at hy; cases hy), hS6, (kS6 _ fun e => by rw [e, h12'] at hbs4; cases hbs4).trans hbs4, ?_, fun y hy => ?_⟩
    ·rw [hw1, List.length_append, List.length_singleton, encNs_append]
     exact so.move fun y u hy ho => (kS6 _ fun e => by obtain ⟨cur, hc⟩ := so.blk ho; rw [e, h12'] at hc; cases hc).trans hy
    ·rcases oo with e | ⟨b', e, hb'⟩
     ·exact hwo y (e ▸ hy)
     ·rw [e] at hy; cases hy
      exact le_none h1S (le_none l3 hb')
  ·refine wp_exit ?_
   simp only [Exit.then, Exit.inBlock, if_true]
   have hi' : i = M.all.length := by have := of_decide_eq_false hz; omega
   subst hi'
   have hb := hle _ _ hb1
   have h4 := hle _ _ e4'
   obtain ⟨wo, wc, hwvs⟩ := hwv.shape
   refine wp_mix_seq [7] [7] [0, 1, 2, 3, 4, 5, 6, 7] S mixed (by kernel_rfl) (Heap.le_refl _) hM ?_
   refine mv ?_
   refine fa fr36_1 ?_
   refine rw_load (v := i64 (q : Nat)) ld3 rfl rfl rfl h4 hit ?_
   refine rw_loadA [.bool true, wv, .map (some bs)] ld115 rfl rfl rfl h12 rfl ?_
   refine nck ?_
   refine fa fr118_2 ?_
   refine rw_indexAddr rfl rfl rfl rfl (x_array Tryz.underlying116 sz115 hq8) ?_
   refine rw_store (v := .agg #[.bool true, wv, .map (some bs)]) sz115 rfl rfl rfl rfl hb rfl (by show Nat.ble (0 + 2 + q * 3 + 3) 26 = true; exact Nat.ble_eq_true_of_le (by omega)) (by rw [hwvs]; rfl) (fun _ => ⟨rfl, rfl⟩) (fun S7 hS7 kS7 => ?_)
   refine rw_nil ?_; intro w hM
   have hS7' : S7 bM = some (encMd fl al (setIx ix q ⟨true, wv, some bs⟩)) := hS7.trans (by show some (Obj.cells (setMany (mdC fl al ix) (0 + 2 + q * 3) [.bool true, wv, .map (some bs)]) 118 (0, 0)) = _; rw [Nat.zero_add]; exact congrArg (fun z => some (Obj.cells z 118 (0, 0))) (mdC_set hq8 ⟨true, wv, some bs⟩))
   obtain ⟨hP7, hle7⟩ := hP1.start (was := wasE M.all) hle1 hle hq8 hwv hwo (wasTo_len _ _) (fun j hj => wasTo_lt (i := M.all.length) hj) ns hbs hS7' kS7
   have h5 : S7 b5 = some (.cells (ansC Ans.no).toArray 44 (0, 0)) := (kS7 _ fun e => by rw [e, hb1] at e5'; cases e5').trans (hle _ _ e5')
   have h7 : S7 b7 = some (.cells (ansC Ans.no).toArray 44 (0, 0)) := (kS7 _ fun e => by rw [e, hb1] at e7'; cases e7').trans (hle _ _ e7')
   rw [← hqn] at hP7
   refine rs hM ?_
   refine rw_loadA (ansC Ans.no) ld44 rfl rfl rfl h5 rfl ?_
   refine rw_loadA (ansC Ans.no) ld44 rfl rfl rfl h7 rfl ?_
   refine rw_bin rfl rfl rfl rfl (eq44_same Ans.no) ?_
   refine asg ?_
   refine rw_nil ?_; intro w hM
   refine wp_ret ?_
   simp only [Exit.inBlock, Exit.then]
   exact post_tmp (v := .bool true) rfl rfl rfl (fin0 hM hle7 hP7)
 | @next _ t h6 hacc =>
  refine rs hM ?_
  refine rw_bin rfl rfl rfl rfl (b_false (b_eq _ _) (beq_false_of_ne (by omega))) ?_
  refine asg ?_
  refine rw_nil ?_; intro w hM
  refine wp_if (tmp_lt rfl) rfl (by nofun) (fun hc => ?_)
  refine rs hM ?_
  refine rw_bin rfl rfl rfl rfl (b_false (b_eq _ _) (beq_false_of_ne (by omega))) ?_
  refine asg ?_
  refine rw_nil ?_; intro w hM
  refine wp_if (tmp_lt rfl) rfl (by nofun) (fun hc => ?_)
  refine rs hM ?_
  refine rw_bin rfl rfl rfl rfl (b_false (b_eq _ _) (beq_false_of_ne (by omega))) ?_
  refine asg ?_
  refine rw_nil ?_; intro w hM
  refine wp_if (tmp_lt rfl) rfl (by nofun) (fun hc => ?_)
  refine rs hM ?_
  refine rw_bin rfl rfl rfl rfl (b_false (b_eq _ _) (beq_false_of_ne (by omega))) ?_
  refine asg ?_
  refine rw_nil ?_; intro w hM
  refine wp_if (tmp_lt rfl) rfl (by nofun) (fun hc => ?_)
  refine rs hM ?_
  refine rw_bin rfl rfl rfl rfl (b_false (b_eq _ _) (beq_false_of_ne (by omega))) ?_
  refine asg ?_
  refine rw_nil ?_; intro w hM
  refine wp_if (tmp_lt rfl) rfl (by nofun) (fun hc => ?_)
  refine rs hM ?_
  refine rw_bin rfl rfl rfl rfl (b_false (b_eq _ _) (beq_false_of_ne (by omega))) ?_
  refine asg ?_
  refine rw_nil ?_; intro w hM
  refine wp_if (tmp_lt rfl) rfl (by nofun) (fun hc => ?_)
  refine wp_skip ?_
  simp only [Exit.then, Exit.inBlock]
  obtain ⟨q, hq⟩ : ∃ q : Nat, s.iter = (q : Nat) := ⟨s.iter.toNat, by omega⟩
  have hq8 : q < 8 := by omega
  have hqn : s.iter.toNat = q := by omega
  have hit : objCell (.cells (stepC s).toArray 36 (0, 0)) 1 = some (i64 (q : Nat)) := by rw [← hq]; rfl
  rw [hqn] at hacc
  refine wp_mix_seq [8] [8] [0, 1, 2, 3, 4, 5, 6, 7, 8, 9] S1 mixed (by kernel_rfl) (Heap.le_refl _) hM ?_
  refine mv ?_
  refine mv ?_
  refine fa fr36_1 ?_
  refine rw_load (v := i64 (q : Nat)) ld3 rfl rfl rfl e4' hit ?_
  refine nck ?_
  refine fa fr118_2 ?_
  refine rw_indexAddr rfl rfl rfl rfl (x_array Tryz.underlying116 sz115 hq8) ?_
  refine rw_loadA (ansC a) ld44 rfl rfl rfl e5' rfl ?_
  refine rw_callE cr71 rfl rfl (fun w hM => c71 hM hP1 hle1 hK hN hn hq8 hacc) rfl (fun _ => ⟨rfl, rfl⟩) ?_; rintro _ S8 ⟨rfl, hle8, ix', hP8⟩
  refine asg ?_
  refine rw_nil ?_; intro w hM
  refine wp_ret ?_
  exact post_tmp (v := .bool true) rfl rfl rfl (fin0 hM hle8 (by rw [hqn]; exact hP8))
end
section
variable {w0 w : World} {H : Heap}
theorem Acc.grow {K : KT} {M M' : Mdl} {s : Stp} {a : Ans} (h : Acc K M s a M') : M'.all.length ≤ M.all.length + 1 := by
 cases h with
 | put _ => show (putE K M.all s.key s.elem).length ≤ _; unfold putE; split <;> simp [setElem]
 | get _ => exact Nat.le_succ _
 | del _ => show (delE K M.all s.key).length ≤ _; unfold delE; split <;> simp [goneAt]
 | clear _ => show (goneAll M.all).length ≤ _; simp [goneAll]
 | len _ => exact Nat.le_succ _
 | start _ => exact Nat.le_succ _
 | next _ _ => exact Nat.le_succ _
/-- The states of the reference, one a step. -/
theorem AccAll.states {K : KT} {M0 M : Mdl} {l : List Stp} {r : List Ans} (h : AccAll K M0 l r M) : ∃ Ms : Nat → Mdl, Ms 0 = M0 ∧ Ms l.length = M ∧ ∀ q s x, l[q]? = some s → r[q]? = some x → Acc K (Ms q) s x (Ms (q + 1)) := by
 induction h with
 | nil => exact ⟨fun _ => M0, rfl, rfl, fun q s x h => by simp at h⟩
 | @snoc M1 M2 l r s a hl hs ih =>
  obtain ⟨Ms, m1, m2, m3⟩ := ih
  have hrl := hl.len
  refine ⟨fun q => if q ≤ l.length then Ms q else M2, by simp [m1], by simp only [List.length_append, List.length_singleton]; rw [if_neg (by omega)], fun q s' x h1 h2 => ?_⟩
  by_cases hq : q < l.length
  ·rw [List.getElem?_append_left hq] at h1
   rw [List.getElem?_append_left (by omega)] at h2
   simp only [if_pos (Nat.le_of_lt hq), if_pos (show q + 1 ≤ l.length from hq)]
   exact m3 q s' x h1 h2
  ·have hq' : q = l.length := by
    have := (List.getElem?_eq_some_iff.1 h1).1
    simp only [List.length_append, List.length_singleton] at this; omega
   subst hq'
   rw [List.getElem?_concat_length] at h1
   rw [← hrl, List.getElem?_concat_length] at h2
   cases h1; cases h2
   simp only [if_pos (Nat.le_refl _), if_neg (show ¬ l.length + 1 ≤ l.length by omega)]
   rw [m2]; exact hs
theorem states_len {K : KT} {Ms : Nat → Mdl} {l : List Stp} {r : List Ans} (h0 : (Ms 0).all = []) (hr : r.length = l.length) (h : ∀ q s x, l[q]? = some s → r[q]? = some x → Acc K (Ms q) s x (Ms (q + 1))) : ∀ q, q ≤ l.length → (Ms q).all.length ≤ q
 | 0, _ => by rw [h0]; exact Nat.le_refl _
 | q + 1, hq => by
  have h1 := states_len h0 hr h q (by omega)
  have h2 := (h q _ _ (List.getElem?_eq_getElem (show q < l.length by omega)) (List.getElem?_eq_getElem (show q < r.length by omega))).grow
  omega
theorem c50 (hM : Mem w0 w H) (fl : Bool) : Calls Tryz.prog 50 [.bool fl].toArray w (Gives w0 fun v S => ∃ b, v = .pointer (some ⟨b, 0, none⟩) ∧ H b = none ∧ H.le S ∧ S b = some (encMd fl (.slice none 0 0) (fun _ => ⟨false, .slice none 0 0, none⟩))) := by
 refine calls_start Tryz.func50 rfl Tryz.ntmps50 (Nat.le_of_ble_eq_true rfl) ?_
 refine rs hM ?_
 refine asg ?_
 refine rw_nil ?_; intro w hM
 refine rs hM ?_
 refine mv ?_
 refine rw_build (bd118_0 _) rfl rfl rfl ?_
 refine rw_boxN (v := .agg (mdC fl (.slice none 0 0) (fun _ => ⟨false, .slice none 0 0, none⟩))) rfl rfl rfl (fun b5 G5 n5 l5 e5 k5 => ?_)
 refine asg ?_
 refine rw_nil ?_; intro w hM
 refine wp_ret ?_
 exact post_tmp (v := .pointer (some ⟨b5, 0, none⟩)) rfl rfl rfl ⟨_, _, rfl, hM, b5, rfl, n5, l5, e5⟩
theorem c34 (hM : Mem w0 w H) {t : TabV} {l : List Stp} {r : List Ans} {M : Mdl} (hacc : AccAll (ktOf t) ⟨[], offIt⟩ l r M) (hlen : l.length ≤ 6000) (hit : ∀ s ∈ l, 0 ≤ s.iter ∧ s.iter ≤ 7) {vs va : Value} (hs : Rd w0 H 4 vs l.length (encS l)) (ha : Rd w0 H 3 va l.length (encA r)) :
  Calls Tryz.prog 34 [.agg t.cells.toArray, vs, va].toArray w (Keeps w0 H (.bool true)) := by
 obtain ⟨so, sc, rfl⟩ := hs.shape
 obtain ⟨ao, ac, rfl⟩ := ha.shape
 have hrl := hacc.len
 obtain ⟨Ms, m1, _, m3⟩ := hacc.states
 have hml := states_len (K := ktOf t) (by rw [m1]) hrl m3
 refine calls_start Tryz.func34 rfl Tryz.ntmps34 (Nat.le_of_ble_eq_true rfl) ?_
 refine rs hM ?_
 refine rw_boxN (v := .agg t.cells.toArray) rfl rfl rfl (fun b3 G3 n3 l3 e3 k3 => ?_)
 refine asg ?_
 refine rw_nil ?_; intro w hM
 have e3' : G3 b3 = some (encTab t) := e3
 refine wp_seq ?_
 refine rs hM ?_
 refine mv ?_
 refine rw_len Tryz.underlying41 rfl rfl rfl ?_
 refine mv ?_
 refine rw_len Tryz.underlying30 rfl rfl rfl ?_
 refine rw_bin rfl rfl rfl rfl (b_false (b_ne _ _) (by simp)) ?_
 refine rw_nil ?_; intro w hM
 refine wp_if (tmp_lt rfl) rfl (by nofun) (fun hc => ?_)
 refine wp_skip ?_
 refine rs hM ?_
 refine fa fr27_0 ?_
 refine lo (v := .bool t.floats) ld4 e3' ?_
 refine rw_callE cr50 rfl rfl (fun w hM => c50 hM t.floats) rfl (by nofun) ?_; rintro _ S2 ⟨bM, rfl, nM, hle2, hbM⟩
 refine asg ?_
 refine rw_nil ?_; intro w hM
 have hP0 : MdMem G3 S2 bM t.floats (.slice none 0 0) (fun _ => ⟨false, .slice none 0 0, none⟩) (Ms 0) := by
  rw [m1]
  exact ⟨hbM, nM, Sl.nil _ _ _, fun y hy => (by cases hy), fun q hq => ⟨rfl, fun h => (by cases h)⟩, fun q p bs _ _ h => (by cases h)⟩
 refine wp_seq ?_
 refine rs hM ?_
 refine mv ?_
 refine rw_len Tryz.underlying30 rfl rfl rfl ?_
 refine mv ?_
 refine rw_nil ?_; intro w hM
 refine wp_block ?_
 refine wp_loop_s (fun c f w => ∃ q S al ix, c = l.length - q ∧ q ≤ l.length ∧ Know f [(2, .slice ao l.length ac), (7, .pointer (some ⟨bM, 0, none⟩)), (18, .slice so l.length sc), (19, i64 (l.length : Nat)), (20, i64 (q : Nat))] ∧ Mem w0 w S ∧ G3.le S ∧ MdMem G3 S bM t.floats al ix (Ms q)) (l.length - 0) ?_ ?_
 ·exact ⟨0, S2, _, _, rfl, Nat.zero_le _, Know.of ⟨rfl, rfl, rfl, rfl, rfl, trivial⟩, hM, hle2, hP0⟩
 clear hM
 rintro c f w ⟨q, S, al, ix, rfl, hq, ⟨f1, rfl⟩, hM, hle, hP⟩
 refine rs hM ?_
 refine rw_bin rfl rfl rfl rfl (b_lt _ _) ?_
 refine rw_nil ?_; intro w hM
 refine wp_seq ?_
 refine wp_if (tmp_lt rfl) rfl (fun hz => ?_) (fun hz => ?_)
 ·have hil : q < l.length := by have := of_decide_eq_true hz; omega
  obtain ⟨s, hsq⟩ : ∃ s, l[q]? = some s := ⟨_, List.getElem?_eq_getElem hil⟩
  obtain ⟨x, hxq⟩ : ∃ x, r[q]? = some x := ⟨_, List.getElem?_eq_getElem (by omega)⟩
  obtain ⟨b, o, cap, hsl, hrs⟩ := hs.some (by omega)
  cases hsl
  obtain ⟨b', o', cap', hsl', hra⟩ := ha.some (by omega)
  cases hsl'
  have hits := hit s (List.mem_of_getElem? hsq)
  have hmq := hml q (by omega)
  refine wp_skip ?_
  refine wp_seq ?_
  refine wp_block ?_
  refine rs hM ?_
  refine mv ?_
  refine rw_indexAddr rfl rfl rfl rfl (x_slice Tryz.underlying30 sz36 hil) ?_
  refine rw_loadAG (stepC s) ld36 rfl rfl rfl (rd_step stepC_len hrs hsq (Heap.le_trans l3 hle)) ?_
  refine rw_allocN Tryz.zeroValue36 rfl rfl (fun b9 G9 n9 l9 e9 k9 => ?_)
  refine asg ?_
  refine rw_store (v := .agg #[.int .i64 _, .int .i64 _, .int .u64 _, .int .i64 _]) sz36 rfl rfl rfl rfl e9 rfl rfl rfl (by nofun) (fun S6 hS6 kS6 => ?_)
  refine rw_nil ?_; intro w hM
  have hS9 : S6 b9 = some (.cells (stepC s).toArray 36 (0, 0)) := hS6.trans rfl
  have l6 : S.le S6 := le_keep l9 n9 kS6
  have hle6 := Heap.le_trans hle l6
  refine wp_mix_seq [6] [6] [0, 1, 2, 3, 4, 5, 6, 7] S6 mixed (by kernel_rfl) (Heap.le_refl _) hM ?_
  refine mv ?_
  refine rw_loadA (stepC s) ld36 rfl rfl rfl hS9 rfl ?_
  refine mv ?_
  refine mv ?_
  refine rw_indexAddr rfl rfl rfl rfl (x_slice Tryz.underlying41 sz44 hil) ?_
  refine rw_loadAG (ansC x) ld44 rfl rfl rfl (rd_step ansC_len hra hxq (Heap.le_trans l3 hle6)) ?_
  refine rw_callE cr51 rfl rfl (fun w hM => c51 hM (hP.mono l6) hle6 (same_of t) (nan_of t) (by omega) hits.1 hits.2 (m3 q s x hsq hxq)) rfl (fun _ => ⟨rfl, rfl⟩) ?_; rintro _ S7 ⟨rfl, hle7, al', ix', hP7⟩
  refine rw_un rfl rfl rfl (u_not _) ?_
  refine rw_nil ?_; intro w hM
  refine wp_if (tmp_lt rfl) rfl (by nofun) (fun hc => ?_)
  refine wp_skip ?_
  simp only [Exit.then, Exit.inBlock]
  refine re hM ?_
  refine rw_bin (v := i64 ((q + 1 : Nat) : Int)) rfl rfl rfl rfl (bin_eq (b_addi (b := 1) (by omega) (by omega)) (congrArg i64 (by omega))) ?_
  refine mv ?_
  refine rw_nil ?_; intro w hM
  exact ⟨l.length - (q + 1), _, rfl, by omega, q + 1, S7, al', ix', rfl, by omega, Know.of ⟨rfl, rfl, rfl, rfl, rfl, trivial⟩, hM, hle7, hP7⟩
 ·refine wp_exit ?_
  simp only [Exit.then, Exit.inBlock, if_true]
  refine rs hM ?_
  refine asg ?_
  refine rw_nil ?_; intro w hM
  refine wp_ret ?_
  exact post_tmp (v := .bool true) rfl rfl rfl (keep rfl (hM.mono (Heap.le_trans l3 hle)))
end
end Go.Proofs.YtddpfkcofmfmpaaGreatDoor
