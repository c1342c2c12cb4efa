/-
  New groups, new tables, the directory. Conditions stand in each contract. A table replaced; growth. Conditions stand in each contract. Plain theory: the entries of one table moved into another. Conditions stand in each lemma. A table grown to twice her size. Conditions stand in each contract. More operations: the length of a slice. Conditions stand in each lemma. Plain theory: the directory. Conditions stand in each lemma.
  Conditions stand in each lemma.
-/
import Derived.Test.YtddpfkcofmfmpaaGreatDoorQ07
namespace Go.Proofs.YtddpfkcofmfmpaaGreatDoor
open Go Go.RowKit
set_option maxRecDepth 20000
section
/-- A call that hands back a value and leaves a heap, of which Φ is known. -/
def Gives (w0 : World) (Φ : Value → Heap → Prop) : Ending → World → Prop := fun e w' => ∃ v S, e = .returned v ∧ Mem w0 w' S ∧ Φ v S
theorem Gives.mono {w0 : World} {Φ Ψ : Value → Heap → Prop} (h : ∀ v S, Φ v S → Ψ v S) {e : Ending} {w : World} (hg : Gives w0 Φ e w) : Gives w0 Ψ e w := by
 obtain ⟨v, S, a, b, c⟩ := hg; exact ⟨v, S, a, b, h v S c⟩
section
variable {P : Program} {ops : Array Oper} {sp br : List Nat} {d : Bool} {w0 : World} {K : Slots → World → Prop} {i : Nat} {rest : List Nat} {Hq H : Heap} {f : Slots}
variable {dst : Tmp} {ty : TypeId} {pos : String} {aft : Array Edge} {g : Option (Nat × Bool)}
theorem rw_callE {k : FuncId} {args : Array Operand} {ats : Array TypeId} {vs : List Value} {dt : Option Tmp} {Φ : Value → Heap → Prop} (hk : CallRun P k) (ho : ops[i]? = some ⟨dt, .call ⟨.value (.func k), args, ats⟩, ty, pos, aft, g⟩) (hw : wantedS ops f ⟨dt, .call ⟨.value (.func k), args, ats⟩, ty, pos, aft, g⟩ = true)
  (hc : ∀ w, Mem w0 w H → Calls P k vs.toArray w (Gives w0 Φ)) (ha : args.toList.map (ev f) = vs) (hd : d = true → sp.contains i = true ∧ br.contains i = true) (h : ∀ v S, Φ v S → RW P ops sp br d w0 K rest S S (f.setD dt v)) : RW P ops sp br d w0 K (i :: rest) Hq H f :=
 rw_call hk ho hw ha (fun e => (hd e).1) fun w hM => (hc w hM).mono fun e w' ⟨v, S, he, h1, h2⟩ => ⟨v, he, S, S, fun e hb => (by rw [(hd e).2] at hb; cases hb), Heap.le_refl _, h1, h v S h2⟩
theorem rw_callvE {k : FuncId} {x : Operand} {args : Array Operand} {ats : Array TypeId} {captured vs : List Value} {dt : Option Tmp} {Φ : Value → Heap → Prop} (hk : CallRun P k) (ho : ops[i]? = some ⟨dt, .call ⟨.value x, args, ats⟩, ty, pos, aft, g⟩) (hw : wantedS ops f ⟨dt, .call ⟨.value x, args, ats⟩, ty, pos, aft, g⟩ = true)
  (hx : ev f x = .func (.func k) #[] captured.toArray) (hc : ∀ w, Mem w0 w H → Calls P k (vs ++ captured).toArray w (Gives w0 Φ)) (ha : args.toList.map (ev f) = vs) (hd : d = true → sp.contains i = true ∧ br.contains i = true) (h : ∀ v S, Φ v S → RW P ops sp br d w0 K rest S S (f.setD dt v)) : RW P ops sp br d w0 K (i :: rest) Hq H f :=
 rw_callv hk ho hw hx ha (fun e => (hd e).1) fun w hM => (hc w hM).mono fun e w' ⟨v, S, he, h1, h2⟩ => ⟨v, he, S, S, fun e hb => (by rw [(hd e).2] at hb; cases hb), Heap.le_refl _, h1, h v S h2⟩
end

variable {w0 w : World} {H : Heap}
def zeroGr : Gr := ⟨fun _ => 0, fun _ => 0, fun _ => 0⟩
def emptyGr : Gr := ⟨fun _ => 128, fun _ => 0, fun _ => 0⟩
theorem emptyGr_ok : emptyGr.ok := ⟨fun _ => (by decide : 128 < 256), fun _ => (by decide : 0 < 2 ^ 64), fun _ => (show -9223372036854775808 ≤ (0 : Int) ∧ (0 : Int) < 9223372036854775808 by decide)⟩
def zeroCells : Array Value := #[u64 0, u64 0, u64 0, u64 0, u64 0, u64 0, u64 0, u64 0, u64 0, i64 0, i64 0, i64 0, i64 0, i64 0, i64 0, i64 0, i64 0]
theorem zeroCells_at : ∀ j, j < 17 → zeroCells[j]! = if j = 0 then u64 0 else if j < 9 then u64 0 else i64 0 := by
 intro j hj
 match j, hj with
 | 0, _ | 1, _ | 2, _ | 3, _ | 4, _ | 5, _ | 6, _ | 7, _ | 8, _ | 9, _ | 10, _ | 11, _ | 12, _ | 13, _ | 14, _ | 15, _ | 16, _ => rfl
 | j + 17, h => omega
theorem madeCells_zero (n : Nat) : madeCells zeroCells (n * 17) = arrG n zeroGr := by
 apply Array.ext
 ·simp [madeCells, arrG, Nat.mul_comm]
 ·intro j h1 h2
  simp only [madeCells, arrG, Array.getElem_map, Array.getElem_range, Array.getElem_ofFn]
  rw [show zeroCells.size = 17 from rfl, zeroCells_at _ (Nat.mod_lt _ (by decide))]
  rfl
theorem row154 : RowRun Tryz.prog 154 149 136 17 zeroCells := RowRun.of (i := Tryz.t149) (z := .agg zeroCells) Tryz.underlying154 (by kernel_rfl) (by kernel_rfl)
/-- New groups. -/
theorem c125 (hM : Mem w0 w H) {x : Option Addr} {n : Nat} (h0 : 0 < n) (hn : n ≤ 128) : Calls Tryz.prog 125 [.pointer x, u64 n].toArray w (Gives w0 fun v S => ∃ gb, v = .agg #[.slice (some ⟨gb, 0, none⟩) n n, u64 (n - 1)] ∧ H.le S ∧ H gb = none ∧ S gb = some (encG n zeroGr)) := by
 refine calls_start Tryz.func125 rfl Tryz.ntmps125 (Nat.le_of_ble_eq_true rfl) ?_
 refine rs hM ?_
 refine rw_allocN Tryz.zeroValue156 rfl rfl (fun b4 G4 n4 l4 e4 k4 => ?_)
 refine rw_nil ?_; intro w hM
 refine rs hM ?_
 refine mv ?_
 refine rw_conv rfl rfl rfl (c_i64 Tryz.underlying22 Tryz.underlying3 (by omega) (by omega)) ?_
 refine rw_makeN row154 rfl rfl rfl rfl (by omega) (by omega) (fun gb G7 n7 l7 e7 k7 => ?_)
 refine mv ?_
 refine rw_bin rfl rfl rfl rfl (b_sub64_le _ 1 (by omega) (by omega)) ?_
 refine rw_build (bd156_0_1 _ _ _ _) rfl rfl rfl ?_
 refine rw_store (v := .agg #[.slice _ _ _, .int .u64 _]) sz156 rfl rfl rfl rfl (l7 _ _ e4) rfl rfl rfl (by nofun) (fun S1 hS1 kS1 => ?_)
 refine rw_nil ?_; intro w hM
 refine wp_ret ?_
 have hne : gb ≠ b4 := fun e => by rw [e, e4] at n7; cases n7
 refine post_cell [.slice (some ⟨gb, 0, none⟩) n n, u64 (n - 1)] ld156 rfl rfl hM rfl hS1 rfl ?_
 refine ⟨_, S1, rfl, hM, gb, rfl, le_keep (Heap.le_trans l4 l7) n4 kS1, le_none l4 n7, ?_⟩
 rw [kS1 _ hne, e7, madeCells_zero]; rfl
theorem arrG_setW {n g : Nat} {G : Gr} (hg : g < n) : (arrG n G).setIfInBounds (17 * g) (u64 9259542123273814144) = arrG n { G with c := fun s => if s / 8 = g then 128 else G.c s } := by
 refine arrG_ext (by omega) ?_ fun t ht hne => ?_
 ·simp only [cellG, show 17 * g % 17 = 0 from by omega, show 17 * g / 17 = g from by omega, if_true]
  rw [msb_word]
  refine congrArg u64 (word_congr fun j hj => ?_)
  simp only [Gr.at]
  rw [if_pos (by omega)]
 ·simp only [cellG]
  by_cases h0 : t % 17 = 0
  ·rw [if_pos h0, if_pos h0]
   refine congrArg u64 (word_congr fun j hj => ?_)
   simp only [Gr.at]
   rw [if_neg (by omega)]
  ·rw [if_neg h0, if_neg h0]
theorem encG_congr {n : Nat} {G G' : Gr} (hc : ∀ s, s < 8 * n → G.c s = G'.c s) (hk : ∀ s, s < 8 * n → G.k s = G'.k s) (he : ∀ s, s < 8 * n → G.e s = G'.e s) : encG n G = encG n G' := by
 have : arrG n G = arrG n G' := by
  apply Array.ext
  ·simp [arrG_size]
  ·intro j h1 h2
   simp only [arrG, Array.getElem_ofFn, cellG]
   have hj : j < 17 * n := by simpa [arrG_size] using h1
   split
   ·exact congrArg u64 (word_congr fun q hq => hc _ (by omega))
   ·split
    ·rw [hk _ (by omega)]
    ·rw [he _ (by omega)]
 rw [encG, encG, this]
def encNewT (ld : Nat) (idx : Int) : Obj := .cells #[u16 0, u16 0, u16 0, u8 ld, i64 idx, .slice none 0 0, u64 0] 158 (0, 0)
def newTb (n ld : Nat) (idx : Int) (gb : Nat) : Tb := ⟨0, 8 * n, 7 * n, ld, idx, gb, n, emptyGr⟩
/-- A table made ready. -/
theorem c106 (hM : Mem w0 w H) {x : Option Addr} {b n ld : Nat} {idx : Int} (hb : H b = some (encNewT ld idx)) (h0 : 0 < n) (hn : n ≤ 128) : Calls Tryz.prog 106 [.pointer (some ⟨b, 0, none⟩), .pointer x, u16 (8 * n)].toArray w
  (Gives w0 fun v S => ∃ gb, v = .tuple #[] ∧ H gb = none ∧ S b = some (encT (newTb n ld idx gb)) ∧ S gb = some (encG n emptyGr) ∧ ∀ x u, H x = some u → x ≠ b → S x = some u) := by
 refine calls_start Tryz.func106 rfl Tryz.ntmps106 (Nat.le_of_ble_eq_true rfl) ?_
 refine rs hM ?_
 refine mv ?_
 refine rw_conv rfl rfl rfl (c_u64 Tryz.underlying152 Tryz.underlying22 _ (by omega)) ?_
 refine rw_bin rfl rfl rfl rfl (b_quo64 _ 8 (by decide) (by omega)) ?_
 refine rw_assign (v := u64 n) rfl rfl (congrArg u64 (show 8 * n / 8 = n by omega)) ?_
 refine rw_nil ?_; intro w hM
 refine rs hM ?_
 refine mv ?_
 refine mv ?_
 refine mv ?_
 refine rw_callE cr125 rfl rfl (fun w hM => c125 hM h0 hn) rfl (by nofun) ?_; rintro _ S1 ⟨gb, rfl, hle1, ngb, hgb⟩
 refine nck ?_
 refine fa fr158_5 ?_
 refine rw_store (v := .agg #[.slice _ _ _, .int .u64 _]) sz156 rfl rfl rfl rfl (hle1 _ _ hb) rfl rfl rfl (by nofun) (fun S1a hS1a kS1a => ?_)
 refine rw_nil ?_; intro w hM
 have hne : gb ≠ b := fun e => by rw [e, hb] at ngb; cases ngb
 refine rs hM ?_
 refine mv ?_
 refine mv ?_
 refine nck ?_
 refine fa fr158_1 ?_
 refine rw_store1 (v := .int .u16 _) sz152 rfl rfl rfl rfl hS1a rfl rfl (by nofun) (fun S2 hS2 kS2 => ?_)
 refine rw_nil ?_; intro w hM
 refine rs hM ?_
 refine mv ?_
 refine mv ?_
 refine rw_callq cr92 rfl rfl (fun H' w hle hM => c92 hM (hle _ _ hS2) rfl rfl h0 hn) rfl ?_
 refine nck ?_
 refine fa fr158_2 ?_
 refine rw_store1 (v := .int .u16 _) sz152 rfl rfl rfl rfl hS2 rfl rfl (by nofun) (fun S3 hS3 kS3 => ?_)
 refine rw_nil ?_; intro w hM
 refine rs hM ?_
 refine asg ?_
 refine rw_nil ?_; intro w hM
 refine wp_block ?_
 refine wp_loop_s (fun m f w => ∃ i S, m = n + 1 - i ∧ i ≤ n ∧ Know f [(0, .pointer (some ⟨b, 0, none⟩)), (1, .pointer x), (7, u64 i)] ∧ Mem w0 w S ∧ S b = some (encT (newTb n ld idx gb)) ∧ S gb = some (encG n ⟨fun s => if s / 8 < i then 128 else 0, fun _ => 0, fun _ => 0⟩) ∧ ∀ x u, H x = some u → x ≠ b → S x = some u) (n + 1 - 0) ?_ ?_
 ·refine ⟨0, S3, rfl, by omega, Know.of ⟨rfl, rfl, rfl, trivial⟩, hM, hS3, ?_, fun y u hy hyb => ?_⟩
  ·rw [kS3 _ hne, kS2 _ hne, kS1a _ hne]; exact hgb
  ·rw [kS3 _ hyb, kS2 _ hyb, kS1a _ hyb]; exact hle1 _ _ hy
 rintro m f w ⟨i, S, rfl, hi, ⟨g0, rfl⟩, hM, hbS, hgS, hrest⟩
 refine wp_seq ?_
 refine rs hM ?_
 refine mv ?_
 refine mv ?_
 refine nck ?_
 refine fa fr158_5 ?_
 refine fa fr156_1 ?_
 refine lo ld22 hbS ?_
 refine rw_bin rfl rfl rfl rfl (b_le _ _) ?_
 refine rw_nil ?_; intro w hM
 refine wp_if (tmp_lt rfl) rfl (fun hc => ?_) (fun hc => ?_)
 ·have hi' : i < n := by have : (i : Int) ≤ ((n - 1 : Nat) : Int) := of_decide_eq_true hc; omega
  refine wp_skip ?_
  refine wp_seq ?_
  refine wp_block ?_
  refine rs hM ?_
  refine mv ?_
  refine nck ?_
  refine fa fr158_5 ?_
  refine mv ?_
  refine mv ?_
  refine rw_callq cr93 rfl rfl (fun H' w hle' hM => c93 hM (hle' _ _ hbS) rfl hi') rfl ?_
  refine rw_allocN Tryz.zeroValue104 rfl rfl (fun b8 G8 n8 l8 e8 k8 => ?_)
  refine rw_store (v := .agg #[.pointer _]) sz104 rfl rfl rfl rfl e8 rfl rfl rfl (by nofun) (fun S7 hS7 kS7 => ?_)
  refine rw_nil ?_; intro w hM
  have hle7 := le_keep l8 n8 kS7
  have hb8 : b ≠ b8 := fun e => by rw [e, n8] at hbS; cases hbS
  have hg8 : gb ≠ b8 := fun e => by rw [e, n8] at hgS; cases hgS
  refine re hM ?_
  refine rw_callq cr90 rfl rfl (fun H' w hle hM => c90 hM (hle _ _ hS7) rfl) rfl ?_
  refine rw_callS cr91 rfl rfl (fun w hM => c91 hM (hle7 _ _ hgS) (by rw [arrG_size]; omega)) rfl (by nofun) (fun S8 hS8 kS8 => ?_)
  refine rw_nil ?_; intro w hM
  simp only [Exit.then, Exit.inBlock]
  refine re hM ?_
  refine mv ?_
  refine rw_bin rfl rfl rfl rfl (b_add64 _ 1) ?_
  refine asg ?_
  refine rw_nil ?_; intro w hM
  refine ⟨n + 1 - (i + 1), _, rfl, by omega, i + 1, S8, rfl, by omega, Know.of ⟨rfl, rfl, congrArg u64 (show (i + 1) % 2 ^ 64 = i + 1 by omega), trivial⟩, hM, ?_, ?_, fun y u hy hyb => ?_⟩
  ·rw [kS8 _ hne.symm]; exact hle7 _ _ hbS
  ·rw [hS8, arrG_setW hi']
   have : (fun s => if s / 8 = i then 128 else if s / 8 < i then 128 else 0) = fun s => if s / 8 < i + 1 then 128 else 0 := by
    funext s
    by_cases e : s / 8 = i
    ·rw [if_pos e, if_pos (by omega)]
    ·rw [if_neg e]
     by_cases e2 : s / 8 < i
     ·rw [if_pos e2, if_pos (by omega)]
     ·rw [if_neg e2, if_neg (by omega)]
   simp only [this]
   rfl
  ·have : y ≠ gb := fun e => by rw [e, ngb] at hy; cases hy
   rw [kS8 _ this]; exact hle7 _ _ (hrest y u hy hyb)
 ·have hi' : i = n := by have : ¬ (i : Int) ≤ ((n - 1 : Nat) : Int) := of_decide_eq_false hc; omega
  subst hi'
  refine wp_exit ?_
  simp only [Exit.then, Exit.inBlock, if_true]
  refine post_none rfl ⟨_, S, rfl, hM, gb, rfl, ngb, hbS, ?_, hrest⟩
  rw [hgS]
  refine congrArg some (encG_congr (fun s hs => ?_) (fun _ _ => rfl) (fun _ _ => rfl))
  show (if s / 8 < i then 128 else 0) = 128
  rw [if_pos (by omega)]
/-- A new table. -/
theorem c84 (hM : Mem w0 w H) {x : Option Addr} {c ld p : Nat} {idx : Int} (h8 : 8 ≤ c) (h1024 : c ≤ 1024) (hL : IsLen (c - 1) (p + 3)) (hp : p ≤ 7) : Calls Tryz.prog 84 [.pointer x, u64 c, i64 idx, u8 ld].toArray w
  (Gives w0 fun v S => ∃ b gb, v = .pointer (some ⟨b, 0, none⟩) ∧ H b = none ∧ H gb = none ∧ b ≠ gb ∧ S b = some (encT (newTb (2 ^ p) ld idx gb)) ∧ S gb = some (encG (2 ^ p) emptyGr) ∧ H.le S) := by
 have hp7 : 2 ^ p ≤ 2 ^ 7 := Nat.pow_le_pow_right (by omega) hp
 have hp0 : 1 ≤ 2 ^ p := Nat.one_le_two_pow
 have hp3 : 2 ^ (p + 3) = 8 * 2 ^ p := by rw [Nat.pow_add]; omega
 refine calls_start Tryz.func84 rfl Tryz.ntmps84 (Nat.le_of_ble_eq_true rfl) ?_
 refine rs hM ?_
 refine asg ?_
 refine rw_nil ?_; intro w hM
 refine wp_seq ?_
 refine rs hM ?_
 refine mv ?_
 refine rw_bin rfl rfl rfl rfl (b_false (b_lt _ _) (by simp; omega)) ?_
 refine rw_nil ?_; intro w hM
 refine wp_if (tmp_lt rfl) rfl (by nofun) (fun hc => ?_)
 refine wp_skip ?_
 refine rs hM ?_
 refine mv ?_
 refine mv ?_
 refine rw_build (bd158_4_3 _ _) rfl rfl rfl ?_
 refine rw_boxN (v := .agg #[.int .u16 _, .int .u16 _, .int .u16 _, .int .u8 _, .int .i64 _, .slice _ _ _, .int .u64 _]) rfl rfl rfl (fun b16 G16 n16 l16 e16 k16 => ?_)
 refine asg ?_
 refine rw_nil ?_; intro w hM
 refine wp_seq ?_
 refine rs hM ?_
 refine mv ?_
 refine rw_bin rfl rfl rfl rfl (b_false (b_gt _ _) (by simp; omega)) ?_
 refine rw_nil ?_; intro w hM
 refine wp_if (tmp_lt rfl) rfl (by nofun) (fun hc => ?_)
 refine wp_skip ?_
 refine rs hM ?_
 refine mv ?_
 refine rw_callq cr80 rfl rfl (fun H' w hle hM => c80 hM (by omega) (by omega) hL (by omega)) rfl ?_
 refine mv ?_
 refine rw_extract rfl rfl rfl rfl ?_
 refine rw_extract rfl rfl rfl rfl ?_
 refine asg ?_
 refine asg ?_
 refine rw_nil ?_; intro w hM
 refine wp_seq ?_
 refine rs hM ?_
 refine mv ?_
 refine rw_nil ?_; intro w hM
 refine wp_if (tmp_lt rfl) rfl (by nofun) (fun hc => ?_)
 refine wp_skip ?_
 refine rs hM ?_
 refine mv ?_
 refine mv ?_
 refine mv ?_
 refine rw_conv rfl rfl rfl (conv_eq (c_u16 Tryz.underlying22 Tryz.underlying152 _) (congrArg u16 (show 2 ^ (p + 3) % 65536 = 8 * 2 ^ p by omega))) ?_
 refine rw_callE cr106 rfl rfl (fun w hM => c106 hM e16 (by omega) (by omega)) rfl (by nofun) ?_; rintro _ S1 ⟨gb, rfl, ngb, hb1, hg1, hrest⟩
 refine rw_nil ?_; intro w hM
 refine rs hM ?_
 refine mv ?_
 refine asg ?_
 refine rw_nil ?_; intro w hM
 refine wp_ret ?_
 refine post_tmp (v := .pointer _) rfl rfl rfl ?_
 have hx : ∀ y u, H y = some u → y ≠ b16 := fun y u hy e => by rw [e, n16] at hy; cases hy
 exact ⟨_, S1, rfl, hM, b16, gb, rfl, n16, le_none l16 ngb, (fun e => by rw [← e, e16] at ngb; cases ngb), hb1, hg1, fun y u hy => hrest y u (l16 _ _ hy) (hx y u hy)⟩
theorem emptyGr_slots (K : KT) (n : Nat) : SlotsOK K n emptyGr := by
 have hc : ∀ s, emptyGr.c s = 128 := fun _ => rfl
 refine ⟨emptyGr_ok, fun s _ => .inr (.inl (hc s)), fun s _ h => ?_, fun s _ h _ => ?_, fun s t _ _ h _ _ => ?_, fun g q r _ _ _ _ h => ?_⟩ <;> rw [hc] at h <;> omega
theorem newTb_ok (K : KT) {p ld : Nat} {idx : Int} {gb : Nat} (hp : p ≤ 7) : TOK K (newTb (2 ^ p) ld idx gb) := by
 refine ⟨⟨p, hp, rfl⟩, rfl, emptyGr_slots K _, ?_, ?_⟩
 ·show 0 = cnt (isFull emptyGr) (8 * 2 ^ p)
  exact (cnt_zero (q := isFull emptyGr) (fun s _ => rfl)).symm
 ·show 7 * 2 ^ p + 0 + cnt (isDel emptyGr) (8 * 2 ^ p) = 7 * 2 ^ p
  rw [cnt_zero (q := isDel emptyGr) (fun s _ => rfl)]; omega
theorem newTb_none {p ld : Nat} {idx : Int} {gb : Nat} : ∀ s, (newTb (2 ^ p) ld idx gb).G.c s = 128 := fun _ => rfl

/-! ### The directory -/
def arrD (n : Nat) (d : Nat → Option Addr) : Array Value := Array.ofFn (n := n) fun i => .pointer (d i.1)
def encD (n : Nat) (d : Nat → Option Addr) : Obj := .cells (arrD n d) 101 (0, 0)
theorem arrD_size (n : Nat) (d : Nat → Option Addr) : (arrD n d).size = n := by simp [arrD]
theorem encD_cell {n i : Nat} {d : Nat → Option Addr} (h : i < n) : objCell (encD n d) (0 + i * 1) = some (.pointer (d i)) := by
 simp [objCell, encD, arrD, h]
theorem arrD_set {n i : Nat} {d : Nat → Option Addr} {a : Option Addr} (h : i < n) : (arrD n d).setIfInBounds (0 + i * 1) (.pointer a) = arrD n (fun j => if j = i then a else d j) := by
 apply Array.ext
 ·simp [arrD]
 ·intro j h1 h2
  simp only [arrD, Array.getElem_ofFn, Nat.zero_add, Nat.mul_one]
  by_cases e : j = i
  ·subst e; simp
  ·rw [if_neg e, Array.getElem_setIfInBounds_ne (by simpa [arrD] using h2) (fun h => e h.symm)]; simp
def dirIdx (gd h : Nat) : Nat := h / 2 ^ (64 - gd)
theorem dirIdx_lt {gd h : Nat} (hg : gd ≤ 64) (hh : h < 2 ^ 64) : dirIdx gd h < 2 ^ gd := by
 unfold dirIdx
 rw [Nat.div_lt_iff_lt_mul (Nat.two_pow_pos _), ← Nat.pow_add, show gd + (64 - gd) = 64 by omega]; exact hh
theorem c88 (hM : Mem w0 w H) {b h : Nat} {m : Mp} (hb : H b = some (encM m)) (h1 : m.dirLen = 2 ^ m.gd) (h2 : m.gs = 64 - m.gd) (h3 : m.gd < 60) (hh : h < 2 ^ 64) : Calls Tryz.prog 88 [.pointer (some ⟨b, 0, none⟩), u64 h].toArray w (Keeps w0 H (u64 (dirIdx m.gd h))) := by
 refine calls_start Tryz.func88 rfl Tryz.ntmps88 (Nat.le_of_ble_eq_true rfl) ?_
 refine rs hM ?_
 refine asg ?_
 refine rw_nil ?_; intro w hM
 refine wp_seq ?_
 refine rs hM ?_
 refine mv ?_
 refine nck ?_
 refine fa fr132_4 ?_
 refine lo ld3 hb ?_
 refine rw_bin rfl rfl rfl rfl (b_eq _ _) ?_
 refine rw_nil ?_; intro w hM
 refine wp_if (tmp_lt rfl) rfl (fun hc => ?_) (fun hc => ?_)
 ·refine rs hM ?_
  refine asg ?_
  refine rw_nil ?_; intro w hM
  refine wp_ret ?_
  refine post_tmp (v := .int .u64 _) rfl rfl rfl (keep (congrArg u64 ?_) hM)
  have hc' : m.dirLen = 1 := by have h9 : (m.dirLen : Int) = 1 := beq_iff_eq.1 hc; omega
  have h0 : m.gd = 0 := by
   rcases Nat.eq_zero_or_pos m.gd with h0 | h0
   ·exact h0
   ·have : 2 ^ 1 ≤ 2 ^ m.gd := Nat.pow_le_pow_right (by omega) h0
    omega
  unfold dirIdx
  rw [h0, Nat.sub_zero, Nat.div_eq_of_lt hh]
 ·have hg : 0 < m.gd := by
   rcases Nat.eq_zero_or_pos m.gd with h0 | h0
   ·rw [h1, h0] at hc; simp at hc
   ·exact h0
  refine wp_skip ?_
  refine rs hM ?_
  refine mv ?_
  refine mv ?_
  refine nck ?_
  refine fa fr132_6 ?_
  refine lo ld5 hb ?_
  refine rw_bin rfl rfl rfl rfl (b_and8 _ 63 (by omega) (by decide)) ?_
  refine rw_bin rfl rfl rfl rfl (b_shr64 _ _ (Nat.le_trans Nat.and_le_right (by decide))) ?_
  refine asg ?_
  refine rw_nil ?_; intro w hM
  refine wp_ret ?_
  refine post_tmp (v := .int .u64 _) rfl rfl rfl (keep (congrArg u64 ?_) hM)
  rw [show (63 : Nat) = 2 ^ 6 - 1 from rfl, Nat.and_two_pow_sub_one_eq_mod, h2, Nat.mod_eq_of_lt (by omega)]; rfl
theorem c77 (hM : Mem w0 w H) {b db i : Nat} {m : Mp} {d : Nat → Option Addr} (hb : H b = some (encM m)) (hp : m.dirp = some ⟨db, 0, none⟩) (hd : H db = some (encD m.dirLen d)) (hi : i < m.dirLen) : Calls Tryz.prog 77 [.pointer (some ⟨b, 0, none⟩), u64 i].toArray w (Keeps w0 H (.pointer (d i))) := by
 refine calls_start Tryz.func77 rfl Tryz.ntmps77 (Nat.le_of_ble_eq_true rfl) ?_
 refine rs hM ?_
 refine asg ?_
 refine rw_nil ?_; intro w hM
 refine rs hM ?_
 refine mv ?_
 refine nck ?_
 refine fa fr132_3 ?_
 refine rw_load (v := .slice (some ⟨db, 0, none⟩) m.dirLen m.dirLen) ld130 rfl rfl rfl hb (by rw [← hp]; rfl) ?_
 refine mv ?_
 refine rw_indexAddr rfl rfl rfl rfl (x_slice Tryz.underlying130 sz101 hi) ?_
 refine rw_load ld101 rfl rfl rfl hd (encD_cell hi) ?_
 refine asg ?_
 refine rw_nil ?_; intro w hM
 refine wp_ret ?_
 exact post_tmp rfl rfl rfl (keep rfl hM)
theorem c141 (hM : Mem w0 w H) {b db i : Nat} {m : Mp} {d : Nat → Option Addr} {a : Option Addr} (hb : H b = some (encM m)) (hp : m.dirp = some ⟨db, 0, none⟩) (hd : H db = some (encD m.dirLen d)) (hi : i < m.dirLen) : Calls Tryz.prog 141 [.pointer (some ⟨b, 0, none⟩), u64 i, .pointer a].toArray w (Sets w0 H db (encD m.dirLen (fun j => if j = i then a else d j)) (.tuple #[])) := by
 refine calls_start Tryz.func141 rfl Tryz.ntmps141 (Nat.le_of_ble_eq_true rfl) ?_
 refine re hM ?_
 refine mv ?_
 refine nck ?_
 refine fa fr132_3 ?_
 refine rw_load (v := .slice (some ⟨db, 0, none⟩) m.dirLen m.dirLen) ld130 rfl rfl rfl hb (by rw [← hp]; rfl) ?_
 refine mv ?_
 refine mv ?_
 refine rw_indexAddr rfl rfl rfl rfl (x_slice Tryz.underlying130 sz101 hi) ?_
 refine rw_storeE (v := .pointer a) sz101 rfl rfl rfl rfl hd (arrD_set hi) (by rw [arrD_size]; omega) rfl (by nofun) (fun S hS kS => ?_)
 refine rw_nil ?_; intro w hM
 exact post_none rfl ⟨rfl, S, hM, hS, kS⟩
end
section
variable {w0 w : World} {H : Heap}
def objTy : Obj → Nat
 | .cells _ t _ => t
 | _ => 0
theorem ne_of_ty {S : Heap} {a b k k' : Nat} {o o' : Obj} (h1 : S a = some o) (h2 : S b = some o') (e1 : objTy o = k) (e2 : objTy o' = k') (h : Nat.beq k k' = false) : a ≠ b := fun e => by
 subst e; rw [h1] at h2; cases h2
 rw [← e1, ← e2] at h; simp at h
/-- A directory with a run of entries replaced. -/
def dirSet (d : Nat → Option Addr) (i n : Nat) (a : Option Addr) : Nat → Option Addr := fun j => if i ≤ j ∧ j < i + n then a else d j
theorem c138 (hM : Mem w0 w H) {b db nb idx : Nat} {m : Mp} {t : Tb} {d : Nat → Option Addr} (hb : H b = some (encM m)) (hp : m.dirp = some ⟨db, 0, none⟩) (hd : H db = some (encD m.dirLen d)) (ht : H nb = some (encT t)) (hi : t.index = (idx : Nat)) (hl : t.ld ≤ m.gd) (hg : m.gd < 60) (hr : idx + 2 ^ (m.gd - t.ld) ≤ m.dirLen) (hlen : m.dirLen < 2 ^ 60) :
  Calls Tryz.prog 138 [.pointer (some ⟨b, 0, none⟩), .pointer (some ⟨nb, 0, none⟩)].toArray w (Sets w0 H db (encD m.dirLen (dirSet d idx (2 ^ (m.gd - t.ld)) (some ⟨nb, 0, none⟩))) (.tuple #[])) := by
 have hp1 : 2 ^ (m.gd - t.ld) < 2 ^ 60 := by omega
 have ebd : b ≠ db := ne_of_ty hb hd rfl rfl rfl
 have end' : nb ≠ db := ne_of_ty ht hd rfl rfl rfl
 have e1 : (1 : Int) * 2 ^ (m.gd - t.ld) = ((2 ^ (m.gd - t.ld) : Nat) : Int) := by simp
 generalize 2 ^ (m.gd - t.ld) = n at hr hp1 e1 ⊢
 refine calls_start Tryz.func138 rfl Tryz.ntmps138 (Nat.le_of_ble_eq_true rfl) ?_
 refine wp_mix_seq [] [] [0, 1, 2, 3, 4, 5, 6, 7, 8, 9, 10] H mixed (by kernel_rfl) (Heap.le_refl _) hM ?_
 refine mv ?_
 refine nck ?_
 refine fa fr132_5 ?_
 refine lo ld5 hb ?_
 refine mv ?_
 refine nck ?_
 refine fa fr158_3 ?_
 refine lo ld5 ht ?_
 refine rw_bin rfl rfl rfl rfl (b_sub8 _ _ hl (by omega)) ?_
 refine rw_bin (v := i64 (n : Int)) rfl rfl rfl rfl (bin_eq (b_shli (x := 1) _ (m.gd - t.ld) (by omega) (by rw [e1]; omega) (by rw [e1]; omega)) (by rw [e1])) ?_
 refine asg ?_
 refine rw_nil ?_; intro w hM
 refine rs hM ?_
 refine asg ?_
 refine rw_nil ?_; intro w hM
 refine wp_block ?_
 refine wp_loop_s (fun k f w => ∃ i S, k = n - i ∧ i ≤ n ∧ Know f [(0, .pointer (some ⟨b, 0, none⟩)), (1, .pointer (some ⟨nb, 0, none⟩)), (4, i64 (n : Int)), (5, i64 (i : Nat))] ∧ Mem w0 w S ∧ S db = some (encD m.dirLen (dirSet d idx i (some ⟨nb, 0, none⟩))) ∧ ∀ x, x ≠ db → S x = H x) (n - 0) ?_ ?_
 ·refine ⟨0, H, rfl, by omega, Know.of ⟨rfl, rfl, rfl, rfl, trivial⟩, hM, ?_, fun _ _ => rfl⟩
  rw [hd]
  have : dirSet d idx 0 (some ⟨nb, 0, none⟩) = d := by funext j; unfold dirSet; rw [if_neg (by omega)]
  rw [this]
 rintro k f w ⟨i, S, rfl, hi', ⟨g0, rfl⟩, hM, hS, hrest⟩
 have hbS := (hrest _ ebd).trans hb
 have htS := (hrest _ end').trans ht
 refine wp_seq ?_
 refine rs hM ?_
 refine mv ?_
 refine mv ?_
 refine rw_bin rfl rfl rfl rfl (b_lt _ _) ?_
 refine rw_nil ?_; intro w hM
 refine wp_if (tmp_lt rfl) rfl (fun hc => ?_) (fun hc => ?_)
 ·have hlt : i < n := by have := of_decide_eq_true hc; omega
  refine wp_skip ?_
  refine wp_seq ?_
  refine wp_block ?_
  refine re hM ?_
  refine mv ?_
  refine mv ?_
  refine nck ?_
  refine fa fr158_4 ?_
  refine rw_load (v := i64 (idx : Nat)) ld3 rfl rfl rfl htS (by rw [← hi]; rfl) ?_
  refine mv ?_
  refine rw_bin rfl rfl rfl rfl (b_addi (by omega) (by omega)) ?_
  refine rw_conv (v := u64 (idx + i)) rfl rfl rfl (conv_eq (c_u64 Tryz.underlying3 Tryz.underlying12 (idx + i) (by omega)) rfl) ?_
  refine mv ?_
  refine rw_callS cr141 rfl rfl (fun w hM => c141 hM hbS hp hS (by omega)) rfl (by nofun) (fun S4 hS4 kS4 => ?_)
  refine rw_nil ?_; intro w hM
  simp only [Exit.then, Exit.inBlock]
  refine re hM ?_
  refine mv ?_
  refine rw_bin rfl rfl rfl rfl (b_addi (by omega) (by omega)) ?_
  refine asg ?_
  refine rw_nil ?_; intro w hM
  refine ⟨n - (i + 1), _, rfl, by omega, i + 1, S4, rfl, by omega, Know.of ⟨rfl, rfl, rfl, rfl, trivial⟩, hM, ?_, fun x hx => (kS4 x hx).trans (hrest x hx)⟩
  rw [hS4]
  have : (fun j => if j = idx + i then some ⟨nb, 0, none⟩ else dirSet d idx i (some ⟨nb, 0, none⟩) j) = dirSet d idx (i + 1) (some (⟨nb, 0, none⟩ : Addr)) := by
   funext j; unfold dirSet
   by_cases h1 : j = idx + i
   ·rw [if_pos h1, if_pos (by omega)]
   ·rw [if_neg h1]
    by_cases h2 : idx ≤ j ∧ j < idx + i
    ·rw [if_pos h2, if_pos (by omega)]
    ·rw [if_neg h2, if_neg (by omega)]
  rw [this]
 ·have heq : i = n := by have := of_decide_eq_false hc; omega
  refine wp_exit ?_
  simp only [Exit.then, Exit.inBlock, if_true]
  exact post_none rfl ⟨rfl, S, hM, heq ▸ hS, hrest⟩
end
/-- The chosen entries of the slots G lie in t, each once, and nothing else lies there: the entry of slot s lies in slot σ s. -/
structure Moved (n : Nat) (G : Gr) (sel : Nat → Bool) (t : Tb) (σ : Nat → Nat) : Prop where
 into : ∀ s, s < 8 * n → G.c s < 128 → sel s = true → σ s < 8 * t.n ∧ t.G.c (σ s) < 128 ∧ t.G.k (σ s) = G.k s ∧ t.G.e (σ s) = G.e s
 inj : ∀ s u, s < 8 * n → u < 8 * n → G.c s < 128 → G.c u < 128 → sel s = true → sel u = true → σ s = σ u → s = u
 onto : ∀ v, v < 8 * t.n → t.G.c v < 128 → ∃ s, s < 8 * n ∧ G.c s < 128 ∧ sel s = true ∧ σ s = v
/-- .. and t is sound and without tombstones. -/
structure Filling (K : KT) (n : Nat) (G : Gr) (sel : Nat → Bool) (t : Tb) (σ : Nat → Nat) : Prop where
 ok : TOK K t
 noDel : ∀ s, s < 8 * t.n → t.G.c s ≠ 254
 moved : Moved n G sel t σ
 used : t.used = cnt (fun s => isFull G s && sel s) (8 * n)
theorem Filling.congr {K : KT} {n : Nat} {G : Gr} {sel sel' : Nat → Bool} {t : Tb} {σ : Nat → Nat} (h : Filling K n G sel t σ) (e : ∀ s, s < 8 * n → G.c s < 128 → sel s = sel' s) : Filling K n G sel' t σ := by
 refine ⟨h.ok, h.noDel, ⟨fun s hs hf hsel => h.moved.into s hs hf ((e s hs hf).trans hsel), fun s u hs hu hf hg h1 h2 => h.moved.inj s u hs hu hf hg ((e s hs hf).trans h1) ((e u hu hg).trans h2), fun v hv hf => ?_⟩, ?_⟩
 ·obtain ⟨s, h1, h2, h3, h4⟩ := h.moved.onto v hv hf
  exact ⟨s, h1, h2, (e s h1 h2).symm.trans h3, h4⟩
 ·rw [h.used]
  refine cnt_congr fun s hs => ?_
  by_cases hf : G.c s < 128
  ·rw [e s hs hf]
  ·simp [isFull, hf]
theorem Filling.new {K : KT} {n : Nat} {G : Gr} {sel : Nat → Bool} {t : Tb} (h : TOK K t) (he : ∀ s, t.G.c s = 128) (hu : t.used = 0) (hs : ∀ s, sel s = false) : Filling K n G sel t (fun s => s) := by
 refine ⟨h, fun s _ => by rw [he]; omega, ⟨fun s _ _ h => absurd h (by simp [hs]), fun s u _ _ _ _ h => absurd h (by simp [hs]), fun v _ hf => absurd hf (by rw [he]; omega)⟩, ?_⟩
 rw [hu, cnt_zero (fun s _ => by simp [hs])]
theorem Filling.room {K : KT} {n : Nat} {G : Gr} {sel : Nat → Bool} {t : Tb} {σ : Nat → Nat} (h : Filling K n G sel t σ) : t.gl + t.used = 7 * t.n := by
 have h1 := h.ok.room
 have h2 : cnt (isDel t.G) (8 * t.n) = 0 := cnt_zero fun s hs => by simp [isDel, h.noDel s hs]
 omega
/-- There is room for one more. -/
theorem Filling.gl_pos {K : KT} {t0 : Tb} {sel : Nat → Bool} {t : Tb} {σ : Nat → Nat} (h : Filling K t0.n t0.G sel t σ) (h0 : TOK K t0) {s : Nat} (hs : s < 8 * t0.n) (hf : t0.G.c s < 128) (hsel : sel s = false) (hn : t0.n ≤ t.n) : 0 < t.gl := by
 have h1 := h.room
 have h2 := h.used
 have h3 := h0.room
 have h4 := h0.used
 have h5 : cnt (fun u => isFull t0.G u && sel u) (8 * t0.n) < cnt (isFull t0.G) (8 * t0.n) := by
  have := cnt_set (q := fun u => (isFull t0.G u && sel u) || decide (u = s)) (r := fun u => isFull t0.G u && sel u) (s := s) hs (fun u _ hne => by simp [hne])
  have h6 : cnt (fun u => (isFull t0.G u && sel u) || decide (u = s)) (8 * t0.n) ≤ cnt (isFull t0.G) (8 * t0.n) := cnt_mono fun u _ hu => by
   simp only [Bool.or_eq_true, Bool.and_eq_true, decide_eq_true_eq] at hu
   rcases hu with hu | hu
   ·exact hu.1
   ·subst hu; simp [isFull, hf]
  simp [hsel] at this
  omega
 omega
/-- One more entry. -/
theorem Filling.step {K : KT} {n : Nat} {G : Gr} {sel : Nat → Bool} {t : Tb} {σ : Nat → Nat} (h : Filling K n G sel t σ) (hS : SlotsOK K n G) {s v : Nat} (hs : s < 8 * n) (hf : G.c s < 128) (hsel : sel s = false) (hgl : 0 < t.gl) (hp : PutAt t.n t.G (K.hash (G.k s)) v) (h128 : t.G.c v = 128) :
  Filling K n G (fun u => sel u || decide (u = s)) { t with used := t.used + 1, gl := t.gl - 1, G := t.G.put v (G.k s) (G.e s) (K.hash (G.k s) % 128) } (fun u => if u = s then v else σ u) := by
 have hb : K.hash (G.k s) % 128 < 128 := Nat.mod_lt _ (by decide)
 have hno : ∀ u, u < 8 * t.n → t.G.c u < 128 → K.eqk (G.k s) (t.G.k u) = false := by
  intro u hu hfu
  obtain ⟨r, h1, h2, h3, h4⟩ := h.moved.onto u hu hfu
  cases hx : K.eqk (G.k s) (t.G.k u) with
  | false => rfl
  | true =>
   exfalso
   have h5 := h.moved.into r h1 h2 h3
   rw [h4] at h5
   rw [h5.2.2.1] at hx
   have := hS.uniq s r hs h1 hf h2 hx
   subst this; rw [hsel] at h3; cases h3
 have hne : ∀ u, u < 8 * n → G.c u < 128 → sel u = true → σ u ≠ v := fun u hu hfu hsu e => by
  have := (h.moved.into u hu hfu hsu).2.1
  rw [e] at this; omega
 refine ⟨h.ok.put_empty (hS.ok.2.1 _) (hS.ok.2.2 _) hp h128 hno hgl, fun u hu => ?_, ⟨fun u hu hfu hsu => ?_, fun a b ha hb' hfa hfb hsa hsb e => ?_, fun w hw hfw => ?_⟩, ?_⟩
 ·show (t.G.put v _ _ _).c u ≠ 254
  rw [Gr.put_c]; split
  ·omega
  ·exact h.noDel u hu
 ·show (if u = s then v else σ u) < 8 * t.n ∧ (t.G.put v _ _ _).c (if u = s then v else σ u) < 128 ∧ (t.G.put v _ _ _).k (if u = s then v else σ u) = _ ∧ (t.G.put v _ _ _).e (if u = s then v else σ u) = _
  by_cases e : u = s
  ·subst e
   rw [if_pos rfl, Gr.put_c, Gr.put_k, Gr.put_e, if_pos rfl, if_pos rfl, if_pos rfl]
   exact ⟨hp.1, hb, rfl, rfl⟩
  ·have hsu' : sel u = true := by simpa [e] using hsu
   have h1 := h.moved.into u hu hfu hsu'
   have h2 := hne u hu hfu hsu'
   rw [if_neg e, Gr.put_c, Gr.put_k, Gr.put_e, if_neg h2, if_neg h2, if_neg h2]
   exact h1
 ·have e' : (if a = s then v else σ a) = (if b = s then v else σ b) := e
  by_cases ea : a = s <;> by_cases eb : b = s
  ·rw [ea, eb]
  ·have hsb' : sel b = true := by simpa [eb] using hsb
   rw [if_pos ea, if_neg eb] at e'; exact absurd e'.symm (hne b hb' hfb hsb')
  ·have hsa' : sel a = true := by simpa [ea] using hsa
   rw [if_neg ea, if_pos eb] at e'; exact absurd e' (hne a ha hfa hsa')
  ·rw [if_neg ea, if_neg eb] at e'
   exact h.moved.inj a b ha hb' hfa hfb (by simpa [ea] using hsa) (by simpa [eb] using hsb) e'
 ·have hfw' : (t.G.put v (G.k s) (G.e s) (K.hash (G.k s) % 128)).c w < 128 := hfw
  rw [Gr.put_c] at hfw'
  by_cases e : w = v
  ·exact ⟨s, hs, hf, by simp, by rw [if_pos rfl, e]⟩
  ·rw [if_neg e] at hfw'
   obtain ⟨r, h1, h2, h3, h4⟩ := h.moved.onto w hw hfw'
   have hr : r ≠ s := fun er => by subst er; rw [hsel] at h3; cases h3
   exact ⟨r, h1, h2, by simp [h3], by rw [if_neg hr, h4]⟩
 ·show t.used + 1 = _
  rw [h.used]
  have := cnt_set (q := fun u => isFull G u && (sel u || decide (u = s))) (r := fun u => isFull G u && sel u) (s := s) hs (fun u _ hne => by simp [hne])
  simp [isFull, hf, hsel] at this
  simp only [isFull] at this ⊢
  omega
theorem byte_top : ∀ c, c < 256 → ((((c &&& 128 : Nat) : Int) == (128 : Int)) = decide (128 ≤ c)) := by decide +kernel
section
variable {w0 w : World} {H : Heap}
theorem c127g (hM : Mem w0 w H) (hD : HasDb w0) {K : KT} {x : Option Addr} {b : Nat} {t : Tb} (hb : H b = some (encT t)) (hg : H t.gb = some (encG t.n t.G)) (hT : TOK K t) (hnd : ∀ s, s < 8 * t.n → t.G.c s ≠ 254) (hgl : 0 < t.gl)
  {bk ok k : Nat} {obk : Obj} (hk : H bk = some obk) (hkc : objCell obk ok = some (u64 k)) (hkg : bk ≠ t.gb) {be oe : Nat} {e : Int} {obe : Obj} (he : H be = some obe) (hec : objCell obe oe = some (i64 e)) (heg : be ≠ t.gb) (hkl : k < 2 ^ 64) (hel : InI64 e) :
  Calls Tryz.prog 127 [.pointer (some ⟨b, 0, none⟩), .pointer x, u64 (K.hash k), .pointer (some ⟨bk, ok, none⟩), .pointer (some ⟨be, oe, none⟩)].toArray w (Gives w0 fun v S => v = .tuple #[] ∧ ∃ s, PutAt t.n t.G (K.hash k) s ∧ t.G.c s = 128 ∧
   S b = some (encT { t with used := t.used + 1, gl := t.gl - 1, G := t.G.put s k e (K.hash k % 128) }) ∧ S t.gb = some (encG t.n (t.G.put s k e (K.hash k % 128))) ∧ ∀ x, x ≠ b → x ≠ t.gb → S x = H x) := by
 have hbg : b ≠ t.gb := ne_of_ty hb hg rfl rfl rfl
 refine (c127 hM hD hb hg hbg hT hnd hgl hk hkc hkg he hec heg hkl hel).mono fun r w' ⟨hr, s, h1, h2, hM'⟩ => ⟨_, _, hr, hM', rfl, s, h1, h2, ?_, Heap.upd_same _ _ _, fun x hx hy => ?_⟩
 ·rw [Heap.upd_ne _ _ hbg, Heap.upd_same]
 ·rw [Heap.upd_ne _ _ hy, Heap.upd_ne _ _ hx]
/-- What growth leaves. -/
def Grown (K : KT) (H : Heap) (b db : Nat) (m : Mp) (t : Tb) (d : Nat → Option Addr) (idx : Nat) (v : Value) (S : Heap) : Prop :=
 ∃ nb t' σ, v = .tuple #[] ∧ H nb = none ∧ H t'.gb = none ∧ Filling K t.n t.G (fun _ => true) t' σ ∧ t'.n = 2 * t.n ∧ t'.ld = t.ld ∧ t'.index = t.index ∧
  S nb = some (encT t') ∧ S t'.gb = some (encG t'.n t'.G) ∧ S b = some (encT { t with index := -1 }) ∧ S db = some (encD m.dirLen (dirSet d idx (2 ^ (m.gd - t.ld)) (some ⟨nb, 0, none⟩))) ∧
  ∀ x u, H x = some u → x ≠ b → x ≠ db → S x = some u
set_option maxHeartbeats 2000000 in
theorem c135 (hM : Mem w0 w H) (hD : HasDb w0) {K : KT} {E : Heap} {bty : Nat} {nu : Bool} (hE : E.le H) (T : TypOK K w0 E bty nu) {b bm db idx : Nat} {t : Tb} {m : Mp} {d : Nat → Option Addr} (hb : H b = some (encT t)) (hg : H t.gb = some (encG t.n t.G)) (hm : H bm = some (encM m)) (hT : TOK K t) (hn64 : t.n ≤ 64)
  (hp : m.dirp = some ⟨db, 0, none⟩) (hd : H db = some (encD m.dirLen d)) (hi : t.index = (idx : Nat)) (hl : t.ld ≤ m.gd) (hgd : m.gd < 60) (hr : idx + 2 ^ (m.gd - t.ld) ≤ m.dirLen) (hlen : m.dirLen < 2 ^ 60) :
  Calls Tryz.prog 135 [.pointer (some ⟨b, 0, none⟩), .pointer (some ⟨bty, 0, none⟩), .pointer (some ⟨bm, 0, none⟩), u16 (16 * t.n)].toArray w (Gives w0 (Grown K H b db m t d idx)) := by
 have hn := hT.npos
 obtain ⟨p, hp7, hpn⟩ := hT.pow
 have hroom := hT.room
 have hcap := hT.cap
 have hp6 : p + 1 ≤ 7 := by
  rcases Nat.lt_or_ge p 7 with h | h
  ·omega
  ·have : 2 ^ 7 ≤ 2 ^ p := Nat.pow_le_pow_right (by omega) h
   omega
 have hlen16 : IsLen (16 * t.n - 1) (p + 1 + 3) := by
  have := isLen_pow (p := p + 1 + 3)
  rw [show 2 ^ (p + 1 + 3) = 16 * t.n by rw [hpn, show p + 1 + 3 = p + 4 from rfl, Nat.pow_add]; omega] at this; exact this
 have hbm : b ≠ bm := ne_of_ty hb hm rfl rfl rfl
 have hbd : b ≠ db := ne_of_ty hb hd rfl rfl rfl
 refine calls_start Tryz.func135 rfl Tryz.ntmps135 (Nat.le_of_ble_eq_true rfl) ?_
 refine wp_mix_seq [11] [11] [0, 1, 2, 3, 4, 5, 6, 7, 8, 9, 10, 11, 12] H mixed (by kernel_rfl) (Heap.le_refl _) hM ?_
 refine mv ?_
 refine mv ?_
 refine rw_conv rfl rfl rfl (c_u64 Tryz.underlying152 Tryz.underlying22 _ (by omega)) ?_
 refine mv ?_
 refine nck ?_
 refine fa fr158_4 ?_
 refine lo ld3 hb ?_
 refine mv ?_
 refine nck ?_
 refine fa fr158_3 ?_
 refine lo ld5 hb ?_
 refine rw_callE cr84 rfl rfl (fun w hM => c84 (p := p + 1) hM (by omega) (by omega) hlen16 hp6) rfl (fun _ => ⟨rfl, rfl⟩) ?_; rintro _ S0 ⟨nb, ngb, rfl, nnb, nng, hne, hnb, hng, hle⟩
 refine asg ?_
 refine rw_nil ?_; intro w hM
 have hn2 : 2 ^ (p + 1) = 2 * t.n := by rw [Nat.pow_succ, hpn]; omega
 rw [hn2] at hnb hng
 refine wp_seq ?_
 refine rs hM ?_
 refine mv ?_
 refine nck ?_
 refine fa fr158_1 ?_
 refine lo ld152 (hle _ _ hb) ?_
 refine rw_bin rfl rfl rfl rfl (b_true (b_gt _ _) (by simp; omega)) ?_
 refine rw_nil ?_; intro w hM
 refine wp_if (tmp_lt rfl) rfl (fun hc => ?_) (by nofun)
 refine rs hM ?_
 refine asg ?_
 refine rw_nil ?_; intro w hM
 refine wp_block ?_
 refine wp_loop_s (fun k f w => ∃ i t' σ S, k = t.n + 1 - i ∧ i ≤ t.n ∧ Know f [(0, .pointer (some ⟨b, 0, none⟩)), (1, .pointer (some ⟨bty, 0, none⟩)), (2, .pointer (some ⟨bm, 0, none⟩)), (8, .pointer (some ⟨nb, 0, none⟩)), (9, u64 i)] ∧ Mem w0 w S ∧ H.le S ∧ Filling K t.n t.G (fun s => decide (s < 8 * i)) t' σ ∧ t'.n = 2 * t.n ∧ t'.ld = t.ld ∧ t'.index = t.index ∧ t'.gb = ngb ∧ S nb = some (encT t') ∧ S ngb = some (encG t'.n t'.G)) (t.n + 1 - 0) ?_ ?_
 ·refine ⟨0, newTb (2 * t.n) t.ld t.index ngb, fun s => s, S0, rfl, by omega, Know.of ⟨rfl, rfl, rfl, rfl, rfl, trivial⟩, hM, hle, Filling.new (hn2 ▸ newTb_ok K hp6) (fun _ => rfl) rfl (fun s => by simp), rfl, rfl, rfl, rfl, hnb, hng⟩
 clear hM hnb hng hle
 rintro k f w ⟨i, t', σ, S, rfl, hi', ⟨g0, rfl⟩, hM, hle, hF, hn', hld, hix, hgb, hnb, hng⟩
 have hb1 := hle _ _ hb
 have hg1 := hle _ _ hg
 have hm1 := hle _ _ hm
 have hE1 := Heap.le_trans hE hle
 refine wp_seq ?_
 refine rs hM ?_
 refine mv ?_
 refine mv ?_
 refine nck ?_
 refine fa fr158_5 ?_
 refine fa fr156_1 ?_
 refine lo ld22 hb1 ?_
 refine rw_bin rfl rfl rfl rfl (b_le _ _) ?_
 refine rw_nil ?_; intro w hM
 refine wp_if (tmp_lt rfl) rfl (fun hc => ?_) (fun hc => ?_)
 ·have hlt : i < t.n := by have : (i : Int) ≤ ((t.n - 1 : Nat) : Int) := of_decide_eq_true hc; omega
  refine wp_skip ?_
  refine wp_seq ?_
  refine wp_block ?_
  refine rs hM ?_
  refine mv ?_
  refine nck ?_
  refine fa fr158_5 ?_
  refine mv ?_
  refine mv ?_
  refine rw_callq cr93 rfl rfl (fun H' w hle' hM => c93 hM (hle' _ _ hb1) rfl hlt) rfl ?_
  refine rw_allocN Tryz.zeroValue104 rfl rfl (fun b10 G10 n10 l10 e10 k10 => ?_)
  refine rw_store (v := .agg #[.pointer _]) sz104 rfl rfl rfl rfl e10 rfl rfl rfl (by nofun) (fun S5 hS5 kS5 => ?_)
  refine rw_nil ?_; intro w hM
  have hle5 := le_keep l10 n10 kS5
  refine rs hM ?_
  refine asg ?_
  refine rw_nil ?_; intro w hM
  refine wp_block ?_
  refine wp_loop_s (fun k f w => ∃ j t' σ S, k = 9 - j ∧ j ≤ 8 ∧ Know f [(0, .pointer (some ⟨b, 0, none⟩)), (1, .pointer (some ⟨bty, 0, none⟩)), (2, .pointer (some ⟨bm, 0, none⟩)), (8, .pointer (some ⟨nb, 0, none⟩)), (9, u64 i), (10, .pointer (some ⟨b10, 0, none⟩)), (11, u64 j)] ∧ Mem w0 w S ∧ H.le S ∧ Filling K t.n t.G (fun s => decide (s < 8 * i + j)) t' σ ∧ t'.n = 2 * t.n ∧ t'.ld = t.ld ∧ t'.index = t.index ∧ t'.gb = ngb ∧ S nb = some (encT t') ∧ S ngb = some (encG t'.n t'.G) ∧ S b10 = some (.cells #[.pointer (some ⟨t.gb, 17 * i, none⟩)] 104 (0, 0))) (9 - 0) ?_ ?_
  ·exact ⟨0, t', σ, S5, rfl, by omega, Know.of ⟨rfl, rfl, rfl, rfl, rfl, rfl, rfl, trivial⟩, hM, Heap.le_trans hle hle5, hF, hn', hld, hix, hgb, hle5 _ _ hnb, hle5 _ _ hng, hS5⟩
  clear hM hnb hng hle hb1 hg1 hm1 hE1 hle5 hF hn' hld hix hgb
  rintro k f w ⟨j, t', σ, S, rfl, hj', ⟨g1, rfl⟩, hM, hle, hF, hn', hld, hix, hgb, hnb, hng, h10⟩
  have hb1 := hle _ _ hb
  have hg1 := hle _ _ hg
  have hm1 := hle _ _ hm
  have hE1 := Heap.le_trans hE hle
  have hgr := Gr.bytes hT.sl.ok i
  refine wp_seq ?_
  refine rs hM ?_
  refine mv ?_
  refine rw_bin rfl rfl rfl rfl (b_lt _ _) ?_
  refine rw_nil ?_; intro w hM
  refine wp_if (tmp_lt rfl) rfl (fun hc => ?_) (fun hc => ?_)
  ·have hj : j < 8 := by have := of_decide_eq_true hc; omega
   have hs : 8 * i + j < 8 * t.n := by omega
   refine wp_skip ?_
   refine wp_seq ?_
   refine wp_block ?_
   refine wp_seq ?_
   refine rs hM ?_
   refine rw_callq cr90 rfl rfl (fun H' w hle hM => c90 hM (hle _ _ h10) rfl) rfl ?_
   refine mv ?_
   refine rw_callq cr95 rfl rfl (fun H' w hle hM => c95 hM hgr (hle _ _ hg1) (encG_ctrl hlt) hj) rfl ?_
   refine rw_bin rfl rfl rfl rfl (b_and8 _ 128 (hT.sl.ok.1 _) (by decide)) ?_
   refine rw_bin rfl rfl rfl rfl (b_eq _ _) ?_
   refine rw_nil ?_; intro w hM
   refine wp_if (tmp_lt rfl) rfl (fun hz => ?_) (fun hz => ?_)
   ·have hz' : 128 ≤ t.G.c (8 * i + j) := of_decide_eq_true ((byte_top _ (hT.sl.ok.1 (8 * i + j))).symm.trans hz)
    refine wp_exit ?_
    simp only [Exit.then, Exit.inBlock, if_true]
    refine re hM ?_
    refine mv ?_
    refine rw_bin rfl rfl rfl rfl (b_add64 _ 1) ?_
    refine asg ?_
    refine rw_nil ?_; intro w hM
    refine ⟨9 - (j + 1), _, rfl, by omega, j + 1, t', σ, S, rfl, by omega, Know.of ⟨rfl, rfl, rfl, rfl, rfl, rfl, congrArg u64 (show (j + 1) % 2 ^ 64 = j + 1 by omega), trivial⟩, hM, hle, hF.congr (fun s hs hf => ?_), hn', hld, hix, hgb, hnb, hng, h10⟩
    have : s ≠ 8 * i + j := fun e => by subst e; omega
    by_cases h1 : s < 8 * i + j
    ·rw [decide_eq_true h1, decide_eq_true (show s < 8 * i + (j + 1) by omega)]
    ·rw [decide_eq_false h1, decide_eq_false (show ¬ s < 8 * i + (j + 1) by omega)]
   ·have hz' : t.G.c (8 * i + j) < 128 := by
     have := of_decide_eq_false ((byte_top _ (hT.sl.ok.1 (8 * i + j))).symm.trans hz); omega
    have hkey : objCell (encG t.n t.G) (17 * i + 1 + j) = some (u64 (t.G.k (8 * i + j))) := encG_key hlt hj
    have helem : objCell (encG t.n t.G) (17 * i + 9 + j) = some (i64 (t.G.e (8 * i + j))) := encG_elem hlt hj
    have hkl := hT.sl.ok.2.1 (8 * i + j)
    have hel := hT.sl.ok.2.2 (8 * i + j)
    refine wp_skip ?_
    refine rs hM ?_
    refine mv ?_
    refine mv ?_
    refine rw_callq cr96 rfl rfl (fun H' w hle hM => c96 hM (hle _ _ h10) rfl hj) rfl ?_
    refine asg ?_
    refine rw_nil ?_; intro w hM
    refine rs hM ?_
    refine mv ?_
    refine mv ?_
    refine rw_callq cr98 rfl rfl (fun H' w hle hM => c98 hM (hle _ _ h10) rfl hj) rfl ?_
    refine asg ?_
    refine rw_nil ?_; intro w hM
    refine wp_mix_seq [] [] [0, 1, 2, 3, 4, 5, 6, 7, 8, 9, 10] S mixed (by kernel_rfl) (Heap.le_refl _) hM ?_
    refine mv ?_
    refine nck ?_
    refine fa fr88_0 ?_
    refine lo ld85 (hE1 _ _ T.typ) ?_
    refine mv ?_
    refine mv ?_
    refine nck ?_
    refine fa fr132_1 ?_
    refine lo ld12 hm1 ?_
    refine rw_callvq (captured := T.ch) T.crh rfl rfl rfl (fun H' w hle2 hM => T.hasher hM (Heap.le_trans hE1 hle2) (hle2 _ _ hg1) hkey hkl) rfl ?_
    refine asg ?_
    refine rw_nil ?_; intro w hM
    have hgl := hF.gl_pos hT hs hz' (decide_eq_false (by omega)) (by omega)
    have htg : t.gb ≠ t'.gb := fun e => by rw [hgb] at e; rw [e, nng] at hg; cases hg
    have hng' : S t'.gb = some (encG t'.n t'.G) := by rw [hgb]; exact hng
    refine re hM ?_
    refine mv ?_
    refine mv ?_
    refine mv ?_
    refine mv ?_
    refine mv ?_
    refine rw_callE cr127 rfl rfl (fun w hM => c127g hM hD hnb hng' hF.ok hF.noDel hgl hg1 hkey htg hg1 helem htg hkl hel) rfl (by nofun) ?_; rintro _ S' ⟨rfl, v, hv, h128, hnb', hng'', hrest⟩
    refine rw_nil ?_; intro w hM
    simp only [Exit.then, Exit.inBlock]
    refine re hM ?_
    refine mv ?_
    refine rw_bin rfl rfl rfl rfl (b_add64 _ 1) ?_
    refine asg ?_
    refine rw_nil ?_; intro w hM
    have hFs := hF.step hT.sl hs hz' (decide_eq_false (by omega)) hgl hv h128
    refine ⟨9 - (j + 1), _, rfl, by omega, j + 1, _, _, S', rfl, by omega, Know.of ⟨rfl, rfl, rfl, rfl, rfl, rfl, congrArg u64 (show (j + 1) % 2 ^ 64 = j + 1 by omega), trivial⟩, hM, ?_, hFs.congr (fun s hs hf => ?_), hn', hld, hix, hgb, hnb', by rw [hgb] at hng''; exact hng'', ?_⟩
    ·intro x u hx
     have x1 : x ≠ nb := fun e => by rw [e, nnb] at hx; cases hx
     have x2 : x ≠ t'.gb := fun e => by rw [e, hgb, nng] at hx; cases hx
     rw [hrest x x1 x2]; exact hle _ _ hx
    ·by_cases h1 : s = 8 * i + j
     ·simp [h1]
     ·by_cases h2 : s < 8 * i + j
      ·simp [h2]; omega
      ·simp [h1, h2]; omega
    ·have x1 : b10 ≠ nb := ne_of_ty h10 hnb rfl rfl rfl
     have x2 : b10 ≠ t'.gb := ne_of_ty h10 hng' rfl rfl rfl
     rw [hrest _ x1 x2]; exact h10
  ·have hj : j = 8 := by have := of_decide_eq_false hc; omega
   subst hj
   refine wp_exit ?_
   simp only [Exit.then, Exit.inBlock, if_true]
   refine re hM ?_
   refine mv ?_
   refine rw_bin rfl rfl rfl rfl (b_add64 _ 1) ?_
   refine asg ?_
   refine rw_nil ?_; intro w hM
   exact ⟨t.n + 1 - (i + 1), _, rfl, by omega, i + 1, t', σ, S, rfl, by omega, Know.of ⟨rfl, rfl, rfl, rfl, congrArg u64 (show (i + 1) % 2 ^ 64 = i + 1 by omega), trivial⟩, hM, hle, hF, hn', hld, hix, hgb, hnb, hng⟩
 ·have hi2 : i = t.n := by have : ¬ (i : Int) ≤ ((t.n - 1 : Nat) : Int) := of_decide_eq_false hc; omega
  subst hi2
  refine wp_exit ?_
  simp only [Exit.then, Exit.inBlock, if_true]
  have hd1 := hle _ _ hd
  have ebd : nb ≠ b := fun e => by rw [e, hb] at nnb; cases nnb
  have enm : nb ≠ db := fun e => by rw [e, hd] at nnb; cases nnb
  have egb : ngb ≠ b := fun e => by rw [e, hb] at nng; cases nng
  have egd : ngb ≠ db := fun e => by rw [e, hd] at nng; cases nng
  refine rs hM ?_
  refine mv ?_
  refine mv ?_
  refine rw_callS cr138 rfl rfl (fun w hM => c138 hM hm1 hp hd1 hnb (idx := idx) (hix.trans hi) (by omega) hgd (by rw [hld]; exact hr) hlen) rfl (by nofun) (fun S14 hS14 kS14 => ?_)
  refine rw_nil ?_; intro w hM
  have hb14 := (kS14 _ hbd).trans hb1
  refine re hM ?_
  refine mv ?_
  refine nck ?_
  refine fa fr158_4 ?_
  refine rw_store1 (v := .int .i64 _) sz3 rfl rfl rfl rfl hb14 rfl rfl (by nofun) (fun S15 hS15 kS15 => ?_)
  refine rw_nil ?_; intro w hM
  refine post_none rfl ⟨_, S15, rfl, hM, nb, t', σ, rfl, nnb, by rw [hgb]; exact nng, hF.congr (fun s hs _ => decide_eq_true hs), hn', hld, hix, ?_, ?_, ?_, ?_, fun x u hx h1 h2 => ?_⟩
  ·rw [kS15 _ ebd, kS14 _ enm]; exact hnb
  ·rw [hgb, kS15 _ egb, kS14 _ egd]; exact hng
  ·rw [hS15]; rfl
  ·rw [kS15 _ hbd.symm, hS14, hld]
  ·rw [kS15 _ h1, kS14 _ h2]; exact hle _ _ hx
end
section
section
variable {P : Program} {ops : Array Oper} {sp br : List Nat} {d : Bool} {w0 : World} {K : Slots → World → Prop} {i : Nat} {rest : List Nat} {Hq H : Heap} {f : Slots}
variable {dst : Tmp} {ty : TypeId} {pos : String} {aft : Array Edge} {g : Option (Nat × Bool)}
theorem rw_len {t e : TypeId} {x : Operand} {a : Option Addr} {l c : Nat} (ht : P.underlying t = some (.slice e)) (ho : ops[i]? = some ⟨some dst, .call ⟨.builtin .len, #[x], #[t]⟩, ty, pos, aft, g⟩) (hw : wantedS ops f ⟨some dst, .call ⟨.builtin .len, #[x], #[t]⟩, ty, pos, aft, g⟩ = true) (hx : ev f x = .slice a l c)
  (h : RW P ops sp br d w0 K rest Hq H (f.set dst (i64 (l : Nat)))) : RW P ops sp br d w0 K (i :: rest) Hq H f :=
 rw_q ho hw (v := i64 (l : Nat)) (fun _ w _ _ => by
  simp [execOp, resolve, invoke, builtin, Builtin.len_, hx, bind, pure, Sem.bind, underlying, program, Sem.run, ht, goInt]) h
end
end
/-- Where the run of entries begins in which i lies. -/
def base (gd ld i : Nat) : Nat := i / 2 ^ (gd - ld) * 2 ^ (gd - ld)
theorem base_le (gd ld i : Nat) : base gd ld i ≤ i := Nat.div_mul_le_self _ _
theorem base_lt (gd ld i : Nat) : i < base gd ld i + 2 ^ (gd - ld) := by
 unfold base
 have := Nat.div_add_mod i (2 ^ (gd - ld))
 have := Nat.mod_lt i (Nat.two_pow_pos (gd - ld))
 rw [Nat.mul_comm]; omega
theorem base_eq {gd ld i j : Nat} (h1 : base gd ld i ≤ j) (h2 : j < base gd ld i + 2 ^ (gd - ld)) : base gd ld j = base gd ld i := by
 unfold base at *
 congr 1
 have hp := Nat.two_pow_pos (gd - ld)
 apply Nat.le_antisymm
 ·rw [← Nat.lt_add_one_iff, Nat.div_lt_iff_lt_mul hp, Nat.add_mul]; omega
 ·rw [Nat.le_div_iff_mul_le hp]; exact h1
theorem base_base (gd ld i : Nat) : base gd ld (base gd ld i) = base gd ld i := base_eq (Nat.le_refl _) (by have := Nat.two_pow_pos (gd - ld); omega)
theorem base_fit {gd ld i : Nat} (hl : ld ≤ gd) (hi : i < 2 ^ gd) : base gd ld i + 2 ^ (gd - ld) ≤ 2 ^ gd := by
 unfold base
 have h1 : i / 2 ^ (gd - ld) < 2 ^ ld := by
  rw [Nat.div_lt_iff_lt_mul (Nat.two_pow_pos _), ← Nat.pow_add, show ld + (gd - ld) = gd by omega]; exact hi
 calc i / 2 ^ (gd - ld) * 2 ^ (gd - ld) + 2 ^ (gd - ld) = (i / 2 ^ (gd - ld) + 1) * 2 ^ (gd - ld) := by rw [Nat.add_mul]; omega
  _ ≤ 2 ^ ld * 2 ^ (gd - ld) := Nat.mul_le_mul_right _ h1
  _ = 2 ^ gd := by rw [← Nat.pow_add, show ld + (gd - ld) = gd by omega]
/-- Twice a begin is not i, unless the begin is i. -/
theorem base_double {gd ld i : Nat} (h : base gd ld i < i) : 2 * base gd ld i ≠ i := by
 have h1 := base_lt gd ld i
 unfold base at *
 rcases Nat.eq_zero_or_pos (i / 2 ^ (gd - ld)) with h0 | h0
 ·rw [h0] at *; omega
 ·have : 2 ^ (gd - ld) ≤ i / 2 ^ (gd - ld) * 2 ^ (gd - ld) := Nat.le_mul_of_pos_left _ h0
  omega
/-- A directory d of 2 ^ gd entries; T: the tables. -/
structure DirOK (gd : Nat) (d : Nat → Nat) (T : Nat → Tb) : Prop where
 ld : ∀ i, i < 2 ^ gd → (T (d i)).ld ≤ gd
 idx : ∀ i, i < 2 ^ gd → (T (d i)).index = ((base gd (T (d i)).ld i : Nat) : Int)
 same : ∀ i j, i < 2 ^ gd → j < 2 ^ gd → base gd (T (d i)).ld i = base gd (T (d i)).ld j → d j = d i
theorem DirOK.inj {gd : Nat} {d : Nat → Nat} {T : Nat → Tb} (h : DirOK gd d T) {i j : Nat} (hi : i < 2 ^ gd) (hj : j < 2 ^ gd) (e : d i = d j) : base gd (T (d i)).ld i = base gd (T (d j)).ld j := by
 have h1 := h.idx i hi
 have h2 := h.idx j hj
 rw [e] at h1
 rw [e]; rw [h1] at h2; omega
end Go.Proofs.YtddpfkcofmfmpaaGreatDoor
