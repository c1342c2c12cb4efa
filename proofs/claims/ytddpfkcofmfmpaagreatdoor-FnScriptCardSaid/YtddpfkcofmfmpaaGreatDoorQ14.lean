/-
  A map cleared. Conditions stand in the contract. A new map. Conditions stand in the contract. Iterators: their cells, their beginning. Conditions stand in each contract.
  Conditions stand in each lemma.
-/
import Derived.Test.YtddpfkcofmfmpaaGreatDoorQ13
namespace Go.Proofs.YtddpfkcofmfmpaaGreatDoor
open Go Go.RowKit
set_option maxRecDepth 20000
section
variable {w0 w : World} {H : Heap}
theorem small_cleared {K : KT} {G : Gr} (hG : G.ok) (he : ∀ s, s < 8 → G.c s = 128) : SmallOK K G ∧ cnt (isFull G) 8 = 0 := by
 refine ⟨⟨⟨hG, fun s hs => .inr (.inl (he s (by omega))), fun s hs hf => ?_, fun s hs hf _ => ?_, fun s u hs _ hf _ _ => ?_, fun g q r hg _ hr _ h2 => ?_⟩, fun s hs => ?_⟩, cnt_zero fun s hs => by simp [isFull, he s hs]⟩
 ·have := he s (by omega); omega
 ·have := he s (by omega); omega
 ·have := he s (by omega); omega
 ·have := he (8 * g + r) (by omega); omega
 ·have := he s (by omega); omega
theorem Dir.OK.cleared {K : KT} {D : Dir} (h : D.OK K) {T : Nat → Tb} (hT : ∀ i, i < 2 ^ D.gd → SameTb (D.tab i) (T (D.d i)) ∧ TOK K (T (D.d i)) ∧ ∀ s, s < 8 * (T (D.d i)).n → (T (D.d i)).G.c s = 128) : Dir.OK K { D with T := T } := by
 refine ⟨⟨fun i hi => ?_, fun i hi => ?_, fun i j hi hj e => ?_⟩, fun i hi => (hT i hi).2.1, fun i j hi hj e => ?_, fun i s hi hs hf => ?_, h.gd64⟩
 ·show (T (D.d i)).ld ≤ D.gd; rw [(hT i hi).1.ld]; exact h.dok.ld i hi
 ·show (T (D.d i)).index = ((base D.gd (T (D.d i)).ld i : Nat) : Int); rw [(hT i hi).1.ld, (hT i hi).1.index]; exact h.dok.idx i hi
 ·have e' : base D.gd (T (D.d i)).ld i = base D.gd (T (D.d i)).ld j := e
  rw [(hT i hi).1.ld] at e'; exact h.dok.same i j hi hj e'
 ·have e' : (T (D.d i)).gb = (T (D.d j)).gb := e
  rw [(hT i hi).1.gb, (hT j hj).1.gb] at e'; exact h.gbs i j hi hj e'
 ·have := (hT i hi).2.2 s hs
  have hf' : (T (D.d i)).G.c s < 128 := hf
  omega
/-- The tables while the map is cleared: those at the first i places are. -/
structure Clearing (K : KT) (w0 : World) (H : Heap) (D : Dir) (i : Nat) (T : Nat → Tb) (w : World) (S : Heap) : Prop where
 mem : Mem w0 w S
 tabs : ∀ q, q < 2 ^ D.gd → S (D.d q) = some (encT (T (D.d q))) ∧ S (D.tab q).gb = some (encG (D.tab q).n (T (D.d q)).G) ∧ SameTb (D.tab q) (T (D.d q)) ∧ TOK K (T (D.d q)) ∧ psi (T (D.d q)) ≤ psi (D.tab q) ∧
  ((∃ p, p < i ∧ D.d p = D.d q) → ∀ s, s < 8 * (T (D.d q)).n → (T (D.d q)).G.c s = 128)
 rest : ∀ x u, H x = some u → (∀ q, q < 2 ^ D.gd → x ≠ D.d q ∧ x ≠ (D.tab q).gb) → S x = some u
set_option maxHeartbeats 4000000 in
theorem c65 (hM : Mem w0 w H) {K : KT} {E : Heap} {bty cb n : Nat} {nu : Bool} (hE : E.le H) (hEP : ∀ x u, E x = some u → Plain u) (Ty : TypOK K w0 E bty nu) (R : Rnd w0 E cb Ty.rand) (hcb : H cb = some (encI n)) (hn : n < 2 ^ 62) {bm : Nat} {m : Mp} {V : Mv} (hV : MapIs K H bm m V) (hwr : m.wr = 0) (hU : m.used = 0 → ∀ g s k e, ¬ V.live g s k e) (hmu : m.used < 2 ^ 62) (htb : (∃ db D, V = .big db D) ∨ m.tomb = false) :
  Calls Tryz.prog 65 [.pointer (some ⟨bm, 0, none⟩), .pointer (some ⟨bty, 0, none⟩)].toArray w (Gives w0 fun v S => v = .tuple #[] ∧ ∃ m' V' n', n' ≤ n + 1 ∧ ClearM K H bm cb m V m' V' n' S) := by
 have hb := hV.cell
 have hbc : bm ≠ cb := ne_of_ty hb hcb rfl rfl rfl
 by_cases hearly : m.used = 0 ∧ m.tomb = false
 ·obtain ⟨h0, h1⟩ := hearly
  refine calls_start Tryz.func65 rfl Tryz.ntmps65 (Nat.le_of_ble_eq_true rfl) ?_
  refine wp_seq ?_
  refine rs hM ?_
  refine mv ?_
  refine rw_bin rfl rfl rfl rfl (b_nil_eq (some _) Tryz.underlying96) ?_
  refine mv ?_
  refine mv ?_
  refine rw_callq cr66 rfl rfl (fun H' w hle hM => c66 hM (hle _ _ hb)) rfl ?_
  refine rw_bin rfl rfl rfl rfl (b_true (b_eq _ _) (by rw [h0]; rfl)) ?_
  refine mv ?_
  refine mv ?_
  refine nck ?_
  refine fa fr132_8 ?_
  refine rw_load (v := .bool false) ld4 rfl rfl rfl hb (by rw [← h1]; rfl) ?_
  refine rw_un rfl rfl rfl (u_not _) ?_
  refine rw_pick rfl rfl rfl rfl rfl ?_
  refine rw_pick rfl rfl rfl rfl rfl ?_
  refine rw_nil ?_; intro w hM
  refine wp_if (tmp_lt rfl) rfl (fun hc => ?_) (by nofun)
  refine wp_ret ?_
  simp only [Exit.then]
  exact post_none' rfl ⟨_, H, rfl, hM, rfl, m, V, n, Nat.le_succ _, ⟨hV, rfl, h1, h0, .inl ⟨rfl, rfl, rfl, hU h0⟩, hcb, fun _ h => h, fun x u hx _ _ _ _ => hx⟩⟩
 refine calls_start Tryz.func65 rfl Tryz.ntmps65 (Nat.le_of_ble_eq_true rfl) ?_
 refine wp_seq_mid (fun f w => Know f [(0, .pointer (some ⟨bm, 0, none⟩)), (1, .pointer (some ⟨bty, 0, none⟩))] ∧ Mem w0 w H) ?_ ?_
 ·by_cases h0 : m.used = 0
  ·have h1 : m.tomb = true := by
    cases h : m.tomb with
    | true => rfl
    | false => exact absurd ⟨h0, h⟩ hearly
   refine rs hM ?_
   refine mv ?_
   refine rw_bin rfl rfl rfl rfl (b_nil_eq (some _) Tryz.underlying96) ?_
   refine mv ?_
   refine mv ?_
   refine rw_callq cr66 rfl rfl (fun H' w hle hM => c66 hM (hle _ _ hb)) rfl ?_
   refine rw_bin rfl rfl rfl rfl (b_true (b_eq _ _) (by rw [h0]; rfl)) ?_
   refine mv ?_
   refine mv ?_
   refine nck ?_
   refine fa fr132_8 ?_
   refine rw_load (v := .bool true) ld4 rfl rfl rfl hb (by rw [← h1]; rfl) ?_
   refine rw_un rfl rfl rfl (u_not _) ?_
   refine rw_pick rfl rfl rfl rfl rfl ?_
   refine rw_pick rfl rfl rfl rfl rfl ?_
   refine rw_nil ?_; intro w hM
   refine wp_if (tmp_lt rfl) rfl (by nofun) (fun hc => ?_)
   refine wp_skip ?_
   exact ⟨_, rfl, Know.of ⟨rfl, rfl, trivial⟩, hM⟩
  ·refine rs hM ?_
   refine mv ?_
   refine rw_bin rfl rfl rfl rfl (b_nil_eq (some _) Tryz.underlying96) ?_
   refine mv ?_
   refine mv ?_
   refine rw_callq cr66 rfl rfl (fun H' w hle hM => c66 hM (hle _ _ hb)) rfl ?_
   refine rw_bin rfl rfl rfl rfl (b_false (b_eq _ _) (nz (by omega))) ?_
   refine mv ?_
   refine rw_skip rfl rfl ?_
   refine rw_skip rfl rfl ?_
   refine rw_skip rfl rfl ?_
   refine rw_skip rfl rfl ?_
   refine rw_skip rfl rfl ?_
   refine rw_pick rfl rfl rfl rfl rfl ?_
   refine rw_pick rfl rfl rfl rfl rfl ?_
   refine rw_nil ?_; intro w hM
   refine wp_if (tmp_lt rfl) rfl (by nofun) (fun hc => ?_)
   refine wp_skip ?_
   exact ⟨_, rfl, Know.of ⟨rfl, rfl, trivial⟩, hM⟩
 clear hM
 rintro f w ⟨⟨g0, rfl⟩, hM⟩
 refine wp_seq ?_
 refine rs hM ?_
 refine mv ?_
 refine nck ?_
 refine fa fr132_7 ?_
 refine lo ld5 hb ?_
 refine rw_bin rfl rfl rfl rfl (b_false (b_ne _ _) (by rw [hwr]; rfl)) ?_
 refine rw_nil ?_; intro w hM
 refine wp_if (tmp_lt rfl) rfl (by nofun) (fun hc => ?_)
 refine wp_skip ?_
 refine rs hM ?_
 refine mv ?_
 refine nck ?_
 refine fa fr132_7 ?_
 refine lo ld5 hb ?_
 refine rw_bin (v := u8 1) rfl rfl rfl rfl (bin_eq (b_xor8 m.wr 1 (by omega) (by decide)) (by rw [hwr]; rfl)) ?_
 refine nck ?_
 refine fa fr132_7 ?_
 refine rw_store1 (v := .int .u8 _) sz5 rfl rfl rfl rfl hb rfl rfl (by nofun) (fun S3 hS3 kS3 => ?_)
 refine rw_nil ?_; intro w hM
 have hS3' : S3 bm = some (encM { m with wr := 1 }) := by rw [hS3]; rfl
 have hV3 := hV.cells 1 hS3' kS3
 have hE3 : E.le S3 := fun x u hx => (kS3 _ ((hEP x u hx).ne (hE _ _ hx) hb (.inl rfl))).trans (hE _ _ hx)
 have hcb3 := (kS3 _ hbc.symm).trans hcb
 refine wp_seq_mid (fun f w => ∃ S m2 V2, Know f [(0, .pointer (some ⟨bm, 0, none⟩)), (1, .pointer (some ⟨bty, 0, none⟩))] ∧ Mem w0 w S ∧ MapIs K S bm m2 V2 ∧ m2.wr = 1 ∧ m2.clr = m.clr ∧ m2.tomb = false ∧ m2.used = 0 ∧ ClearR V V2 ∧ S cb = some (encI n) ∧ E.le S ∧ (∀ N, V.Pot N → V2.Pot N) ∧ ∀ x u, H x = some u → x ≠ bm → (∀ g n G, V.row g n G → x ≠ g) → ¬ V.tblk x → S x = some u) ?_ ?_
 ·cases V with
  | nil =>
   exfalso
   rcases htb with ⟨_, _, h⟩ | h
   ·cases h
   ·exact hearly ⟨hV.2.2.2.2, h⟩
  | small sg G =>
   have htf : m.tomb = false := by
    rcases htb with ⟨_, _, h⟩ | h
    ·cases h
    ·exact h
   obtain ⟨_, h1, h2, h3, hg, ⟨hG, hGd⟩, hu⟩ := hV3
   have hgc : sg ≠ cb := ne_of_ty hg hcb3 rfl rfl rfl
   refine rs hM ?_
   refine mv ?_
   refine nck ?_
   refine fa fr132_4 ?_
   refine lo ld3 hS3' ?_
   refine rw_bin rfl rfl rfl rfl (b_true (b_eq _ _) (by rw [show m.dirLen = 0 from h1]; rfl)) ?_
   refine rw_nil ?_; intro w hM
   refine wp_if (tmp_lt rfl) rfl (fun hc => ?_) (by nofun)
   refine re hM ?_
   refine mv ?_
   refine mv ?_
   refine rw_callE cr76 rfl rfl (fun w hM => c76 hM hS3' h2 hg) rfl (by nofun) ?_; rintro _ S5 ⟨rfl, hb5, hg5, hr5⟩
   refine rw_nil ?_; intro w hM
   have he : ∀ s, s < 8 → ((G.zero 0).empty 0).c s = 128 := fun s hs => by
    show (if s / 8 = 0 then 128 else _) = 128; rw [if_pos (by omega)]
   obtain ⟨c1, c2⟩ := small_cleared (K := K) (Gr.ok_empty (Gr.ok_zero hG.ok 0) 0) he
   refine ⟨_, rfl, S5, { { m with wr := 1 } with used := 0 }, .small sg ((G.zero 0).empty 0), Know.of ⟨rfl, rfl, trivial⟩, hM, ⟨hb5, h1, h2, h3, hg5, c1, c2.symm⟩, rfl, rfl, htf, rfl, ⟨_, rfl, he⟩, hr5 _ _ hcb3 hbc.symm hgc.symm, fun x u hx => ?_, fun N _ => ?_, fun x u hx a b _ => ?_⟩
   ·exact hr5 _ _ (hE3 _ _ hx) ((hEP x u hx).ne (hE _ _ hx) hb (.inl rfl)) ((hEP x u hx).ne (hE3 _ _ hx) hg (.inr (.inl rfl)))
   ·show cnt _ 8 ≤ N; rw [c2]; exact Nat.zero_le _
   ·exact hr5 _ _ ((kS3 _ a).trans hx) a (b sg 1 G ⟨rfl, rfl, rfl⟩)
  | big db D =>
   obtain ⟨_, hmb, hAt, hDok, hgd40⟩ := hV3
   have hgd' : m.gd = D.gd := hmb.gd
   have hlen' : m.dirLen = 2 ^ D.gd := hmb.len
   have hlen0 : ((m.dirLen : Int) == 0) = false := by rw [hlen']; exact nz (Nat.two_pow_pos _)
   have hdl : m.dirLen ≤ 2 ^ 40 := by rw [hlen']; exact Nat.pow_le_pow_right (by omega) hgd40
   refine rs hM ?_
   refine mv ?_
   refine nck ?_
   refine fa fr132_4 ?_
   refine lo ld3 hS3' ?_
   refine rw_bin rfl rfl rfl rfl (b_false (b_eq _ _) hlen0) ?_
   refine rw_nil ?_; intro w hM
   refine wp_if (tmp_lt rfl) rfl (by nofun) (fun hc => ?_)
   refine rs hM ?_
   refine asg ?_
   refine rw_nil ?_; intro w hM
   refine wp_seq ?_
   refine rs hM ?_
   refine mv ?_
   refine nck ?_
   refine fa fr132_4 ?_
   refine lo ld3 hS3' ?_
   refine mv ?_
   refine rw_nil ?_; intro w hM
   refine wp_block ?_
   refine wp_loop_s (fun k f w => ∃ i T S, k = m.dirLen - i ∧ i ≤ m.dirLen ∧ Know f [(0, .pointer (some ⟨bm, 0, none⟩)), (1, .pointer (some ⟨bty, 0, none⟩)), (4, .pointer (if i = 0 then none else some ⟨D.d (i - 1), 0, none⟩)), (45, i64 (m.dirLen : Nat)), (46, i64 (i : Nat))] ∧ Clearing K w0 S3 D i T w S) (m.dirLen - 0) ?_ ?_
   ·refine ⟨0, D.T, S3, rfl, by omega, Know.of ⟨rfl, rfl, rfl, rfl, rfl, trivial⟩, ⟨hM, fun q hq => ⟨hAt.tabs q hq, hAt.grs q hq, ⟨rfl, rfl, rfl, rfl⟩, hDok.tok q hq, Nat.le_refl _, fun ⟨p, hp, _⟩ => by omega⟩, fun x u hx _ => hx⟩⟩
   clear hM
   rintro k f w ⟨i, T, S, rfl, hi', ⟨g1, rfl⟩, hC⟩
   have hM := hC.mem
   have hbS : S bm = some (encM { m with wr := 1 }) := hC.rest _ _ hS3' (fun q hq => ⟨ne_of_ty hS3' (hAt.tabs q hq) rfl rfl rfl, ne_of_ty hS3' (hAt.grs q hq) rfl rfl rfl⟩)
   have hdS : S db = some (encD m.dirLen (fun i => some ⟨D.d i, 0, none⟩)) := by
    rw [hlen']; exact hC.rest _ _ hAt.dir (fun q hq => ⟨ne_of_ty hAt.dir (hAt.tabs q hq) rfl rfl rfl, ne_of_ty hAt.dir (hAt.grs q hq) rfl rfl rfl⟩)
   refine rs hM ?_
   refine rw_bin rfl rfl rfl rfl (b_lt _ _) ?_
   refine rw_nil ?_; intro w hM
   refine wp_seq ?_
   refine wp_if (tmp_lt rfl) rfl (fun hz => ?_) (fun hz => ?_)
   ·have hi : i < m.dirLen := by have := of_decide_eq_true hz; omega
    have hi2 : i < 2 ^ D.gd := by omega
    obtain ⟨t1, t2, t3, t4, t6, t5⟩ := hC.tabs i hi2
    refine wp_skip ?_
    refine wp_seq ?_
    refine wp_block ?_
    refine rs hM ?_
    refine mv ?_
    refine asg ?_
    refine rw_nil ?_; intro w hM
    refine rs hM ?_
    refine mv ?_
    refine mv ?_
    refine rw_conv (v := u64 i) rfl rfl rfl (conv_eq (c_u64 Tryz.underlying3 Tryz.underlying12 i (by omega)) rfl) ?_
    refine rw_callq cr77 rfl rfl (fun H' w hle hM => c77 hM (hle _ _ hbS) hmb.dirp (hle _ _ hdS) hi) rfl ?_
    refine asg ?_
    refine rw_nil ?_; intro w hM
    -- what follows when the table is another than the last one
    by_cases hlast : i ≠ 0 ∧ D.d i = D.d (i - 1)
    ·obtain ⟨hi0, hde⟩ := hlast
     have tp := (hC.tabs (i - 1) (by omega)).1
     refine wp_seq ?_
     refine rs hM ?_
     refine mv ?_
     refine rw_move (v := .pointer (some ⟨D.d (i - 1), 0, none⟩)) rfl rfl (congrArg Value.pointer (if_neg hi0)) ?_
     refine rw_ptrEq (j := Tryz.t158) Tryz.underlying101 (by kernel_rfl) (by decide) rfl rfl rfl rfl t1 tp ?_
     refine rw_nil ?_; intro w hM
     refine wp_if (tmp_lt rfl) rfl (fun hc => ?_) (fun hc => by rw [nat_beq.2 hde] at hc; cases hc)
     refine wp_exit ?_
     simp only [Exit.then, Exit.inBlock, if_true]
     refine re hM ?_
     refine rw_bin (v := i64 ((i + 1 : Nat) : Int)) rfl rfl rfl rfl (bin_eq (b_addi (b := 1) (by omega) (by omega)) (congrArg i64 (by omega))) ?_
     refine mv ?_
     refine rw_nil ?_; intro w hM
     refine ⟨m.dirLen - (i + 1), _, rfl, by omega, i + 1, T, S, rfl, by omega, Know.of ⟨rfl, rfl, ?_, rfl, rfl, trivial⟩, ⟨hM, fun q hq => ?_, hC.rest⟩⟩
     ·show Value.pointer (if i = 0 then none else some ⟨D.d (i - 1), 0, none⟩) = Value.pointer (if i + 1 = 0 then none else some ⟨D.d (i + 1 - 1), 0, none⟩)
      rw [if_neg hi0, if_neg (by omega), show i + 1 - 1 = i by omega, hde]
     ·obtain ⟨a1, a2, a3, a4, a6, a5⟩ := hC.tabs q hq
      refine ⟨a1, a2, a3, a4, a6, fun ⟨p, hp, e⟩ => a5 ?_⟩
      rcases Nat.lt_or_ge p i with h | h
      ·exact ⟨p, h, e⟩
      ·rw [show p = i by omega, hde] at e; exact ⟨i - 1, by omega, e⟩
    ·have hne : i = 0 ∨ D.d i ≠ D.d (i - 1) := by
      rcases Nat.eq_zero_or_pos i with h | h
      ·exact .inl h
      ·exact .inr fun e => hlast ⟨by omega, e⟩
     refine wp_seq_mid (fun f w => Know f [(0, .pointer (some ⟨bm, 0, none⟩)), (1, .pointer (some ⟨bty, 0, none⟩)), (6, .pointer (some ⟨D.d i, 0, none⟩)), (45, i64 (m.dirLen : Nat)), (46, i64 (i : Nat))] ∧ Mem w0 w S) ?_ ?_
     ·rcases hne with h0 | h0
      ·refine rs hM ?_
       refine mv ?_
       refine rw_move (v := .pointer none) rfl rfl (congrArg Value.pointer (if_pos h0)) ?_
       refine rw_bin rfl rfl rfl rfl (b_nil_eq (some _) Tryz.underlying101) ?_
       refine rw_nil ?_; intro w hM
       refine wp_if (tmp_lt rfl) rfl (by nofun) (fun hc => ?_)
       refine wp_skip ?_
       exact ⟨_, rfl, Know.of ⟨rfl, rfl, rfl, rfl, rfl, trivial⟩, hM⟩
      ·have hi0 : i ≠ 0 := fun e => h0 (by rw [e])
       have tp := (hC.tabs (i - 1) (by omega)).1
       refine rs hM ?_
       refine mv ?_
       refine rw_move (v := .pointer (some ⟨D.d (i - 1), 0, none⟩)) rfl rfl (congrArg Value.pointer (if_neg hi0)) ?_
       refine rw_ptrEq (j := Tryz.t158) Tryz.underlying101 (by kernel_rfl) (by decide) rfl rfl rfl rfl t1 tp ?_
       refine rw_nil ?_; intro w hM
       refine wp_if (tmp_lt rfl) rfl (fun hc => by rw [nat_beq_f.2 h0] at hc; cases hc) (fun hc => ?_)
       refine wp_skip ?_
       exact ⟨_, rfl, Know.of ⟨rfl, rfl, rfl, rfl, rfl, trivial⟩, hM⟩
     ·clear hM
      rintro f w ⟨⟨g2, rfl⟩, hM⟩
      have t2' : S (T (D.d i)).gb = some (encG (T (D.d i)).n (T (D.d i)).G) := by rw [t3.gb, t3.n]; exact t2
      refine rs hM ?_
      refine mv ?_
      refine mv ?_
      refine rw_callE cr78 rfl rfl (fun w hM => c78 hM t1 t2' t4) rfl (by nofun) ?_; rintro _ S12 ⟨rfl, G', hG1, hG2, hb12, hg12, hr12⟩
      refine rw_nil ?_; intro w hM
      refine re hM ?_
      refine mv ?_
      refine asg ?_
      refine rw_nil ?_; intro w hM
      simp only [Exit.then, Exit.inBlock]
      refine re hM ?_
      refine rw_bin (v := i64 ((i + 1 : Nat) : Int)) rfl rfl rfl rfl (bin_eq (b_addi (b := 1) (by omega) (by omega)) (congrArg i64 (by omega))) ?_
      refine mv ?_
      refine rw_nil ?_; intro w hM
      refine ⟨m.dirLen - (i + 1), _, rfl, by omega, i + 1, fun b => if b = D.d i then { T b with used := 0, gl := 7 * (T b).n, G := G' } else T b, S12, rfl, by omega, Know.of ⟨rfl, rfl, ?_, rfl, rfl, trivial⟩, ⟨hM, fun q hq => ?_, fun x u hx hxq => ?_⟩⟩
      ·show Value.pointer (some ⟨D.d i, 0, none⟩) = Value.pointer (if i + 1 = 0 then none else some ⟨D.d (i + 1 - 1), 0, none⟩)
       rw [if_neg (by omega), show i + 1 - 1 = i by omega]
      ·by_cases e : D.d q = D.d i
       ·have et : D.tab q = D.tab i := by unfold Dir.tab; rw [e]
        simp only [e, if_true, et]
        refine ⟨hb12, by rw [t3.gb, t3.n] at hg12; exact hg12, ⟨t3.n, t3.ld, t3.index, t3.gb⟩, t4.cleared hG1 hG2, ?_, fun _ => hG2⟩
        show 0 + 2 * cnt (isDel G') (8 * (T (D.d i)).n) ≤ _
        rw [cnt_zero fun s hs => by simp [isDel, hG2 s hs]]; exact Nat.zero_le _
       ·simp only [e, if_false]
        obtain ⟨a1, a2, a3, a4, a6, a5⟩ := hC.tabs q hq
        have hgq : (D.tab q).gb ≠ (T (D.d i)).gb := by rw [t3.gb]; exact fun h => e (hDok.gbs q i hq hi2 h)
        refine ⟨hr12 _ _ a1 e (ne_of_ty a1 t2' rfl rfl rfl), hr12 _ _ a2 (ne_of_ty a2 t1 rfl rfl rfl) hgq, a3, a4, a6, fun ⟨p, hp, e2⟩ => a5 ?_⟩
        rcases Nat.lt_or_ge p i with h | h
        ·exact ⟨p, h, e2⟩
        ·rw [show p = i by omega] at e2; exact absurd e2.symm e
      ·exact hr12 _ _ (hC.rest x u hx hxq) (hxq i hi2).1 (by rw [t3.gb]; exact (hxq i hi2).2)
   ·have hi : i = m.dirLen := by have := of_decide_eq_false hz; omega
    subst hi
    refine wp_exit ?_
    simp only [Exit.then, Exit.inBlock, if_true]
    refine rs hM ?_
    refine mv ?_
    refine nck ?_
    refine fa fr132_0 ?_
    refine rw_store1 (v := .int .u64 _) sz22 rfl rfl rfl rfl hbS rfl rfl (by nofun) (fun S15 hS15 kS15 => ?_)
    refine rw_nil ?_; intro w hM
    refine re hM ?_
    refine mv ?_
    refine nck ?_
    refine fa fr132_8 ?_
    refine rw_store1 (v := .bool _) sz4 rfl rfl rfl rfl hS15 rfl rfl (by nofun) (fun S16 hS16 kS16 => ?_)
    refine rw_nil ?_; intro w hM
    have hk16 : ∀ x, x ≠ bm → S16 x = S x := fun x hx => (kS16 _ hx).trans (kS15 _ hx)
    have hall : ∀ q, q < 2 ^ D.gd → SameTb (D.tab q) (T (D.d q)) ∧ TOK K (T (D.d q)) ∧ ∀ s, s < 8 * (T (D.d q)).n → (T (D.d q)).G.c s = 128 := fun q hq => by
     obtain ⟨a1, a2, a3, a4, a6, a5⟩ := hC.tabs q hq
     exact ⟨a3, a4, a5 ⟨q, by omega, rfl⟩⟩
    refine ⟨_, rfl, S16, { { { m with wr := 1 } with used := 0 } with tomb := false }, .big db { D with T := T }, Know.of ⟨rfl, rfl, trivial⟩, hM, ⟨hS16.trans rfl, ⟨hmb.gd, hmb.len, hmb.gs, hmb.small, hmb.dirp⟩, ⟨?_, fun q hq => ?_, fun q hq => ?_⟩, hDok.cleared hall, hgd40⟩, rfl, rfl, rfl, rfl, ⟨T, rfl, fun q hq => ⟨(hall q hq).1, (hall q hq).2.2⟩⟩, ?_, fun x u hx => ?_, fun N hN q hq => ?_, fun x u hx a b c => ?_⟩
    ·rw [hk16 _ (ne_of_ty hdS hbS rfl rfl rfl), hdS, hlen']
    ·rw [hk16 _ (ne_of_ty (hC.tabs q hq).1 hbS rfl rfl rfl)]; exact (hC.tabs q hq).1
    ·show S16 (T (D.d q)).gb = some (encG (T (D.d q)).n (T (D.d q)).G)
     rw [(hall q hq).1.gb, (hall q hq).1.n, hk16 _ (ne_of_ty (hC.tabs q hq).2.1 hbS rfl rfl rfl)]; exact (hC.tabs q hq).2.1
    ·rw [hk16 _ hbc.symm]; exact hC.rest _ _ hcb3 (fun q hq => ⟨ne_of_ty hcb3 (hAt.tabs q hq) rfl rfl rfl, ne_of_ty hcb3 (hAt.grs q hq) rfl rfl rfl⟩)
    ·rw [hk16 _ ((hEP x u hx).ne (hE _ _ hx) hb (.inl rfl))]; exact hC.rest _ _ (hE3 _ _ hx) (fun q hq => ⟨(hEP x u hx).ne (hE3 _ _ hx) (hAt.tabs q hq) (.inr (.inr (.inl rfl))), (hEP x u hx).ne (hE3 _ _ hx) (hAt.grs q hq) (.inr (.inl rfl))⟩)
    ·show 192 * ((T (D.d q)).ld - 12) + psi (T (D.d q)) ≤ N
     have h1 := hN q hq
     have h2 := (hC.tabs q hq).2.2.2.2.1
     rw [(hall q hq).1.ld]; omega
    ·rw [hk16 _ a]; exact hC.rest _ _ ((kS3 _ a).trans hx) (fun q hq => ⟨fun e => c (.inr ⟨q, hq, e⟩), b _ _ _ ⟨q, hq, rfl, rfl, rfl⟩⟩)
 ·rintro f w ⟨S, m2, V2, ⟨g1, rfl⟩, hM, hV2, hw2, hc2, ht2, hu2, hR2, hcbS, hES, hP2, hrS⟩
  have hbS := hV2.cell
  have hty := hES _ _ Ty.typ
  rw [R.val] at hty
  refine rs hM ?_
  refine mv ?_
  refine nck ?_
  refine fa fr132_9 ?_
  refine lo ld22 hbS ?_
  refine rw_bin rfl rfl rfl rfl (b_add64 _ 1) ?_
  refine nck ?_
  refine fa fr132_9 ?_
  refine rw_store1 (v := .int .u64 _) sz22 rfl rfl rfl rfl hbS rfl rfl (by nofun) (fun S17 hS17 kS17 => ?_)
  refine rw_nil ?_; intro w hM
  have hty17 := (kS17 _ (ne_of_ty hty hbS rfl rfl rfl)).trans hty
  have hES17 : E.le S17 := fun x u hx => (kS17 _ ((hEP x u hx).ne (hE _ _ hx) hb (.inl rfl))).trans (hES _ _ hx)
  have hcb17 := (kS17 _ hbc.symm).trans hcbS
  refine rs hM ?_
  refine mv ?_
  refine mv ?_
  refine nck ?_
  refine fa fr88_3 ?_
  refine lo ld69 hty17 ?_
  refine rw_callvE (captured := R.cr) R.run rfl rfl rfl (fun w hM => R.call hM hES17 hcb17 hn) rfl (by nofun) ?_; rintro _ S5 ⟨r, n', rfl, hr, hn', hcb5, hr5⟩
  refine nck ?_
  refine fa fr132_1 ?_
  refine rw_store1 (v := .int .u64 _) sz12 rfl rfl rfl rfl ((hr5 _ hbc).trans hS17) rfl rfl (by nofun) (fun S18 hS18 kS18 => ?_)
  refine rw_nil ?_; intro w hM
  refine wp_seq ?_
  refine rs hM ?_
  refine mv ?_
  refine nck ?_
  refine fa fr132_7 ?_
  refine lo ld5 hS18 ?_
  refine rw_bin rfl rfl rfl rfl (b_false (b_eq _ _) (by rw [hw2]; rfl)) ?_
  refine rw_nil ?_; intro w hM
  refine wp_if (tmp_lt rfl) rfl (by nofun) (fun hc => ?_)
  refine wp_skip ?_
  refine re hM ?_
  refine mv ?_
  refine nck ?_
  refine fa fr132_7 ?_
  refine lo ld5 hS18 ?_
  refine rw_bin (v := u8 0) rfl rfl rfl rfl (bin_eq (b_xor8 m2.wr 1 (by rw [hw2]; decide) (by decide)) (by rw [hw2]; rfl)) ?_
  refine nck ?_
  refine fa fr132_7 ?_
  refine rw_store1 (v := .int .u8 _) sz5 rfl rfl rfl rfl hS18 rfl rfl (by nofun) (fun S21 hS21 kS21 => ?_)
  refine rw_nil ?_; intro w hM
  have hk : ∀ x, x ≠ bm → x ≠ cb → S21 x = S x := fun x a b => by rw [kS21 _ a, kS18 _ a, hr5 _ b, kS17 _ a]
  refine post_none rfl ⟨_, S21, rfl, hM, rfl, { m2 with wr := 0, seed := r, tomb := m2.tomb, clr := (m2.clr + 1) % 2 ^ 64 }, V2, n', hn', ⟨?_, hwr.symm, ht2, hu2, .inr ⟨by show (m2.clr + 1) % 2 ^ 64 = _; rw [hc2], hR2⟩, ?_, hP2, fun x u hx a b c d => ?_⟩⟩
  ·refine hV2.cells' 0 r ((m2.clr + 1) % 2 ^ 64) m2.tomb (hS21.trans rfl) (fun x u hx a b => ?_)
   rw [hk _ a (fun e => by subst e; rw [hcbS] at hx; cases hx; exact b (encI_plain _))]; exact hx
  ·rw [kS21 _ hbc.symm, kS18 _ hbc.symm]; exact hcb5
  ·rw [hk _ a b]; exact hrS x u hx a c d
end
section
section
variable {P : Program} {ops : Array Oper} {sp br : List Nat} {d : Bool} {w0 : World} {K : Slots → World → Prop} {i : Nat} {rest : List Nat} {Hq H : Heap} {f : Slots}
variable {dst : Tmp} {ty : TypeId} {pos : String} {aft : Array Edge} {g : Option (Nat × Bool)}
/-- A call that adds to the heap, in a region that draws. -/
theorem rw_callD {k : FuncId} {args : Array Operand} {ats : Array TypeId} {vs : List Value} {dt : Option Tmp} {Φ : Value → Heap → Prop} (hk : CallRun P k) (ho : ops[i]? = some ⟨dt, .call ⟨.value (.func k), args, ats⟩, ty, pos, aft, g⟩) (hw : wantedS ops f ⟨dt, .call ⟨.value (.func k), args, ats⟩, ty, pos, aft, g⟩ = true)
  (hc : ∀ w, Mem w0 w H → Calls P k vs.toArray w (Gives w0 Φ)) (ha : args.toList.map (ev f) = vs) (hd : d = true → sp.contains i = true) (h : ∀ v S, Φ v S → Hq.le S ∧ RW P ops sp br d w0 K rest Hq S (f.setD dt v)) : RW P ops sp br d w0 K (i :: rest) Hq H f :=
 rw_call hk ho hw ha hd fun w hM => (hc w hM).mono fun _ _ ⟨v, S, he, h1, h2⟩ => ⟨v, he, Hq, S, fun _ _ => rfl, (h v S h2).1, h1, (h v S h2).2⟩
end
variable {w0 w : World} {H : Heap}
theorem isLen_ex {x : Nat} (h : x ≠ 0) : IsLen x (Nat.log2 x + 1) := ⟨Nat.lt_log2_self, .inr (by rw [Nat.add_sub_cancel]; exact Nat.log2_self_le h)⟩
theorem isLen_cap {c : Nat} (h8 : 8 ≤ c) (h : c ≤ 1024) : ∃ p, p ≤ 7 ∧ IsLen (c - 1) (p + 3) := by
 by_cases e : c = 8
 ·subst e; exact ⟨0, by decide, isLen_pow (p := 3)⟩
 ·have h1 := isLen_ex (x := c - 1) (by omega)
  have h2 : 3 ≤ Nat.log2 (c - 1) := (Nat.le_log2 (by omega)).2 (by omega)
  have h3 : Nat.log2 (c - 1) < 10 := (Nat.log2_lt (by omega)).2 (by omega)
  exact ⟨Nat.log2 (c - 1) + 1 - 3, by omega, by rw [show Nat.log2 (c - 1) + 1 - 3 + 3 = Nat.log2 (c - 1) + 1 by omega]; exact h1⟩
theorem isLen_dir {n : Nat} (h0 : 0 < n) (h : n ≤ 6) : ∃ L, L ≤ 3 ∧ IsLen (n - 1) L ∧ n ≤ 2 ^ L ∧ 2 ^ L < 2 * n := by
 have hn : n = 1 ∨ n = 2 ∨ n = 3 ∨ n = 4 ∨ n = 5 ∨ n = 6 := by omega
 rcases hn with rfl | rfl | rfl | rfl | rfl | rfl
 ·exact ⟨0, by decide, ⟨by decide, by decide⟩, by decide, by decide⟩
 ·exact ⟨1, by decide, ⟨by decide, by decide⟩, by decide, by decide⟩
 ·exact ⟨2, by decide, ⟨by decide, by decide⟩, by decide, by decide⟩
 ·exact ⟨2, by decide, ⟨by decide, by decide⟩, by decide, by decide⟩
 ·exact ⟨3, by decide, ⟨by decide, by decide⟩, by decide, by decide⟩
 ·exact ⟨3, by decide, ⟨by decide, by decide⟩, by decide, by decide⟩
/-- What a new map is. -/
def NewM (K : KT) (H : Heap) (bm cb : Nat) (S : Heap) : Prop := ∃ m V n', MapIs K S bm m V ∧ m.wr = 0 ∧ m.tomb = false ∧ m.used = 0 ∧ m.clr = 0 ∧ (∀ g s k e, ¬ V.live g s k e) ∧ V.Pot 0 ∧ S cb = some (encI n') ∧ n' ≤ 1 ∧ H bm = none ∧ ∀ x u, H x = some u → x ≠ cb → S x = some u
/-- The tables of a new map, i of them. -/
structure Making (w0 : World) (H : Heap) (L p nd dk : Nat) (i : Nat) (d : Nat → Nat) (T : Nat → Tb) (w : World) (S : Heap) : Prop where
 mem : Mem w0 w S
 dir : S dk = some (encD nd (fun j => if j < i then some ⟨d j, 0, none⟩ else none))
 tabs : ∀ j, j < i → S (d j) = some (encT (T (d j))) ∧ S (T (d j)).gb = some (encG (2 ^ p) emptyGr) ∧ T (d j) = newTb (2 ^ p) L (j : Nat) (T (d j)).gb
 dist : ∀ j k, j < i → k < i → (d j = d k ∨ (T (d j)).gb = (T (d k)).gb) → j = k
 rest : ∀ x u, H x = some u → x ≠ dk → S x = some u
 new : ∀ j, j < i → H (d j) = none
set_option maxHeartbeats 4000000 in
theorem c72 (hM : Mem w0 w H) (hDb : HasDb w0) {K : KT} {E : Heap} {bty cb hint : Nat} {nu : Bool} (hE : E.le H) (Ty : TypOK K w0 E bty nu) (R : Rnd w0 E cb Ty.rand) (hcb : H cb = some (encI 0)) (_ : E cb = none) (hh : hint ≤ 5000) :
  Calls Tryz.prog 72 [.pointer (some ⟨bty, 0, none⟩), u64 hint, .pointer none, u64 1099511627776].toArray w (Gives w0 fun v S => ∃ bm, v = .pointer (some ⟨bm, 0, none⟩) ∧ NewM K H bm cb S) := by
 refine calls_start Tryz.func72 rfl Tryz.ntmps72 (Nat.le_of_ble_eq_true rfl) ?_
 refine rs hM ?_
 refine asg ?_
 refine rw_nil ?_; intro w hM
 refine wp_seq ?_
 refine rs hM ?_
 refine mv ?_
 refine rw_bin rfl rfl rfl rfl (b_nil_eq none Tryz.underlying96) ?_
 refine rw_nil ?_; intro w hM
 refine wp_if (tmp_lt rfl) rfl (fun hc => ?_) (by nofun)
 refine re hM ?_
 refine rw_allocN Tryz.zeroValue132 rfl rfl (fun b19 G19 n19 l19 e19 k19 => ?_)
 refine asg ?_
 refine rw_nil ?_; intro w hM
 simp only [Exit.then]
 have hty := l19 _ _ (hE _ _ Ty.typ)
 rw [R.val] at hty
 have hbc : b19 ≠ cb := fun e => by rw [e, hcb] at n19; cases n19
 refine rs hM ?_
 refine mv ?_
 refine mv ?_
 refine nck ?_
 refine fa fr88_3 ?_
 refine lo ld69 hty ?_
 refine rw_callvE (captured := R.cr) R.run rfl rfl rfl (fun w hM => R.call hM (Heap.le_trans hE l19) (l19 _ _ hcb) (by decide)) rfl (by nofun) ?_; rintro _ S5 ⟨r, n', rfl, hr, hn', hcb5, hr5⟩
 refine nck ?_
 refine fa fr132_1 ?_
 refine rw_store1 (v := .int .u64 _) sz12 rfl rfl rfl rfl ((hr5 _ hbc).trans e19) rfl rfl (by nofun) (fun S3 hS3 kS3 => ?_)
 refine rw_nil ?_; intro w hM
 have hbm3 : S3 b19 = some (encM ⟨0, r, none, none, 0, 0, 0, 0, false, 0⟩) := by rw [hS3]; rfl
 have hcb3 := (kS3 _ hbc.symm).trans hcb5
 have hrest3 : ∀ x u, H x = some u → x ≠ cb → S3 x = some u := fun x u hx a => by
  have h1 := ne_of_none n19 hx
  rw [kS3 _ h1, hr5 _ a]; exact l19 _ _ hx
 refine wp_seq ?_
 refine rs hM ?_
 refine mv ?_
 refine rw_bin rfl rfl rfl rfl (b_le _ _) ?_
 refine rw_nil ?_; intro w hM
 refine wp_if (tmp_lt rfl) rfl (fun hc => ?_) (fun hc => ?_)
 ·refine rs hM ?_
  refine mv ?_
  refine asg ?_
  refine rw_nil ?_; intro w hM
  refine wp_ret ?_
  simp only [Exit.then]
  exact post_tmp (v := .pointer _) rfl rfl rfl ⟨_, S3, rfl, hM, b19, rfl, _, .nil, n', ⟨hbm3, rfl, rfl, rfl, rfl⟩, rfl, rfl, rfl, rfl, fun _ _ _ _ h => h, trivial, hcb3, by omega, n19, hrest3⟩
 have hh9 : 9 ≤ hint := by have : ¬ ((hint : Nat) : Int) ≤ 8 := of_decide_eq_false hc; omega
 refine wp_skip ?_
 obtain ⟨tc, htc⟩ : ∃ tc, tc = hint * 8 / 7 := ⟨_, rfl⟩
 obtain ⟨ds, hds⟩ : ∃ ds, ds = (tc + 1023) / 1024 := ⟨_, rfl⟩
 have htc1 : 10 ≤ tc ∧ tc ≤ 5715 := by omega
 have hds1 : 1 ≤ ds ∧ ds ≤ 6 := by omega
 obtain ⟨L, hL3, hL, hLn, hLn2⟩ := isLen_dir (n := ds) (by omega) hds1.2
 have hL8 : 2 ^ L ≤ 2 ^ 3 := Nat.pow_le_pow_right (by omega) hL3
 have hL1 : 1 ≤ 2 ^ L := Nat.one_le_two_pow
 have hcap8 : 8 ≤ tc / 2 ^ L := by
  rw [Nat.le_div_iff_mul_le (by omega)]
  rcases Nat.lt_or_ge ds 2 with h | h
  ·have : 2 ^ L = 1 := by omega
   omega
  ·omega
 have hcap1024 : tc / 2 ^ L ≤ 1024 := by
  have : tc ≤ 1024 * 2 ^ L := by omega
  calc tc / 2 ^ L ≤ 1024 * 2 ^ L / 2 ^ L := Nat.div_le_div_right this
   _ = 1024 := Nat.mul_div_cancel _ (by omega)
 obtain ⟨p, hp7, hp⟩ := isLen_cap hcap8 hcap1024
 have e0 : hint * 8 % 2 ^ 64 = hint * 8 := Nat.mod_eq_of_lt (by omega)
 have e1 : (tc + 1024) % 2 ^ 64 = tc + 1024 := Nat.mod_eq_of_lt (by omega)
 refine rs hM ?_
 refine mv ?_
 refine rw_bin rfl rfl rfl rfl (b_mul64 _ 8) ?_
 refine rw_bin (v := u64 tc) rfl rfl rfl rfl (bin_eq (b_quo64 (hint * 8 % 2 ^ 64) 7 (by decide) (Nat.mod_lt _ (by decide))) (congrArg u64 (by rw [e0]; exact htc.symm))) ?_
 refine asg ?_
 refine rw_nil ?_; intro w hM
 refine wp_seq ?_
 refine rs hM ?_
 refine mv ?_
 refine mv ?_
 refine rw_bin rfl rfl rfl rfl (b_false (b_lt _ _) (decide_eq_false (by omega))) ?_
 refine rw_nil ?_; intro w hM
 refine wp_if (tmp_lt rfl) rfl (by nofun) (fun hc => ?_)
 refine wp_skip ?_
 refine rs hM ?_
 refine mv ?_
 refine rw_bin rfl rfl rfl rfl (b_add64 _ 1024) ?_
 refine rw_bin rfl rfl rfl rfl (b_sub64_le _ 1 (by omega) (Nat.mod_lt _ (by decide))) ?_
 refine rw_bin (v := u64 ds) rfl rfl rfl rfl (bin_eq (b_quo64 ((tc + 1024) % 2 ^ 64 - 1) 1024 (by decide) (by omega)) (congrArg u64 (by rw [e1, hds]; rfl))) ?_
 refine asg ?_
 refine rw_nil ?_; intro w hM
 refine rs hM ?_
 refine mv ?_
 refine rw_callq cr80 rfl rfl (fun H' w hle hM => c80 hM (by omega) (by omega) hL (by omega)) rfl ?_
 refine mv ?_
 refine rw_extract rfl rfl rfl rfl ?_
 refine rw_extract rfl rfl rfl rfl ?_
 refine asg ?_
 refine asg ?_
 refine rw_nil ?_; intro w hM
 generalize hn : 2 ^ L = nd at *
 refine wp_seq ?_
 refine rs hM ?_
 refine mv ?_
 refine mv ?_
 refine mv ?_
 refine rw_bin rfl rfl rfl rfl (b_false (b_gt _ _) (decide_eq_false (by omega))) ?_
 refine rw_pick rfl rfl rfl rfl rfl ?_
 refine rw_nil ?_; intro w hM
 refine wp_if (tmp_lt rfl) rfl (by nofun) (fun hc => ?_)
 refine wp_skip ?_
 refine rs hM ?_
 refine mv ?_
 refine rw_callq cr81 rfl rfl (fun H' w hle hM => c81 (b := 1024) hM (by omega) (by omega) (by decide)) rfl ?_
 refine mv ?_
 refine rw_extract rfl rfl rfl rfl ?_
 refine rw_extract rfl rfl rfl rfl ?_
 refine asg ?_
 refine asg ?_
 refine rw_nil ?_; intro w hM
 refine wp_seq ?_
 refine rs hM ?_
 refine mv ?_
 refine rw_nil ?_; intro w hM
 refine wp_if (tmp_lt rfl) rfl (by nofun) (fun hc => ?_)
 refine rs hM ?_
 refine mv ?_
 refine rw_callq cr81 rfl rfl (fun H' w hle hM => c81 (b := 136) hM (by omega) (by omega) (by decide)) rfl ?_
 refine mv ?_
 refine rw_extract rfl rfl rfl rfl ?_
 refine rw_extract rfl rfl rfl rfl ?_
 refine asg ?_
 refine asg ?_
 refine rw_nil ?_; intro w hM
 refine rs hM ?_
 refine mv ?_
 refine mv ?_
 refine mv ?_
 refine mv ?_
 refine rw_bin rfl rfl rfl rfl (b_false (b_gt _ _) (decide_eq_false (by omega))) ?_
 refine rw_pick rfl rfl rfl rfl rfl ?_
 refine rw_nil ?_; intro w hM
 refine wp_if (tmp_lt rfl) rfl (by nofun) (fun hc => ?_)
 refine wp_skip ?_
 simp only [Exit.then]
 have h82 : nd &&& ((2 ^ 64 - nd) % 2 ^ 64) = 2 ^ L := by
  have key : ∀ L, L < 4 → 2 ^ L &&& ((2 ^ 64 - 2 ^ L) % 2 ^ 64) = 2 ^ L := by decide +kernel
  rw [← hn]; exact key L (by omega)
 refine rs hM ?_
 refine mv ?_
 refine mv ?_
 refine rw_callq cr82 rfl rfl (fun H' w hle hM => c82 (k := L) hM hDb (by omega) (by omega) (by omega) h82) rfl ?_
 refine rw_conv rfl rfl rfl (conv_eq (c_u8 Tryz.underlying3 Tryz.underlying5 _) (congrArg u8 (show L % 256 = L by omega))) ?_
 refine nck ?_
 refine fa fr132_5 ?_
 refine rw_store1 (v := .int .u8 _) sz5 rfl rfl rfl rfl hbm3 rfl rfl (by nofun) (fun S19 hS19 kS19 => ?_)
 refine rw_nil ?_; intro w hM
 have hbm19 : S19 b19 = some (encM ⟨0, r, none, none, 0, L, 0, 0, false, 0⟩) := by rw [hS19]; rfl
 refine rs hM ?_
 refine mv ?_
 refine mv ?_
 refine nck ?_
 refine fa fr132_5 ?_
 refine lo ld5 hbm19 ?_
 refine rw_callq cr83 rfl rfl (fun H' w hle hM => c83 (d := L) hM (by omega)) rfl ?_
 refine nck ?_
 refine fa fr132_6 ?_
 refine rw_store1 (v := .int .u8 _) sz5 rfl rfl rfl rfl hbm19 rfl rfl (by nofun) (fun S20 hS20 kS20 => ?_)
 refine rw_nil ?_; intro w hM
 have hbm20 : S20 b19 = some (encM ⟨0, r, none, none, 0, L, 64 - L, 0, false, 0⟩) := by rw [hS20]; rfl
 refine rs hM ?_
 refine mv ?_
 refine rw_makeN rowD rfl rfl rfl rfl (by omega) (by omega) (fun dk B ndk ldk edk kdk => ?_)
 refine asg ?_
 refine rw_nil ?_; intro w hM
 rw [madeCells_nil] at edk
 refine wp_seq ?_
 refine rs hM ?_
 refine mv ?_
 refine rw_len Tryz.underlying130 rfl rfl rfl ?_
 refine mv ?_
 refine rw_nil ?_; intro w hM
 have hbmB := ldk _ _ hbm20
 refine wp_block ?_
 refine wp_loop_s (fun k f w => ∃ i d T S, k = nd - i ∧ i ≤ nd ∧ Know f [(0, .pointer (some ⟨bty, 0, none⟩)), (2, .pointer (some ⟨b19, 0, none⟩)), (9, u64 tc), (10, u64 nd), (15, .slice (some ⟨dk, 0, none⟩) nd nd), (89, i64 (nd : Nat)), (90, i64 (i : Nat))] ∧ Making w0 B L p nd dk i d T w S) (nd - 0) ?_ ?_
 ·refine ⟨0, fun j => j, fun _ => newTb 1 0 0 0, B, rfl, by omega, Know.of ⟨rfl, rfl, rfl, rfl, rfl, rfl, rfl, trivial⟩, ⟨hM, edk, fun j hj => by omega, fun j k hj => by omega, fun _ _ hx _ => hx, fun j hj => by omega⟩⟩
 clear hM
 rintro k f w ⟨i, d, T, S, rfl, hi', ⟨g1, rfl⟩, hK⟩
 have hM := hK.mem
 have hbk : b19 ≠ dk := ne_of_ty hbmB edk rfl rfl rfl
 have hbS : S b19 = some (encM ⟨0, r, none, none, 0, L, 64 - L, 0, false, 0⟩) := hK.rest _ _ hbmB hbk
 refine rs hM ?_
 refine rw_bin rfl rfl rfl rfl (b_lt _ _) ?_
 refine rw_nil ?_; intro w hM
 refine wp_seq ?_
 refine wp_if (tmp_lt rfl) rfl (fun hz => ?_) (fun hz => ?_)
 ·have hi : i < nd := by have := of_decide_eq_true hz; omega
  refine wp_skip ?_
  refine wp_seq ?_
  refine wp_block ?_
  refine rs hM ?_
  refine mv ?_
  refine asg ?_
  refine rw_nil ?_; intro w hM
  have hdS := hK.dir
  have hdd : tc / nd < 2 ^ 64 := by omega
  refine wp_mix_end [11, 13] [13] [0, 1, 2, 3, 4, 5, 6, 7, 8, 9, 10, 11, 12, 13] S mixed (by kernel_rfl) (Heap.le_refl _) hM ?_
  refine mv ?_
  refine mv ?_
  refine mv ?_
  refine mv ?_
  refine mv ?_
  refine rw_bin rfl rfl rfl rfl (b_quo64 _ _ (by omega) (by omega)) ?_
  refine mv ?_
  refine mv ?_
  refine nck ?_
  refine fa fr132_5 ?_
  refine lo ld5 hbS ?_
  refine rw_callD cr84 rfl rfl (fun w hM => c84 (p := p) hM hcap8 hcap1024 hp hp7) rfl (fun _ => rfl) ?_; rintro _ S5 ⟨b, gb, rfl, nb, ng, hne, hb5, hg5, hle5⟩; refine ⟨hle5, ?_⟩
  refine rw_indexAddr rfl rfl rfl rfl (x_slice Tryz.underlying130 sz101 hi) ?_
  refine rw_storeE (v := .pointer (some ⟨b, 0, none⟩)) sz101 rfl rfl rfl rfl (hle5 _ _ hdS) (arrD_set hi) (by rw [arrD_size]; omega) rfl (fun _ => ⟨rfl, rfl⟩) (fun S25 hS25 kS25 => ?_)
  refine rw_nil ?_; intro w hM
  simp only [Exit.then, Exit.inBlock]
  refine re hM ?_
  refine rw_bin (v := i64 ((i + 1 : Nat) : Int)) rfl rfl rfl rfl (bin_eq (b_addi (b := 1) (by omega) (by omega)) (congrArg i64 (by omega))) ?_
  refine mv ?_
  refine rw_nil ?_; intro w hM
  have hdj : ∀ j, j < i → d j ≠ b := fun j hj => ne_of_none nb (hK.tabs j hj).1
  have hgj : ∀ j, j < i → (T (d j)).gb ≠ gb := fun j hj => ne_of_none ng (hK.tabs j hj).2.1
  have hdb : b ≠ dk := fun e => by rw [e, hdS] at nb; cases nb
  have hdg : gb ≠ dk := fun e => by rw [e, hdS] at ng; cases ng
  refine ⟨nd - (i + 1), _, rfl, by omega, i + 1, fun j => if j = i then b else d j, fun x => if x = b then newTb (2 ^ p) L (i : Nat) gb else T x, S25, rfl, by omega, Know.of ⟨rfl, rfl, rfl, rfl, rfl, rfl, rfl, trivial⟩, ⟨hM, ?_, fun j hj => ?_, fun j k hj hk he => ?_, fun x u hx hxd => ?_, fun j hj => ?_⟩⟩
  ·rw [hS25]
   have : (fun j => if j = i then some (⟨b, 0, none⟩ : Addr) else if j < i then some ⟨d j, 0, none⟩ else none) = fun j => if j < i + 1 then some ⟨if j = i then b else d j, 0, none⟩ else none := by
    funext j
    by_cases e : j = i
    ·rw [if_pos e, if_pos (by omega), if_pos e]
    ·rw [if_neg e]
     by_cases e2 : j < i
     ·rw [if_pos e2, if_pos (by omega), if_neg e]
     ·rw [if_neg e2, if_neg (by omega)]
   rw [this]; rfl
  ·by_cases e : j = i
   ·subst e
    simp only [if_true]
    refine ⟨(kS25 _ hdb).trans hb5, (kS25 _ hdg).trans hg5, rfl⟩
   ·have hj' : j < i := by omega
    simp only [if_neg e, if_neg (hdj j hj')]
    obtain ⟨a1, a2, a3⟩ := hK.tabs j hj'
    refine ⟨(kS25 _ (ne_of_ty a1 hdS rfl rfl rfl)).trans (hle5 _ _ a1), (kS25 _ (ne_of_ty a2 hdS rfl rfl rfl)).trans (hle5 _ _ a2), a3⟩
  ·by_cases e1 : j = i <;> by_cases e2 : k = i
   ·omega
   ·have hk' : k < i := by omega
    simp only [e1, if_true, if_neg e2, if_neg (hdj k hk')] at he
    rcases he with h | h
    ·exact absurd h.symm (hdj k hk')
    ·exact absurd h.symm (hgj k hk')
   ·have hj' : j < i := by omega
    simp only [e2, if_true, if_neg e1, if_neg (hdj j hj')] at he
    rcases he with h | h
    ·exact absurd h (hdj j hj')
    ·exact absurd h (hgj j hj')
   ·have hj' : j < i := by omega
    have hk' : k < i := by omega
    simp only [if_neg e1, if_neg e2, if_neg (hdj j hj'), if_neg (hdj k hk')] at he
    exact hK.dist j k hj' hk' he
  ·exact (kS25 _ hxd).trans (hle5 _ _ (hK.rest x u hx hxd))
  ·by_cases e : j = i
   ·simp only [e, if_true]
    cases hx : B b with
    | none => rfl
    | some u =>
     have hxd : b ≠ dk := hdb
     rw [hK.rest b u hx hxd] at nb; cases nb
   ·simp only [if_neg e]; exact hK.new j (by omega)
 ·have hi : i = nd := by have := of_decide_eq_false hz; omega
  subst hi
  refine wp_exit ?_
  simp only [Exit.then, Exit.inBlock, if_true]
  refine rs hM ?_
  refine mv ?_
  refine mv ?_
  refine mv ?_
  refine nck ?_
  refine fa fr132_2 ?_
  refine rw_store1 (v := .pointer _) sz102 rfl rfl rfl rfl hbS rfl rfl (by nofun) (fun S27 hS27 kS27 => ?_)
  refine nck ?_
  refine fa fr132_3 ?_
  refine rw_store1 (v := .slice _ _ _) sz130 rfl rfl rfl rfl hS27 rfl rfl (by nofun) (fun S27b hS27b kS27b => ?_)
  refine rw_nil ?_; intro w hM
  refine rs hM ?_
  refine mv ?_
  refine mv ?_
  refine rw_len Tryz.underlying130 rfl rfl rfl ?_
  refine nck ?_
  refine fa fr132_4 ?_
  refine rw_store1 (v := .int .i64 _) sz3 rfl rfl rfl rfl hS27b rfl rfl (by nofun) (fun S28 hS28 kS28 => ?_)
  refine rw_nil ?_; intro w hM
  refine rs hM ?_
  refine mv ?_
  refine asg ?_
  refine rw_nil ?_; intro w hM
  refine wp_ret ?_
  have hk : ∀ x, x ≠ b19 → S28 x = S x := fun x hx => by rw [kS28 _ hx, kS27b _ hx, kS27 _ hx]
  have hB : ∀ x u, H x = some u → x ≠ cb → B x = some u := fun x u hx a => by
   have h1 := ne_of_none n19 hx
   exact ldk _ _ ((kS20 _ h1).trans ((kS19 _ h1).trans (hrest3 x u hx a)))
  have hcbB : B cb = some (encI n') := ldk _ _ ((kS20 _ hbc.symm).trans ((kS19 _ hbc.symm).trans hcb3))
  have hcd : cb ≠ dk := ne_of_ty hcbB edk rfl rfl rfl
  have hempty : ∀ j, j < i → ∀ s, (T (d j)).G.c s = 128 := fun j hj s => by rw [(hK.tabs j hj).2.2]; rfl
  have hb0 : ∀ j, base L L j = j := fun j => by unfold base; simp
  have hDok : Dir.OK K ⟨L, d, T⟩ := by
   refine ⟨⟨fun j hj => ?_, fun j hj => ?_, fun j k hj hk e => ?_⟩, fun j hj => ?_, fun j k hj hk e => ?_, fun j s hj hs hf => ?_, by show L ≤ 60; omega⟩
   ·have hj' : j < i := by rw [← hn]; exact hj
    show (T (d j)).ld ≤ L; rw [(hK.tabs j hj').2.2]; exact Nat.le_refl _
   ·have hj' : j < i := by rw [← hn]; exact hj
    have h1 : (T (d j)).ld = L := by rw [(hK.tabs j hj').2.2]; rfl
    have h2 : (T (d j)).index = (j : Nat) := by rw [(hK.tabs j hj').2.2]; rfl
    show (T (d j)).index = ((base L (T (d j)).ld j : Nat) : Int)
    rw [h1, h2, hb0]
   ·have hj' : j < i := by rw [← hn]; exact hj
    have h1 : (T (d j)).ld = L := by rw [(hK.tabs j hj').2.2]; rfl
    have e' : base L (T (d j)).ld j = base L (T (d j)).ld k := e
    rw [h1, hb0, hb0] at e'; rw [e']
   ·have hj' : j < i := by rw [← hn]; exact hj
    show TOK K (T (d j)); rw [(hK.tabs j hj').2.2]; exact newTb_ok K hp7
   ·have hj' : j < i := by rw [← hn]; exact hj
    have hk' : k < i := by rw [← hn]; exact hk
    show d j = d k
    rw [hK.dist j k hj' hk' (.inr e)]
   ·have hj' : j < i := by rw [← hn]; exact hj
    have hf' : (T (d j)).G.c s < 128 := hf
    have := hempty j hj' s; omega
  refine post_tmp (v := .pointer _) rfl rfl rfl ⟨_, S28, rfl, hM, b19, rfl, ⟨0, r, none, some ⟨dk, 0, none⟩, i, L, 64 - L, 0, false, 0⟩, .big dk ⟨L, d, T⟩, n', ⟨hS28.trans rfl, ⟨rfl, hn.symm, rfl, rfl, rfl⟩, ⟨?_, fun j hj => ?_, fun j hj => ?_⟩, hDok, by show L ≤ 40; omega⟩, rfl, rfl, rfl, rfl, ?_, fun j hj => ?_, ?_, by omega, n19, fun x u hx a => ?_⟩
  ·show S28 dk = some (encD (2 ^ L) _)
   rw [hk _ hbk.symm, hK.dir, hn]
   refine congrArg some (encD_congr fun j hj => ?_)
   rw [if_pos hj]
  ·have hj' : j < i := by rw [← hn]; exact hj
   show S28 (d j) = some (encT (T (d j)))
   rw [hk _ (ne_of_ty (hK.tabs j hj').1 hbS rfl rfl rfl)]; exact (hK.tabs j hj').1
  ·have hj' : j < i := by rw [← hn]; exact hj
   show S28 (T (d j)).gb = some (encG (T (d j)).n (T (d j)).G)
   have h1 : (T (d j)).n = 2 ^ p := by rw [(hK.tabs j hj').2.2]; rfl
   have h2 : (T (d j)).G = emptyGr := by rw [(hK.tabs j hj').2.2]; rfl
   rw [h1, h2, hk _ (ne_of_ty (hK.tabs j hj').2.1 hbS rfl rfl rfl)]; exact (hK.tabs j hj').2.1
  ·rintro g s k' e ⟨j, hj, _, _, hf, _⟩
   have hj' : j < i := by rw [← hn]; exact hj
   have hf' : (T (d j)).G.c s < 128 := hf
   have := hempty j hj' s; omega
  ·have hj' : j < i := by rw [← hn]; exact hj
   show 192 * ((T (d j)).ld - 12) + psi (T (d j)) ≤ 0
   have h1 : (T (d j)).ld = L := by rw [(hK.tabs j hj').2.2]; rfl
   have h2 : psi (T (d j)) = 0 := by
    unfold psi
    have : (T (d j)).used = 0 := by rw [(hK.tabs j hj').2.2]; rfl
    rw [this, cnt_zero fun s hs => by simp [isDel, hempty j hj' s]]
   rw [h1, h2]; omega
  ·rw [hk _ hbc.symm]; exact hK.rest _ _ hcbB hcd
  ·have h1 := ne_of_none n19 hx
   have hxB := hB x u hx a
   have hxd : x ≠ dk := fun e => by
    subst e
    have h2 : S20 x = some u := (kS20 _ h1).trans ((kS19 _ h1).trans (hrest3 x u hx a))
    rw [h2] at ndk; cases ndk
   rw [hk _ h1]; exact hK.rest _ _ hxB hxd
end
section
variable {w0 w : World} {H : Heap}
/-- An iterator's cells. -/
structure ItV where
 key : Option Addr
 elem : Option Addr
 typ : Option Addr
 m : Option Addr
 eo : Nat
 off : Nat
 clr : Nat
 gd : Nat
 di : Int
 tab : Option Addr
 grp : Option Addr
 ei : Nat
def encIt (i : ItV) : Obj := .cells #[.pointer i.key, .pointer i.elem, .pointer i.typ, .pointer i.m, u64 i.eo, u64 i.off, u64 i.clr, u8 i.gd, i64 i.di, .pointer i.tab, .pointer i.grp, u64 i.ei] 108 (0, 0)
def zeroIt : ItV := ⟨none, none, none, none, 0, 0, 0, 0, 0, none, none, 0⟩
def initIt (bty bm : Nat) (m : Mp) (r1 r2 : Nat) : ItV := ⟨none, none, some ⟨bty, 0, none⟩, some ⟨bm, 0, none⟩, r1, r2, m.clr, m.gd, if m.dirLen = 0 then -1 else 0, none, if m.dirLen = 0 then m.small else none, 0⟩
set_option maxHeartbeats 2000000 in
theorem c67 (hM : Mem w0 w H) {E : Heap} {K : KT} {bty cb n b bm : Nat} {nu : Bool} (hE : E.le H) (Ty : TypOK K w0 E bty nu) (R : Rnd w0 E cb Ty.rand) (hcb : H cb = some (encI n)) (hn : n + 1 < 2 ^ 62) {m : Mp} (hb : H b = some (encIt zeroIt)) (hbE : E b = none) (hEc : E cb = none) (hm : H bm = some (encM m)) :
  Calls Tryz.prog 67 [.pointer (some ⟨b, 0, none⟩), .pointer (some ⟨bty, 0, none⟩), .pointer (some ⟨bm, 0, none⟩)].toArray w (Gives w0 fun v S => v = .tuple #[] ∧ ∃ n', n' ≤ n + 2 ∧ S cb = some (encI n') ∧ (∀ x u, H x = some u → x ≠ cb → x ≠ b → S x = some u) ∧
   ((m.used = 0 ∧ S b = some (encIt { zeroIt with typ := some ⟨bty, 0, none⟩ })) ∨ (m.used ≠ 0 ∧ ∃ r1 r2, r1 < 2 ^ 64 ∧ r2 < 2 ^ 64 ∧ S b = some (encIt (initIt bty bm m r1 r2))))) := by
 have hbm : bm ≠ b := ne_of_ty hm hb rfl rfl rfl
 have hbc : b ≠ cb := ne_of_ty hb hcb rfl rfl rfl
 have hmc : bm ≠ cb := ne_of_ty hm hcb rfl rfl rfl
 refine calls_start Tryz.func67 rfl Tryz.ntmps67 (Nat.le_of_ble_eq_true rfl) ?_
 refine rs hM ?_
 refine mv ?_
 refine mv ?_
 refine nck ?_
 refine fa fr106_2 ?_
 refine rw_store1 (v := .pointer _) sz82 rfl rfl rfl rfl hb rfl rfl (by nofun) (fun S0 hS0 kS0 => ?_)
 refine rw_nil ?_; intro w hM
 have hm0 := (kS0 _ hbm).trans hm
 have hcb0 := (kS0 _ hbc.symm).trans hcb
 have hE0 : E.le S0 := fun x u hx => (kS0 _ (ne_of_none hbE hx)).trans (hE _ _ hx)
 have hr0 : ∀ x u, H x = some u → x ≠ cb → x ≠ b → S0 x = some u := fun x u hx _ a => (kS0 _ a).trans hx
 by_cases hu : m.used = 0
 ·refine wp_seq ?_
  refine rs hM ?_
  refine mv ?_
  refine rw_bin rfl rfl rfl rfl (b_nil_eq (some _) Tryz.underlying96) ?_
  refine mv ?_
  refine mv ?_
  refine nck ?_
  refine fa fr132_0 ?_
  refine lo ld22 hm0 ?_
  refine rw_bin rfl rfl rfl rfl (b_true (b_eq _ _) (by rw [hu]; rfl)) ?_
  refine rw_pick rfl rfl rfl rfl rfl ?_
  refine rw_nil ?_; intro w hM
  refine wp_if (tmp_lt rfl) rfl (fun hc => ?_) (by nofun)
  refine wp_ret ?_
  simp only [Exit.then]
  exact post_none' rfl ⟨_, S0, rfl, hM, rfl, n, by omega, hcb0, hr0, .inl ⟨hu, hS0.trans rfl⟩⟩
 refine wp_seq ?_
 refine rs hM ?_
 refine mv ?_
 refine rw_bin rfl rfl rfl rfl (b_nil_eq (some _) Tryz.underlying96) ?_
 refine mv ?_
 refine mv ?_
 refine nck ?_
 refine fa fr132_0 ?_
 refine lo ld22 hm0 ?_
 refine rw_bin rfl rfl rfl rfl (b_false (b_eq _ _) (nz (by omega))) ?_
 refine rw_pick rfl rfl rfl rfl rfl ?_
 refine rw_nil ?_; intro w hM
 refine wp_if (tmp_lt rfl) rfl (by nofun) (fun hc => ?_)
 refine wp_skip ?_
 refine rs hM ?_
 refine asg ?_
 refine rw_nil ?_; intro w hM
 refine rs hM ?_
 refine rw_allocN Tryz.zeroValue104 rfl rfl (fun b7 G7 n7 l7 e7 k7 => ?_)
 refine rw_nil ?_; intro w hM
 have hbS0 : S0 b = some (encIt { zeroIt with typ := some ⟨bty, 0, none⟩ }) := hS0.trans rfl
 have d7 : ∀ x u, S0 x = some u → x ≠ b7 := fun x u hx => ne_of_none n7 hx
 refine wp_seq_mid (fun f w => ∃ S, Know f [(0, .pointer (some ⟨b, 0, none⟩)), (1, .pointer (some ⟨bty, 0, none⟩)), (2, .pointer (some ⟨bm, 0, none⟩)), (6, i64 (if m.dirLen = 0 then -1 else 0)), (7, .pointer (some ⟨b7, 0, none⟩))] ∧ Mem w0 w S ∧ S0.le S ∧ S b7 = some (.cells #[.pointer (if m.dirLen = 0 then m.small else none)] 104 (0, 0))) ?_ ?_
 ·by_cases hd : m.dirLen = 0
  ·refine rs hM ?_
   refine mv ?_
   refine nck ?_
   refine fa fr132_4 ?_
   refine lo ld3 (l7 _ _ hm0) ?_
   refine rw_bin rfl rfl rfl rfl (b_true (b_le _ _) (decide_eq_true (by rw [hd]; decide))) ?_
   refine rw_nil ?_; intro w hM
   refine wp_if (tmp_lt rfl) rfl (fun hc => ?_) (by nofun)
   refine rs hM ?_
   refine asg ?_
   refine rw_nil ?_; intro w hM
   refine re hM ?_
   refine mv ?_
   refine nck ?_
   refine fa fr132_2 ?_
   refine lo ld102 (l7 _ _ hm0) ?_
   refine fa fr104_0 ?_
   refine rw_store1 (v := .pointer _) sz102 rfl rfl rfl rfl e7 rfl rfl (by nofun) (fun S6 hS6 kS6 => ?_)
   refine rw_nil ?_; intro w hM
   refine ⟨_, rfl, S6, Know.of ⟨rfl, rfl, rfl, ?_, rfl, trivial⟩, hM, le_keep l7 n7 kS6, ?_⟩
   ·rw [if_pos hd]; rfl
   ·rw [hS6, if_pos hd]; rfl
  ·refine rs hM ?_
   refine mv ?_
   refine nck ?_
   refine fa fr132_4 ?_
   refine lo ld3 (l7 _ _ hm0) ?_
   refine rw_bin rfl rfl rfl rfl (b_false (b_le _ _) (decide_eq_false (by omega))) ?_
   refine rw_nil ?_; intro w hM
   refine wp_if (tmp_lt rfl) rfl (by nofun) (fun hc => ?_)
   refine wp_skip ?_
   refine ⟨_, rfl, G7, Know.of ⟨rfl, rfl, rfl, ?_, rfl, trivial⟩, hM, l7, ?_⟩
   ·rw [if_neg hd]; rfl
   ·rw [e7, if_neg hd]; rfl
 ·clear hM
  rintro f w ⟨S, ⟨g0, rfl⟩, hM, hle, hg7⟩
  generalize hdi : (if m.dirLen = 0 then (-1 : Int) else 0) = di
  generalize hgp : (if m.dirLen = 0 then m.small else none) = gp at hg7
  have hbS := hle _ _ hbS0
  have hty := hE0 _ _ Ty.typ
  rw [R.val] at hty
  have hb7b : b7 ≠ b := (d7 _ _ hbS0).symm
  have hb7c : b7 ≠ cb := (d7 _ _ hcb0).symm
  have htyb : bty ≠ b := ne_of_ty hty hbS0 rfl rfl rfl
  have htyc : bty ≠ cb := ne_of_ty hty hcb0 rfl rfl rfl
  refine rs hM ?_
  refine mv ?_
  refine mv ?_
  refine nck ?_
  refine fa fr106_3 ?_
  refine rw_store1 (v := .pointer _) sz96 rfl rfl rfl rfl hbS rfl rfl (by nofun) (fun S7 hS7 kS7 => ?_)
  refine rw_nil ?_; intro w hM
  have hE7 : E.le S7 := fun x u hx => (kS7 _ (ne_of_none hbE hx)).trans (hle _ _ (hE0 _ _ hx))
  have hty7 := (kS7 _ htyb).trans (hle _ _ hty)
  have hcb7 := (kS7 _ hbc.symm).trans (hle _ _ hcb0)
  refine rs hM ?_
  refine mv ?_
  refine mv ?_
  refine nck ?_
  refine fa fr88_3 ?_
  refine lo ld69 hty7 ?_
  refine rw_callvE (captured := R.cr) R.run rfl rfl rfl (fun w hM => R.call hM hE7 hcb7 (by omega)) rfl (by nofun) ?_; rintro _ X5 ⟨r1, n1, rfl, hr1, hn1, hcx, hrx⟩
  refine nck ?_
  refine fa fr106_4 ?_
  refine rw_store1 (v := .int .u64 _) sz22 rfl rfl rfl rfl ((hrx _ hbc).trans hS7) rfl rfl (by nofun) (fun S8 hS8 kS8 => ?_)
  refine rw_nil ?_; intro w hM
  have hEx : E.le S8 := fun x u hx => by
   rw [kS8 _ (ne_of_none hbE hx), hrx _ (ne_of_none hEc hx)]; exact hE7 _ _ hx
  have hty8 := (kS8 _ htyb).trans ((hrx _ htyc).trans hty7)
  have hcb8 := (kS8 _ hbc.symm).trans hcx
  refine rs hM ?_
  refine mv ?_
  refine mv ?_
  refine nck ?_
  refine fa fr88_3 ?_
  refine lo ld69 hty8 ?_
  refine rw_callvE (captured := R.cr) R.run rfl rfl rfl (fun w hM => R.call hM hEx hcb8 (by omega)) rfl (by nofun) ?_; rintro _ Y5 ⟨r2, n2, rfl, hr2, hn2, hcy, hry⟩
  refine nck ?_
  refine fa fr106_5 ?_
  refine rw_store1 (v := .int .u64 _) sz22 rfl rfl rfl rfl ((hry _ hbc).trans hS8) rfl rfl (by nofun) (fun S9 hS9 kS9 => ?_)
  refine rw_nil ?_; intro w hM
  have hk9 : ∀ x, x ≠ b → x ≠ cb → S9 x = S x := fun x a c => by rw [kS9 _ a, hry _ c, kS8 _ a, hrx _ c, kS7 _ a]
  have hm9 := (hk9 _ hbm hmc).trans (hle _ _ hm0)
  have hg79 := (hk9 _ hb7b hb7c).trans hg7
  refine rs hM ?_
  refine mv ?_
  refine mv ?_
  refine nck ?_
  refine fa fr132_5 ?_
  refine lo ld5 hm9 ?_
  refine nck ?_
  refine fa fr106_7 ?_
  refine rw_store1 (v := .int .u8 _) sz5 rfl rfl rfl rfl hS9 rfl rfl (by nofun) (fun S10 hS10 kS10 => ?_)
  refine rw_nil ?_; intro w hM
  refine rs hM ?_
  refine mv ?_
  refine mv ?_
  refine nck ?_
  refine fa fr106_8 ?_
  refine rw_store1 (v := .int .i64 _) sz3 rfl rfl rfl rfl hS10 rfl rfl (by nofun) (fun S11 hS11 kS11 => ?_)
  refine rw_nil ?_; intro w hM
  have hg711 := (kS11 _ hb7b).trans ((kS10 _ hb7b).trans hg79)
  refine rs hM ?_
  refine mv ?_
  refine rw_loadA [.pointer _] ld104 rfl rfl rfl hg711 rfl ?_
  refine nck ?_
  refine fa fr106_10 ?_
  refine rw_store (v := .agg #[.pointer _]) sz104 rfl rfl rfl rfl hS11 rfl rfl rfl (by nofun) (fun S12 hS12 kS12 => ?_)
  refine rw_nil ?_; intro w hM
  have hm12 := (kS12 _ hbm).trans ((kS11 _ hbm).trans ((kS10 _ hbm).trans hm9))
  refine re hM ?_
  refine mv ?_
  refine mv ?_
  refine nck ?_
  refine fa fr132_9 ?_
  refine lo ld22 hm12 ?_
  refine nck ?_
  refine fa fr106_6 ?_
  refine rw_store1 (v := .int .u64 _) sz22 rfl rfl rfl rfl hS12 rfl rfl (by nofun) (fun S13 hS13 kS13 => ?_)
  refine rw_nil ?_; intro w hM
  have hk13 : ∀ x, x ≠ b → S13 x = S9 x := fun x a => by rw [kS13 _ a, kS12 _ a, kS11 _ a, kS10 _ a]
  refine post_none rfl ⟨_, S13, rfl, hM, rfl, n2, by omega, ?_, fun x u hx a c => ?_, .inr ⟨hu, r1, r2, hr1, hr2, ?_⟩⟩
  ·rw [hk13 _ hbc.symm, kS9 _ hbc.symm]; exact hcy
  ·rw [hk13 _ c, hk9 _ c a]; exact hle _ _ (hr0 x u hx a c)
  ·rw [hS13]; unfold initIt; rw [hdi, hgp]; rfl
end
end Go.Proofs.YtddpfkcofmfmpaaGreatDoor
