/-
  Deleting from a table. Conditions stand in each contract. Putting into and deleting from a small map. Conditions stand in each contract. Plain theory of one table: tombstones turned into empty slots. Conditions stand in each lemma. Counting: the slots of a set, a table's tombstones. Conditions stand in each contract.
  Conditions stand in each lemma.
-/
import Derived.Test.YtddpfkcofmfmpaaGreatDoorQ05
namespace Go.Proofs.YtddpfkcofmfmpaaGreatDoor
open Go Go.RowKit
set_option maxRecDepth 20000
section
variable {w0 w : World} {H : Heap}
theorem upd3_le {H S : Heap} {a b c : Nat} {oa ob oc : Obj} (h1 : S a = some oa) (h2 : S b = some ob) (h3 : S c = some oc) (h : ∀ x u, H x = some u → x ≠ a → x ≠ b → x ≠ c → S x = some u) (n1 : a ≠ b) (n2 : a ≠ c) (n3 : b ≠ c) : (((H.upd a oa).upd b ob).upd c oc).le S := fun x u e => by
 by_cases ec : x = c
 ·subst ec; rw [Heap.upd_same] at e; cases e; exact h3
 ·rw [Heap.upd_ne _ _ ec] at e
  by_cases eb : x = b
  ·subst eb; rw [Heap.upd_same] at e; cases e; exact h2
  ·rw [Heap.upd_ne _ _ eb] at e
   by_cases ea : x = a
   ·subst ea; rw [Heap.upd_same] at e; cases e; exact h1
   ·rw [Heap.upd_ne _ _ ea] at e; exact h x u e ea eb ec
/-- What is left in the slot of an entry that is taken away. -/
def gone (G : Gr) (g : Nat) : Nat := if bsw (mk8 fun q => (G.at g q).testBit 7 && !(G.at g q).testBit 1) != (0 : Int) then 128 else 254
theorem gone_ok {K : KT} {n g : Nat} {G : Gr} (hS : SlotsOK K n G) (hg : g < n) : (gone G g = 128 ∧ ¬ G.packed g) ∨ (gone G g = 254 ∧ G.packed g) := by
 unfold gone
 cases h : (bsw (mk8 fun q => (G.at g q).testBit 7 && !(G.at g q).testBit 1) != (0 : Int)) with
 | true => exact .inl ⟨by simp, empty_mask hS hg h⟩
 | false => exact .inr ⟨by simp, empty_mask0 hS hg h⟩
/-- A table with the entry of slot s taken away. -/
def Tb.del (t : Tb) (s : Nat) : Tb := { t with used := t.used - 1, gl := if gone t.G (s / 8) = 128 then t.gl + 1 else t.gl, G := (t.G.setE s 0).setC s (gone t.G (s / 8)) }
/-- What Delete leaves. -/
def Deleted (w0 : World) (H : Heap) (b bm : Nat) (t : Tb) (m : Mp) (o : Option Nat) : Ending → World → Prop := fun r w' =>
 match o with
 | none => r = .returned (.bool false) ∧ Mem w0 w' H
 | some s => r = .returned (.bool (gone t.G (s / 8) != 128)) ∧ Mem w0 w' (((H.upd b (encT (t.del s))).upd bm (encM { m with used := m.used - 1 })).upd t.gb (encG t.n (t.del s).G))
set_option maxHeartbeats 1000000 in
theorem c89 (hM : Mem w0 w H) (hD : HasDb w0) {K : KT} {E : Heap} {bty : Nat} {nu : Bool} (hE : E.le H) (T : TypOK K w0 E bty nu) {b bm : Nat} {t : Tb} {mm : Mp} (hb : H b = some (encT t)) (hg : H t.gb = some (encG t.n t.G)) (hm : H bm = some (encM mm)) (hmu : 0 < mm.used) (hmu' : mm.used < 2 ^ 64)
  (n1 : b ≠ bm) (n2 : b ≠ t.gb) (n3 : bm ≠ t.gb) (hT : TOK K t) {bk ok k : Nat} {obk : Obj} (hk : H bk = some obk) (hkc : objCell obk ok = some (u64 k)) (hkl : k < 2 ^ 64) :
  Calls Tryz.prog 89 [.pointer (some ⟨b, 0, none⟩), .pointer (some ⟨bty, 0, none⟩), .pointer (some ⟨bm, 0, none⟩), u64 (K.hash k), .pointer (some ⟨bk, ok, none⟩)].toArray w (Deleted w0 H b bm t mm (find K t.n t.G k)) := by
 have hn := hT.npos
 have hh := K.lt k
 obtain ⟨p, _, hp⟩ := hT.pow
 refine calls_start Tryz.func89 rfl Tryz.ntmps89 (Nat.le_of_ble_eq_true rfl) ?_
 refine rs hM ?_
 refine asg ?_
 refine rw_nil ?_; intro w hM
 refine wp_mix_seq [8, 9] [9] [0, 1, 2, 3, 4, 5, 6, 7, 8, 9] H mixed (by kernel_rfl) (Heap.le_refl _) hM ?_
 refine mv ?_
 refine rw_callq cr118 rfl rfl (fun H' w hle hM => c118 hM _) rfl ?_
 refine mv ?_
 refine nck ?_
 refine fa fr158_5 ?_
 refine fa fr156_1 ?_
 refine lo ld22 hb ?_
 refine rw_callq cr117 rfl rfl (fun H' w hle hM => c117 hM _ _ (by omega) (by omega)) rfl ?_
 refine rw_allocD Tryz.zeroValue180 rfl rfl rfl (Heap.le_refl _) (fun b11 G11 n11 l11 e11 k11 => ?_)
 refine rw_store (v := .agg #[.int .u64 _, .int .u64 _, .int .u64 _]) sz180 rfl rfl rfl rfl e11 rfl rfl rfl (fun _ => ⟨rfl, rfl⟩) (fun S1 hS1 kS1 => ?_)
 refine rw_nil ?_; intro w hM
 have hle := le_keep l11 n11 kS1
 refine rs hM ?_
 refine mv ?_
 refine rw_callq cr115 rfl rfl (fun H' w hle hM => c115 hM _ hh) rfl ?_
 refine asg ?_
 refine rw_nil ?_; intro w hM
 refine wp_block ?_
 refine wp_loop_s (Probing K t w0 H k b11 [(0, .pointer (some ⟨b, 0, none⟩)), (1, .pointer (some ⟨bty, 0, none⟩)), (2, .pointer (some ⟨bm, 0, none⟩)), (3, u64 (K.hash k)), (4, .pointer (some ⟨bk, ok, none⟩)), (11, .pointer (some ⟨b11, 0, none⟩)), (12, u64 (K.hash k % 128))]) (t.n - 0) ?_ ?_
 ·refine ⟨0, S1, rfl, Know.of ⟨rfl, rfl, rfl, rfl, rfl, rfl, rfl, trivial⟩, hM, hle, ?_, n11, fun j hj => by omega⟩
  rw [hS1]
  have : pr t.n (K.hash k) 0 = K.hash k / 128 &&& (t.n - 1) := (pow_and hp).symm
  rw [this]; rfl
 clear hle hS1 kS1
 rintro m f w ⟨i, S, rfl, ⟨g0, rfl⟩, hM, hle, hS, n11, hprev⟩
 have hi : i < t.n := by
  obtain ⟨j, hj, hnp⟩ := hT.stops (K.hash k)
  rcases Nat.lt_or_ge j i with h | h
  ·exact absurd (hprev j h).2 hnp
  ·omega
 have hb' := hle _ _ hb
 refine wp_seq ?_
 refine wp_block ?_
 refine wp_mix_seq [7, 8] [8] [0, 1, 2, 3, 4, 5, 6, 7, 8] _ mixed (by kernel_rfl) (Heap.le_refl _) hM ?_
 refine mv ?_
 refine nck ?_
 refine fa fr158_5 ?_
 refine mv ?_
 refine fa fr180_1 ?_
 refine lo ld22 hS ?_
 refine rw_callq cr93 rfl rfl (fun H' w hle' hM => c93 hM (hle' _ _ hb') rfl (pr_lt hn.1 (K.hash k) i)) rfl ?_
 refine rw_allocD Tryz.zeroValue104 rfl rfl rfl (Heap.le_refl _) (fun b13 G13 n13 l13 e13 k13 => ?_)
 refine rw_store (v := .agg #[.pointer _]) sz104 rfl rfl rfl rfl e13 rfl rfl rfl (fun _ => ⟨rfl, rfl⟩) (fun S4 hS4 kS4 => ?_)
 refine rw_nil ?_; intro w hM
 have hleS := le_keep l13 n13 kS4
 have hle' := Heap.le_trans hle hleS
 have hg' := hle' _ _ hg
 have hseq := hleS _ _ hS
 have hgr := Gr.bytes hT.sl.ok (pr t.n (K.hash k) i)
 have hpi := pr_lt hn.1 (K.hash k) i
 obtain ⟨m0, hm0, hmA, hmB, hcall⟩ := c114w (t.G.at (pr t.n (K.hash k) i)) hgr (K.hash k % 128) (by omega)
 refine rs hM ?_
 refine rw_callq cr90 rfl rfl (fun H' w hle hM => c90 hM (hle _ _ hS4) rfl) rfl ?_
 refine nck ?_
 refine rw_load ld145 rfl rfl rfl hg' (encG_ctrl hpi) ?_
 refine mv ?_
 refine rw_callq cr114 rfl rfl (fun H' w hle hM => hcall hM) rfl ?_
 refine asg ?_
 refine rw_nil ?_; intro w hM
 refine wp_seq ?_
 refine wp_block ?_
 refine wp_loop_s (Matching K (t.G.at (pr t.n (K.hash k) i)) (fun q => t.G.k (8 * pr t.n (K.hash k) i + q)) w0 S4 k (fun m => [(0, .pointer (some ⟨b, 0, none⟩)), (1, .pointer (some ⟨bty, 0, none⟩)), (2, .pointer (some ⟨bm, 0, none⟩)), (3, u64 (K.hash k)), (4, .pointer (some ⟨bk, ok, none⟩)), (11, .pointer (some ⟨b11, 0, none⟩)), (12, u64 (K.hash k % 128)), (13, .pointer (some ⟨b13, 0, none⟩)), (14, u64 (bsw m))])) m0 ?_ ?_
 ·refine ⟨hm0, Know.of ⟨rfl, rfl, rfl, rfl, rfl, rfl, rfl, rfl, rfl, trivial⟩, hM, fun q hq hf => ?_, fun q hq h => hmB q hq h⟩
  by_cases he : K.eqk k (t.G.k (8 * pr t.n (K.hash k) i + q)) = true
  ·refine .inl (hmA q hq ?_)
   have := hT.sl.h2 (8 * pr t.n (K.hash k) i + q) (by omega) hf
   rw [← K.hash_eq _ _ he] at this; exact this
  ·exact .inr (by simpa using he)
 clear hcall hmA hmB hm0
 rintro m f w ⟨hmb, ⟨g1, rfl⟩, hM, hA, hB⟩
 refine wp_seq ?_
 refine rs hM ?_
 refine mv ?_
 refine rw_bin rfl rfl rfl rfl (b_ne _ _) ?_
 refine rw_nil ?_; intro w hM
 refine wp_if (tmp_lt rfl) rfl (fun hc => ?_) (fun hc => ?_)
 ·have h0 : m ≠ 0 := fun e => by subst e; simp [bsw, word, wl] at hc
  refine wp_skip ?_
  refine wp_block ?_
  have hlow := low_lt m
  have hin := low_in m hmb h0
  have hE' := Heap.le_trans hE hle'
  have hkey : objCell (encG t.n t.G) (17 * pr t.n (K.hash k) i + 1 + low m) = some (u64 (t.G.k (8 * pr t.n (K.hash k) i + low m))) := encG_key hpi hlow
  refine rs hM ?_
  refine mv ?_
  refine rw_callq cr103 rfl rfl (fun H' w hle hM => c103 hM hD hmb h0) rfl ?_
  refine asg ?_
  refine rw_nil ?_; intro w hM
  refine rs hM ?_
  refine mv ?_
  refine mv ?_
  refine rw_callq cr96 rfl rfl (fun H' w hle hM => c96 hM (hle _ _ hS4) rfl hlow) rfl ?_
  refine asg ?_
  refine rw_nil ?_; intro w hM
  refine wp_seq ?_
  refine rs hM ?_
  refine mv ?_
  refine nck ?_
  refine fa fr88_1 ?_
  refine lo ld86 (hE' _ _ T.typ) ?_
  refine mv ?_
  refine mv ?_
  refine rw_callvq (captured := []) T.cre rfl rfl rfl (fun H' w hle hM => T.equal hM (Heap.le_trans hE' hle) (hle _ _ (hle' _ _ hk)) hkc hkl (hle _ _ hg') hkey (hT.sl.ok.2.1 _)) rfl ?_
  refine rw_nil ?_; intro w hM
  refine wp_if (tmp_lt rfl) rfl (fun he => ?_) (fun he => ?_)
  ·have hf := find_some hT.sl (show 8 * pr t.n (K.hash k) i + low m < 8 * t.n by omega) (hB _ hlow hin) he
   have hTd := (hT.del (show 8 * pr t.n (K.hash k) i + low m < 8 * t.n by omega) (hB _ hlow hin) (by rw [show (8 * pr t.n (K.hash k) i + low m) / 8 = pr t.n (K.hash k) i from by omega]; exact gone_ok hT.sl hpi))
   have hroom := hT.room
   have hup := hTd.2
   have hne : b13 ≠ t.gb := fun e1 => by rw [e1] at n13; rw [hle _ _ hg] at n13; cases n13
   have hneb : b13 ≠ b := fun e1 => by rw [e1] at n13; rw [hb'] at n13; cases n13
   have hnem : b13 ≠ bm := fun e1 => by rw [e1] at n13; rw [hle _ _ hm] at n13; cases n13
   have hb4 := hle' _ _ hb
   have hm4 := hle' _ _ hm
   refine rs hM ?_
   refine mv ?_
   refine nck ?_
   refine fa fr158_0 ?_
   refine lo ld152 hb4 ?_
   refine rw_bin rfl rfl rfl rfl (b_sub16 _ 1 (by omega) (by omega)) ?_
   refine nck ?_
   refine fa fr158_0 ?_
   refine rw_store1 (v := .int .u16 _) sz152 rfl rfl rfl rfl hb4 rfl rfl (by nofun) (fun S10 hS10 kS10 => ?_)
   refine rw_nil ?_; intro w hM
   have hm10 := (kS10 _ n1.symm).trans hm4
   refine rs hM ?_
   refine mv ?_
   refine nck ?_
   refine fa fr132_0 ?_
   refine lo ld22 hm10 ?_
   refine rw_bin rfl rfl rfl rfl (b_sub64_le _ 1 (by omega) hmu') ?_
   refine nck ?_
   refine fa fr132_0 ?_
   refine rw_store1 (v := .int .u64 _) sz22 rfl rfl rfl rfl hm10 rfl rfl (by nofun) (fun S11 hS11 kS11 => ?_)
   refine rw_nil ?_; intro w hM
   have h11 := (kS11 _ hnem).trans ((kS10 _ hneb).trans hS4)
   refine rs hM ?_
   refine mv ?_
   refine mv ?_
   refine rw_callq cr98 rfl rfl (fun H' w hle hM => c98 hM (hle _ _ h11) rfl hlow) rfl ?_
   refine asg ?_
   refine rw_nil ?_; intro w hM
   have hg11 := (kS11 _ n3.symm).trans ((kS10 _ n2.symm).trans hg')
   refine rs hM ?_
   refine mv ?_
   refine nck ?_
   refine rw_storeE (v := .int .i64 0) (c' := arrG t.n (t.G.setE (8 * pr t.n (K.hash k) i + low m) 0)) sz125 rfl rfl rfl rfl hg11 (arrG_setE (v := 0) hpi hlow) (by rw [arrG_size]; omega) rfl (by nofun) (fun S13 hS13 kS13 => ?_)
   refine rw_nil ?_; intro w hM
   refine rs hM ?_
   refine asg ?_
   refine rw_nil ?_; intro w hM
   have h13 := (kS13 _ hne).trans h11
   have hgr' : Bytes ((t.G.setE (8 * pr t.n (K.hash k) i + low m) 0).at (pr t.n (K.hash k) i)) := hgr
   have hokE : (t.G.setE (8 * pr t.n (K.hash k) i + low m) 0).ok := ⟨hT.sl.ok.1, hT.sl.ok.2.1, fun u => by
    show -_ ≤ (if u = _ then (0 : Int) else t.G.e u) ∧ (if u = _ then (0 : Int) else t.G.e u) < _
    split
    ·omega
    ·exact hT.sl.ok.2.2 u⟩
   refine wp_seq ?_
   refine rs hM ?_
   refine rw_callq cr90 rfl rfl (fun H' w hle hM => c90 hM (hle _ _ h13) rfl) rfl ?_
   refine nck ?_
   refine rw_load ld145 rfl rfl rfl hS13 (encG_ctrl hpi) ?_
   refine rw_callq cr120 rfl rfl (fun H' w hle hM => c120 hM _ hgr') rfl ?_
   refine rw_bin rfl rfl rfl rfl (b_ne _ _) ?_
   refine rw_nil ?_; intro w hM
   have hb13 := (kS13 _ n2).trans ((kS11 _ n1).trans hS10)
   have hm13 := (kS13 _ n3).trans hS11
   have hgone : gone t.G ((8 * pr t.n (K.hash k) i + low m) / 8) = gone t.G (pr t.n (K.hash k) i) := by rw [show (8 * pr t.n (K.hash k) i + low m) / 8 = pr t.n (K.hash k) i from by omega]
   refine wp_if (tmp_lt rfl) rfl (fun hz => ?_) (fun hz => ?_)
   ·have hgo : gone t.G (pr t.n (K.hash k) i) = 128 := if_pos hz
    refine rs hM ?_
    refine rw_callq cr90 rfl rfl (fun H' w hle hM => c90 hM (hle _ _ h13) rfl) rfl ?_
    refine mv ?_
    refine rw_callS cr116 rfl rfl (fun w hM => c116 (v := 128) hM hokE hS13 hpi hlow (by omega)) rfl (by nofun) (fun S16 hS16 kS16 => ?_)
    refine rw_nil ?_; intro w hM
    have hb16 := (kS16 _ n2).trans hb13
    refine re hM ?_
    refine mv ?_
    refine nck ?_
    refine fa fr158_2 ?_
    refine lo ld152 hb16 ?_
    refine rw_bin rfl rfl rfl rfl (b_add16 _ 1 (by omega)) ?_
    refine nck ?_
    refine fa fr158_2 ?_
    refine rw_store1 (v := .int .u16 _) sz152 rfl rfl rfl rfl hb16 rfl rfl (by nofun) (fun S17 hS17 kS17 => ?_)
    refine rw_nil ?_; intro w hM
    refine rs hM ?_
    refine mv ?_
    refine asg ?_
    refine rw_nil ?_; intro w hM
    refine wp_ret ?_
    simp only [Exit.then, Exit.inBlock]
    refine post_tmp (v := .bool _) rfl rfl rfl ?_
    rw [hf]
    refine ⟨by rw [hgone, hgo]; rfl, hM.mono (upd3_le ?_ ?_ ?_ ?_ n1 n2 n3)⟩
    ·rw [hS17, Tb.del, hgone, hgo]; rfl
    ·rw [kS17 _ n1.symm, kS16 _ n3, hm13]; rfl
    ·rw [kS17 _ n2.symm, hS16, Tb.del, hgone, hgo]
    ·intro y u hy h1 h2 h3
     rw [kS17 _ h1, kS16 _ h3, kS13 _ h3, kS11 _ h2, kS10 _ h1]; exact hle' _ _ hy
   ·have hgo : gone t.G (pr t.n (K.hash k) i) = 254 := if_neg (by rw [show (bsw (mk8 fun q => (t.G.at (pr t.n (K.hash k) i) q).testBit 7 && !(t.G.at (pr t.n (K.hash k) i) q).testBit 1) != (0 : Int)) = false from hz]; simp)
    refine rs hM ?_
    refine rw_callq cr90 rfl rfl (fun H' w hle hM => c90 hM (hle _ _ h13) rfl) rfl ?_
    refine mv ?_
    refine rw_callS cr116 rfl rfl (fun w hM => c116 (v := 254) hM hokE hS13 hpi hlow (by omega)) rfl (by nofun) (fun S16 hS16 kS16 => ?_)
    refine rw_nil ?_; intro w hM
    refine re hM ?_
    refine asg ?_
    refine rw_nil ?_; intro w hM
    refine rs hM ?_
    refine mv ?_
    refine asg ?_
    refine rw_nil ?_; intro w hM
    refine wp_ret ?_
    simp only [Exit.then, Exit.inBlock]
    refine post_tmp (v := .bool _) rfl rfl rfl ?_
    rw [hf]
    refine ⟨by rw [hgone, hgo]; rfl, hM.mono (upd3_le ?_ ?_ ?_ ?_ n1 n2 n3)⟩
    ·rw [kS16 _ n2, hb13, Tb.del, hgone, hgo]; rfl
    ·rw [kS16 _ n3, hm13]; rfl
    ·rw [hS16, Tb.del, hgone, hgo]
    ·intro y u hy h1 h2 h3
     rw [kS16 _ h3, kS13 _ h3, kS11 _ h2, kS10 _ h1]; exact hle' _ _ hy
  ·refine wp_skip ?_
   refine re hM ?_
   refine mv ?_
   refine rw_callq cr104 rfl rfl (fun H' w hle hM => c104 hM hmb h0) rfl ?_
   refine asg ?_
   refine rw_nil ?_; intro w hM
   refine ⟨tl8 m, _, rfl, tl8_less m hmb h0, tl8_lt m hmb, Know.of ⟨rfl, rfl, rfl, rfl, rfl, rfl, rfl, rfl, rfl, trivial⟩, hM, fun q hq hf => ?_, fun q hq h => ?_⟩
   ·rcases hA q hq hf with h | h
    ·by_cases e : q = low m
     ·subst e; exact .inr he
     ·refine .inl ?_
      rw [tl8_bit m hmb q hq, h, nat_beq_f.2 e]; rfl
    ·exact .inr h
   ·rw [tl8_bit m hmb q hq] at h
    simp only [Bool.and_eq_true] at h
    exact hB q hq h.1
 ·have h0 : m = 0 := by
   have : (bsw m : Int) = 0 := by simpa using hc
   exact (bsw_zero m hmb).1 (by omega)
  subst h0
  have hno : noHit K t.G k (pr t.n (K.hash k) i) := fun q hq hf => by
   rcases hA q hq hf with h | h
   ·simp at h
   ·exact h
  refine wp_exit ?_
  simp only [Exit.then, Exit.inBlock, if_true]
  refine rs hM ?_
  refine rw_callq cr90 rfl rfl (fun H' w hle hM => c90 hM (hle _ _ hS4) rfl) rfl ?_
  refine nck ?_
  refine rw_load ld145 rfl rfl rfl hg' (encG_ctrl hpi) ?_
  refine rw_callq cr120 rfl rfl (fun H' w hle hM => c120 hM _ hgr) rfl ?_
  refine asg ?_
  refine rw_nil ?_; intro w hM
  refine rs hM ?_
  refine mv ?_
  refine rw_bin rfl rfl rfl rfl (b_ne _ _) ?_
  refine rw_nil ?_; intro w hM
  refine wp_if (tmp_lt rfl) rfl (fun hc => ?_) (fun hc => ?_)
  ·refine rs hM ?_
   refine asg ?_
   refine rw_nil ?_; intro w hM
   refine wp_ret ?_
   refine post_tmp (v := .bool _) rfl rfl rfl ?_
   rw [probe_stop hT.sl (i := i) (fun j hj => by
    rcases Nat.lt_or_ge j i with h | h
    ·exact (hprev j h).1
    ·rw [show j = i by omega]; exact hno) (empty_mask hT.sl hpi hc)]
   exact ⟨rfl, hM.mono hle'⟩
  ·refine wp_skip ?_
   simp only [Exit.then, Exit.inBlock]
   refine re hM ?_
   refine rw_loadA [.int .u64 _, .int .u64 _, .int .u64 _] ld180 rfl rfl rfl hseq rfl ?_
   refine rw_callq cr119 rfl rfl (fun H' w hle hM => c119 hM _ _ _ (by omega)) rfl ?_
   refine rw_store (v := .agg #[.int .u64 _, .int .u64 _, .int .u64 _]) sz180 rfl rfl rfl rfl hseq rfl rfl rfl (by nofun) (fun S3 hS3 kS3 => ?_)
   refine rw_nil ?_; intro w hM
   obtain ⟨hnx, hnx1⟩ := probe_next hT (K.hash k) i hi
   refine ⟨t.n - (i + 1), _, rfl, by omega, i + 1, S3, rfl, Know.of ⟨rfl, rfl, rfl, rfl, rfl, rfl, rfl, trivial⟩, hM, le_keep hle' n11 kS3, ?_, n11, fun j hj => ?_⟩
   ·rw [hS3, ← hnx, hnx1]; rfl
   ·rcases Nat.lt_or_ge j i with h | h
    ·exact hprev j h
    ·rw [show j = i by omega]; exact ⟨hno, empty_mask0 hT.sl hpi hc⟩
end
section
variable {w0 w : World} {H : Heap}
theorem Gr.ok_setK {G : Gr} (h : G.ok) {s k : Nat} (hk : k < 2 ^ 64) : (G.setK s k).ok := ⟨h.1, fun u => by
 show (if u = s then k else G.k u) < _
 split
 ·exact hk
 ·exact h.2.1 u, h.2.2⟩
theorem Gr.ok_setE {G : Gr} (h : G.ok) {s : Nat} {e : Int} (he : InI64 e) : (G.setE s e).ok := ⟨h.1, h.2.1, fun u => by
 show -_ ≤ (if u = s then e else G.e u) ∧ (if u = s then e else G.e u) < _
 split
 ·exact he
 ·exact h.2.2 u⟩
theorem Gr.setK_setE (G : Gr) (s k : Nat) : (G.setK s k).setE s (G.e s) = G.setK s k := by
 simp only [Gr.setE, Gr.setK, Gr.mk.injEq, true_and]
 funext u; split
 ·subst u; rfl
 ·rfl
/-- Only the control bytes are looked at. -/
def FullAll (G : Gr) : Prop := ∀ s, s < 8 → G.c s < 128
/-- What deleteSmall leaves. -/
def SmallDeleted (w0 : World) (H : Heap) (bm sg : Nat) (m : Mp) (G : Gr) (o : Option Nat) : Ending → World → Prop := fun r w' =>
 match o with
 | none => r = .returned (.tuple #[]) ∧ Mem w0 w' H
 | some s => r = .returned (.tuple #[]) ∧ Mem w0 w' ((H.upd bm (encM { m with used := m.used - 1 })).upd sg (encG 1 ((G.setE s 0).setC s 128)))
theorem c87 (hM : Mem w0 w H) (hD : HasDb w0) {K : KT} {E : Heap} {bty : Nat} {nu : Bool} (hE : E.le H) (T : TypOK K w0 E bty nu) {bm sg : Nat} {mm : Mp} {G : Gr} (hb : H bm = some (encM mm)) (hs : mm.small = some ⟨sg, 0, none⟩) (hg : H sg = some (encG 1 G)) (n1 : bm ≠ sg) (hG : SlotsOK K 1 G) (hmu : 0 < mm.used) (hmu' : mm.used < 2 ^ 64)
  {bk ok k : Nat} {obk : Obj} (hk : H bk = some obk) (hkc : objCell obk ok = some (u64 k)) (hkl : k < 2 ^ 64) :
  Calls Tryz.prog 87 [.pointer (some ⟨bm, 0, none⟩), .pointer (some ⟨bty, 0, none⟩), u64 (K.hash k), .pointer (some ⟨bk, ok, none⟩)].toArray w (SmallDeleted w0 H bm sg mm G (find K 1 G k)) := by
 have hh := K.lt k
 have hgr := Gr.bytes hG.ok 0
 obtain ⟨m0, hm0, hmA, hmB, hcall⟩ := c114w (G.at 0) hgr (K.hash k % 128) (by omega)
 refine calls_start Tryz.func87 rfl Tryz.ntmps87 (Nat.le_of_ble_eq_true rfl) ?_
 refine rs hM ?_
 refine mv ?_
 refine nck ?_
 refine fa fr132_2 ?_
 refine rw_load (v := .pointer (some ⟨sg, 0, none⟩)) ld102 rfl rfl rfl hb (by rw [← hs]; rfl) ?_
 refine rw_build (bd104_0 _) rfl rfl rfl ?_
 refine rw_allocN Tryz.zeroValue104 rfl rfl (fun b8 G8 n8 l8 e8 k8 => ?_)
 refine rw_store (v := .agg #[.pointer _]) sz104 rfl rfl rfl rfl e8 rfl rfl rfl (by nofun) (fun S0 hS0 kS0 => ?_)
 refine rw_nil ?_; intro w hM
 have hle := le_keep l8 n8 kS0
 have hg' := hle _ _ hg
 have hE' := Heap.le_trans hE hle
 refine wp_mix_seq [] [] [0, 1, 2, 3, 4, 5, 6] _ mixed (by kernel_rfl) (Heap.le_refl _) hM ?_
 refine rw_callq cr90 rfl rfl (fun H' w hle hM => c90 hM (hle _ _ hS0) rfl) rfl ?_
 refine nck ?_
 refine rw_load ld145 rfl rfl rfl hg' (encG_ctrl (g := 0) (by omega)) ?_
 refine mv ?_
 refine rw_callq cr115 rfl rfl (fun H' w hle hM => c115 hM _ hh) rfl ?_
 refine rw_callq cr114 rfl rfl (fun H' w hle hM => hcall hM) rfl ?_
 refine asg ?_
 refine rw_nil ?_; intro w hM
 refine wp_block ?_
 refine wp_loop_s (Matching K (G.at 0) (fun q => G.k (8 * 0 + q)) w0 S0 k (fun m => [(0, .pointer (some ⟨bm, 0, none⟩)), (1, .pointer (some ⟨bty, 0, none⟩)), (2, u64 (K.hash k)), (3, .pointer (some ⟨bk, ok, none⟩)), (8, .pointer (some ⟨b8, 0, none⟩)), (9, u64 (bsw m))])) m0 ?_ ?_
 ·refine ⟨hm0, Know.of ⟨rfl, rfl, rfl, rfl, rfl, rfl, trivial⟩, hM, fun q hq hf => ?_, fun q hq h => hmB q hq h⟩
  by_cases he : K.eqk k (G.k (8 * 0 + q)) = true
  ·refine .inl (hmA q hq ?_)
   have := hG.h2 (8 * 0 + q) (by omega) hf
   rw [← K.hash_eq _ _ he] at this; exact this
  ·exact .inr (by simpa using he)
 clear hcall hmA hmB hm0
 rintro m f w ⟨hm, ⟨g1, rfl⟩, hM, hA, hB⟩
 refine wp_seq ?_
 refine rs hM ?_
 refine mv ?_
 refine rw_bin rfl rfl rfl rfl (b_ne _ _) ?_
 refine rw_nil ?_; intro w hM
 refine wp_if (tmp_lt rfl) rfl (fun hc => ?_) (fun hc => ?_)
 ·have h0 : m ≠ 0 := fun e => by subst e; simp [bsw, word, wl] at hc
  refine wp_skip ?_
  refine wp_block ?_
  have hlow := low_lt m
  have hin := low_in m hm h0
  have hkey : objCell (encG 1 G) (17 * 0 + 1 + low m) = some (u64 (G.k (8 * 0 + low m))) := encG_key (by omega) hlow
  refine rs hM ?_
  refine mv ?_
  refine rw_callq cr103 rfl rfl (fun H' w hle hM => c103 hM hD hm h0) rfl ?_
  refine asg ?_
  refine rw_nil ?_; intro w hM
  refine rs hM ?_
  refine mv ?_
  refine mv ?_
  refine rw_callq cr96 rfl rfl (fun H' w hle hM => c96 hM (hle _ _ hS0) rfl hlow) rfl ?_
  refine asg ?_
  refine rw_nil ?_; intro w hM
  refine wp_seq ?_
  refine rs hM ?_
  refine mv ?_
  refine nck ?_
  refine fa fr88_1 ?_
  refine lo ld86 (hE' _ _ T.typ) ?_
  refine mv ?_
  refine mv ?_
  refine rw_callvq (captured := []) T.cre rfl rfl rfl (fun H' w hle2 hM => T.equal hM (Heap.le_trans hE' hle2) (hle2 _ _ (hle _ _ hk)) hkc hkl (hle2 _ _ hg') hkey (hG.ok.2.1 _)) rfl ?_
  refine rw_nil ?_; intro w hM
  refine wp_if (tmp_lt rfl) rfl (fun he => ?_) (fun he => ?_)
  ·have hf := find_some hG (show 8 * 0 + low m < 8 * 1 by omega) (hB _ hlow hin) he
   have hnem : b8 ≠ bm := fun e1 => by rw [e1] at n8; rw [hb] at n8; cases n8
   have hne : b8 ≠ sg := fun e1 => by rw [e1] at n8; rw [hg] at n8; cases n8
   have hb' := hle _ _ hb
   refine rs hM ?_
   refine mv ?_
   refine nck ?_
   refine fa fr132_0 ?_
   refine lo ld22 hb' ?_
   refine rw_bin rfl rfl rfl rfl (b_sub64_le _ 1 (by omega) hmu') ?_
   refine nck ?_
   refine fa fr132_0 ?_
   refine rw_store1 (v := .int .u64 _) sz22 rfl rfl rfl rfl hb' rfl rfl (by nofun) (fun S6 hS6 kS6 => ?_)
   refine rw_nil ?_; intro w hM
   have h6 := (kS6 _ hnem).trans hS0
   refine rs hM ?_
   refine mv ?_
   refine mv ?_
   refine rw_callq cr98 rfl rfl (fun H' w hle hM => c98 hM (hle _ _ h6) rfl hlow) rfl ?_
   refine asg ?_
   refine rw_nil ?_; intro w hM
   have hg6 := (kS6 _ n1.symm).trans hg'
   refine rs hM ?_
   refine mv ?_
   refine nck ?_
   refine rw_storeE (v := .int .i64 0) (c' := arrG 1 (G.setE (8 * 0 + low m) 0)) sz125 rfl rfl rfl rfl hg6 (arrG_setE (g := 0) (v := 0) (by omega) hlow) (by rw [arrG_size]; omega) rfl (by nofun) (fun S8 hS8 kS8 => ?_)
   refine rw_nil ?_; intro w hM
   have h8 := (kS8 _ hne).trans h6
   refine rs hM ?_
   refine rw_callq cr90 rfl rfl (fun H' w hle hM => c90 hM (hle _ _ h8) rfl) rfl ?_
   refine mv ?_
   refine rw_callS cr116 rfl rfl (fun w hM => c116 (g := 0) (v := 128) hM (Gr.ok_setE hG.ok (by constructor <;> omega)) hS8 (by omega) hlow (by omega)) rfl (by nofun) (fun S9 hS9 kS9 => ?_)
   refine rw_nil ?_; intro w hM
   refine wp_ret ?_
   simp only [Exit.then, Exit.inBlock]
   refine post_none' rfl ?_
   rw [hf]
   refine ⟨rfl, hM.mono (upd2_le ?_ ?_ ?_ n1)⟩
   ·rw [kS9 _ n1, kS8 _ n1, hS6]; rfl
   ·exact hS9
   ·intro y u hy h1 h2
    rw [kS9 _ h2, kS8 _ h2, kS6 _ h1]; exact hle _ _ hy
  ·refine wp_skip ?_
   refine re hM ?_
   refine mv ?_
   refine rw_callq cr104 rfl rfl (fun H' w hle hM => c104 hM hm h0) rfl ?_
   refine asg ?_
   refine rw_nil ?_; intro w hM
   refine ⟨tl8 m, _, rfl, tl8_less m hm h0, tl8_lt m hm, Know.of ⟨rfl, rfl, rfl, rfl, rfl, rfl, trivial⟩, hM, fun q hq hf => ?_, fun q hq h => ?_⟩
   ·rcases hA q hq hf with h | h
    ·by_cases e : q = low m
     ·subst e; exact .inr he
     ·refine .inl ?_
      rw [tl8_bit m hm q hq, h, nat_beq_f.2 e]; rfl
    ·exact .inr h
   ·rw [tl8_bit m hm q hq] at h
    simp only [Bool.and_eq_true] at h
    exact hB q hq h.1
 ·have h0 : m = 0 := by
   have : (bsw m : Int) = 0 := by simpa using hc
   exact (bsw_zero m hm).1 (by omega)
  subst h0
  refine wp_exit ?_
  simp only [Exit.then, Exit.inBlock, if_true]
  refine post_none rfl ?_
  rw [find_none (fun s hs hf => by
   rcases hA s (by omega) (by show G.c (8 * 0 + s) < 128; rw [show 8 * 0 + s = s from by omega]; exact hf) with h | h
   ·simp at h
   ·simpa using h)]
  exact ⟨rfl, hM.mono hle⟩
/-- What putSlotSmall leaves. -/
def SmallPut (K : KT) (nu : Bool) (w0 : World) (H : Heap) (bm sg : Nat) (m : Mp) (G : Gr) (k : Nat) : Ending → World → Prop := fun r w' =>
 match find K 1 G k with
 | some s => r = .returned (.pointer (some ⟨sg, 9 + s, none⟩)) ∧ Mem w0 w' (H.upd sg (encG 1 (if nu then G.setK s k else G)))
 | none => (∃ s, s < 8 ∧ G.c s = 128 ∧ r = .returned (.pointer (some ⟨sg, 9 + s, none⟩)) ∧ Mem w0 w' ((H.upd bm (encM { m with used := m.used + 1 })).upd sg (encG 1 (G.put s k (G.e s) (K.hash k % 128))))) ∨
   (FullAll G ∧ r = .returned (.pointer none) ∧ Mem w0 w' H)
theorem upd1_le {H S : Heap} {b : Nat} {o : Obj} (h1 : S b = some o) (h : ∀ x u, H x = some u → x ≠ b → S x = some u) : (H.upd b o).le S := fun x u e => by
 by_cases eb : x = b
 ·subst eb; rw [Heap.upd_same] at e; cases e; exact h1
 ·rw [Heap.upd_ne _ _ eb] at e; exact h x u e eb
theorem c108 (hM : Mem w0 w H) (hD : HasDb w0) {K : KT} {E : Heap} {bty : Nat} {nu : Bool} (hE : E.le H) (T : TypOK K w0 E bty nu) {bm sg : Nat} {mm : Mp} {G : Gr} (hb : H bm = some (encM mm)) (hs : mm.small = some ⟨sg, 0, none⟩) (hg : H sg = some (encG 1 G)) (n1 : bm ≠ sg) (hG : SlotsOK K 1 G) (hnd : ∀ s, s < 8 * 1 → G.c s ≠ 254) (hmu' : mm.used + 1 < 2 ^ 64)
  {bk ok k : Nat} {obk : Obj} (hk : H bk = some obk) (hkc : objCell obk ok = some (u64 k)) (hkl : k < 2 ^ 64) (_ : bk ≠ sg) :
  Calls Tryz.prog 108 [.pointer (some ⟨bm, 0, none⟩), .pointer (some ⟨bty, 0, none⟩), u64 (K.hash k), .pointer (some ⟨bk, ok, none⟩)].toArray w (SmallPut K nu w0 H bm sg mm G k) := by
 have hh := K.lt k
 have hgr := Gr.bytes hG.ok 0
 obtain ⟨m0, hm0, hmA, hmB, hcall⟩ := c114w (G.at 0) hgr (K.hash k % 128) (by omega)
 refine calls_start Tryz.func108 rfl Tryz.ntmps108 (Nat.le_of_ble_eq_true rfl) ?_
 refine rs hM ?_
 refine asg ?_
 refine rw_nil ?_; intro w hM
 refine rs hM ?_
 refine mv ?_
 refine nck ?_
 refine fa fr132_2 ?_
 refine rw_load (v := .pointer (some ⟨sg, 0, none⟩)) ld102 rfl rfl rfl hb (by rw [← hs]; rfl) ?_
 refine rw_build (bd104_0 _) rfl rfl rfl ?_
 refine rw_allocN Tryz.zeroValue104 rfl rfl (fun b9 G9 n9 l9 e9 k9 => ?_)
 refine rw_store (v := .agg #[.pointer _]) sz104 rfl rfl rfl rfl e9 rfl rfl rfl (by nofun) (fun S1 hS1 kS1 => ?_)
 refine rw_nil ?_; intro w hM
 have hle := le_keep l9 n9 kS1
 have hg' := hle _ _ hg
 have hE' := Heap.le_trans hE hle
 refine wp_mix_seq [] [] [0, 1, 2, 3, 4, 5, 6] _ mixed (by kernel_rfl) (Heap.le_refl _) hM ?_
 refine rw_callq cr90 rfl rfl (fun H' w hle hM => c90 hM (hle _ _ hS1) rfl) rfl ?_
 refine nck ?_
 refine rw_load ld145 rfl rfl rfl hg' (encG_ctrl (g := 0) (by omega)) ?_
 refine mv ?_
 refine rw_callq cr115 rfl rfl (fun H' w hle hM => c115 hM _ hh) rfl ?_
 refine rw_callq cr114 rfl rfl (fun H' w hle hM => hcall hM) rfl ?_
 refine asg ?_
 refine rw_nil ?_; intro w hM
 refine wp_seq ?_
 refine wp_block ?_
 refine wp_loop_s (Matching K (G.at 0) (fun q => G.k (8 * 0 + q)) w0 S1 k (fun m => [(0, .pointer (some ⟨bm, 0, none⟩)), (1, .pointer (some ⟨bty, 0, none⟩)), (2, u64 (K.hash k)), (3, .pointer (some ⟨bk, ok, none⟩)), (9, .pointer (some ⟨b9, 0, none⟩)), (10, u64 (bsw m))])) m0 ?_ ?_
 ·refine ⟨hm0, Know.of ⟨rfl, rfl, rfl, rfl, rfl, rfl, trivial⟩, hM, fun q hq hf => ?_, fun q hq h => hmB q hq h⟩
  by_cases he : K.eqk k (G.k (8 * 0 + q)) = true
  ·refine .inl (hmA q hq ?_)
   have := hG.h2 (8 * 0 + q) (by omega) hf
   rw [← K.hash_eq _ _ he] at this; exact this
  ·exact .inr (by simpa using he)
 clear hcall hmA hmB hm0
 have hnem : b9 ≠ bm := fun e1 => by rw [e1] at n9; rw [hb] at n9; cases n9
 have hne : b9 ≠ sg := fun e1 => by rw [e1] at n9; rw [hg] at n9; cases n9
 have hk' := hle _ _ hk
 have hb' := hle _ _ hb
 rintro m f w ⟨hm, ⟨g1, rfl⟩, hM, hA, hB⟩
 refine wp_seq ?_
 refine rs hM ?_
 refine mv ?_
 refine rw_bin rfl rfl rfl rfl (b_ne _ _) ?_
 refine rw_nil ?_; intro w hM
 refine wp_if (tmp_lt rfl) rfl (fun hc => ?_) (fun hc => ?_)
 ·have h0 : m ≠ 0 := fun e => by subst e; simp [bsw, word, wl] at hc
  refine wp_skip ?_
  refine wp_block ?_
  have hlow := low_lt m
  have hin := low_in m hm h0
  have hkey : objCell (encG 1 G) (17 * 0 + 1 + low m) = some (u64 (G.k (8 * 0 + low m))) := encG_key (by omega) hlow
  refine rs hM ?_
  refine mv ?_
  refine rw_callq cr103 rfl rfl (fun H' w hle hM => c103 hM hD hm h0) rfl ?_
  refine asg ?_
  refine rw_nil ?_; intro w hM
  refine rs hM ?_
  refine mv ?_
  refine mv ?_
  refine rw_callq cr96 rfl rfl (fun H' w hle hM => c96 hM (hle _ _ hS1) rfl hlow) rfl ?_
  refine asg ?_
  refine rw_nil ?_; intro w hM
  refine wp_seq ?_
  refine rs hM ?_
  refine mv ?_
  refine nck ?_
  refine fa fr88_1 ?_
  refine lo ld86 (hE' _ _ T.typ) ?_
  refine mv ?_
  refine mv ?_
  refine rw_callvq (captured := []) T.cre rfl rfl rfl (fun H' w hle2 hM => T.equal hM (Heap.le_trans hE' hle2) (hle2 _ _ (hle _ _ hk)) hkc hkl (hle2 _ _ hg') hkey (hG.ok.2.1 _)) rfl ?_
  refine rw_nil ?_; intro w hM
  refine wp_if (tmp_lt rfl) rfl (fun he => ?_) (fun he => ?_)
  ·have hf := find_some hG (show 8 * 0 + low m < 8 * 1 by omega) (hB _ hlow hin) he
   refine wp_seq ?_
   refine rs hM ?_
   refine mv ?_
   refine nck ?_
   refine fa fr88_2 ?_
   refine lo ld4 (hE' _ _ T.typ) ?_
   refine rw_nil ?_; intro w hM
   refine wp_if (tmp_lt rfl) rfl (fun hu => ?_) (fun hu => ?_)
   ·refine re hM ?_
    refine mv ?_
    refine mv ?_
    refine nck ?_
    refine rw_load ld84 rfl rfl rfl hk' hkc ?_
    refine nck ?_
    refine rw_storeE (v := .int .u64 _) (c' := arrG 1 (G.setK (8 * 0 + low m) k)) sz84 rfl rfl rfl rfl hg' (arrG_setK (g := 0) (by omega) hlow) (by rw [arrG_size]; omega) rfl (by nofun) (fun S8 hS8 kS8 => ?_)
    refine rw_nil ?_; intro w hM
    have h8 := (kS8 _ hne).trans hS1
    refine rs hM ?_
    refine mv ?_
    refine mv ?_
    refine rw_callq cr98 rfl rfl (fun H' w hle hM => c98 hM (hle _ _ h8) rfl hlow) rfl ?_
    refine asg ?_
    refine rw_nil ?_; intro w hM
    refine rs hM ?_
    refine mv ?_
    refine asg ?_
    refine rw_nil ?_; intro w hM
    refine wp_ret ?_
    simp only [Exit.then, Exit.inBlock]
    refine post_tmp (v := .pointer _) rfl rfl rfl ?_
    unfold SmallPut
    rw [hf]
    refine ⟨by rw [show 0 + 9 + low m = 9 + (8 * 0 + low m) from by omega], hM.mono (upd1_le (by rw [hu]; exact hS8) fun y u hy h1 => ?_)⟩
    rw [kS8 _ h1]; exact hle _ _ hy
   ·refine wp_skip ?_
    refine rs hM ?_
    refine mv ?_
    refine mv ?_
    refine rw_callq cr98 rfl rfl (fun H' w hle hM => c98 hM (hle _ _ hS1) rfl hlow) rfl ?_
    refine asg ?_
    refine rw_nil ?_; intro w hM
    refine rs hM ?_
    refine mv ?_
    refine asg ?_
    refine rw_nil ?_; intro w hM
    refine wp_ret ?_
    simp only [Exit.then, Exit.inBlock]
    refine post_tmp (v := .pointer _) rfl rfl rfl ?_
    unfold SmallPut
    rw [hf]
    refine ⟨by rw [show 0 + 9 + low m = 9 + (8 * 0 + low m) from by omega], hM.mono (upd1_le (by rw [hu]; exact hg') fun y u hy h1 => hle _ _ hy)⟩
  ·refine wp_skip ?_
   refine re hM ?_
   refine mv ?_
   refine rw_callq cr104 rfl rfl (fun H' w hle hM => c104 hM hm h0) rfl ?_
   refine asg ?_
   refine rw_nil ?_; intro w hM
   refine ⟨tl8 m, _, rfl, tl8_less m hm h0, tl8_lt m hm, Know.of ⟨rfl, rfl, rfl, rfl, rfl, rfl, trivial⟩, hM, fun q hq hf => ?_, fun q hq h => ?_⟩
   ·rcases hA q hq hf with h | h
    ·by_cases e : q = low m
     ·subst e; exact .inr he
     ·refine .inl ?_
      rw [tl8_bit m hm q hq, h, nat_beq_f.2 e]; rfl
    ·exact .inr h
   ·rw [tl8_bit m hm q hq] at h
    simp only [Bool.and_eq_true] at h
    exact hB q hq h.1
 ·have h0 : m = 0 := by
   have : (bsw m : Int) = 0 := by simpa using hc
   exact (bsw_zero m hm).1 (by omega)
  subst h0
  refine wp_exit ?_
  simp only [Exit.then, Exit.inBlock, if_true]
  have hf : find K 1 G k = none := find_none (fun s hs hf => by
   rcases hA s (by omega) (by show G.c (8 * 0 + s) < 128; rw [show 8 * 0 + s = s from by omega]; exact hf) with h | h
   ·simp at h
   ·simpa using h)
  refine rs hM ?_
  refine rw_callq cr90 rfl rfl (fun H' w hle hM => c90 hM (hle _ _ hS1) rfl) rfl ?_
  refine nck ?_
  refine rw_load ld145 rfl rfl rfl hg' (encG_ctrl (g := 0) (by omega)) ?_
  refine rw_callq cr126 rfl rfl (fun H' w hle hM => c126 hM _ hgr) rfl ?_
  refine asg ?_
  refine rw_nil ?_; intro w hM
  refine wp_seq ?_
  refine rs hM ?_
  refine mv ?_
  refine rw_bin rfl rfl rfl rfl (b_eq _ _) ?_
  refine rw_nil ?_; intro w hM
  refine wp_if (tmp_lt rfl) rfl (fun hz => ?_) (fun hz => ?_)
  ·refine rs hM ?_
   refine asg ?_
   refine rw_nil ?_; intro w hM
   refine wp_ret ?_
   refine post_tmp (v := .pointer none) rfl rfl rfl ?_
   unfold SmallPut
   rw [hf]
   refine .inr ⟨fun s hs => ?_, rfl, hM.mono hle⟩
   have := free_mask0 (G := G) (g := 0) (by rw [show ((bsw (mk8 fun q => decide (128 ≤ G.at 0 q)) : Int) != 0) = !((bsw (mk8 fun q => decide (128 ≤ G.at 0 q)) : Int) == 0) from rfl, hz]; rfl) s hs
   rw [show 8 * 0 + s = s from by omega] at this; exact this
  ·refine wp_skip ?_
   obtain ⟨h0, h128⟩ := free_mask hG (g := 0) (by omega) hnd (by rw [show ((bsw (mk8 fun q => decide (128 ≤ G.at 0 q)) : Int) != 0) = !((bsw (mk8 fun q => decide (128 ≤ G.at 0 q)) : Int) == 0) from rfl, hz]; rfl)
   have hlow := low_lt (mk8 fun q => decide (128 ≤ G.at 0 q))
   generalize hq : low (mk8 fun q => decide (128 ≤ G.at 0 q)) = q at h128 hlow
   refine rs hM ?_
   refine mv ?_
   refine rw_callq cr103 rfl rfl (fun H' w hle hM => hq ▸ c103 hM hD (mk8_lt _) h0) rfl ?_
   refine asg ?_
   refine rw_nil ?_; intro w hM
   refine rs hM ?_
   refine mv ?_
   refine mv ?_
   refine rw_callq cr96 rfl rfl (fun H' w hle hM => c96 hM (hle _ _ hS1) rfl hlow) rfl ?_
   refine asg ?_
   refine rw_nil ?_; intro w hM
   refine rs hM ?_
   refine mv ?_
   refine mv ?_
   refine nck ?_
   refine rw_load ld84 rfl rfl rfl hk' hkc ?_
   refine nck ?_
   refine rw_storeE (v := .int .u64 _) (c' := arrG 1 (G.setK (8 * 0 + q) k)) sz84 rfl rfl rfl rfl hg' (arrG_setK (g := 0) (by omega) hlow) (by rw [arrG_size]; omega) rfl (by nofun) (fun S17 hS17 kS17 => ?_)
   refine rw_nil ?_; intro w hM
   have h17 := (kS17 _ hne).trans hS1
   refine rs hM ?_
   refine mv ?_
   refine mv ?_
   refine rw_callq cr98 rfl rfl (fun H' w hle hM => c98 hM (hle _ _ h17) rfl hlow) rfl ?_
   refine asg ?_
   refine rw_nil ?_; intro w hM
   refine rs hM ?_
   refine rw_callq cr90 rfl rfl (fun H' w hle hM => c90 hM (hle _ _ h17) rfl) rfl ?_
   refine mv ?_
   refine mv ?_
   refine rw_callq cr115 rfl rfl (fun H' w hle hM => c115 hM _ hh) rfl ?_
   refine rw_conv rfl rfl rfl (c_u8 Tryz.underlying12 Tryz.underlying160 _) ?_
   refine rw_callS cr116 rfl rfl (fun w hM => c116 (g := 0) hM (Gr.ok_setK hG.ok hkl) hS17 (by omega) hlow (by omega)) rfl (by nofun) (fun S19 hS19 kS19 => ?_)
   refine rw_nil ?_; intro w hM
   have hb19 := (kS19 _ n1).trans ((kS17 _ n1).trans hb')
   refine rs hM ?_
   refine mv ?_
   refine nck ?_
   refine fa fr132_0 ?_
   refine lo ld22 hb19 ?_
   refine rw_bin rfl rfl rfl rfl (b_add64 _ 1) ?_
   refine nck ?_
   refine fa fr132_0 ?_
   refine rw_store1 (v := .int .u64 _) sz22 rfl rfl rfl rfl hb19 rfl rfl (by nofun) (fun S20 hS20 kS20 => ?_)
   refine rw_nil ?_; intro w hM
   refine rs hM ?_
   refine mv ?_
   refine asg ?_
   refine rw_nil ?_; intro w hM
   refine wp_ret ?_
   refine post_tmp (v := .pointer _) rfl rfl rfl ?_
   unfold SmallPut
   rw [hf]
   refine .inl ⟨8 * 0 + q, by omega, h128, by rw [show 0 + 9 + q = 9 + (8 * 0 + q) from by omega], hM.mono (upd2_le ?_ ?_ ?_ n1)⟩
   ·rw [hS20, show (mm.used + 1) % 2 ^ 64 = mm.used + 1 from Nat.mod_eq_of_lt hmu']; rfl
   ·rw [kS20 _ n1.symm, hS19, show K.hash k % 128 % 256 = K.hash k % 128 from by omega, Gr.put, Gr.setK_setE]
   ·intro y u hy h1 h2
    rw [kS20 _ h1, kS19 _ h2, kS17 _ h2]; exact hle _ _ hy
end
/-- The slots of P emptied. -/
def Gr.unpoint (G : Gr) (P : Nat → Bool) : Gr := { G with c := fun s => if P s then 128 else G.c s }
theorem Gr.unpoint_c (G : Gr) (P : Nat → Bool) (s : Nat) : (G.unpoint P).c s = if P s then 128 else G.c s := rfl
/-- What P must be: tombstones alone, of a group all or none, and no probe passes their groups. -/
structure Prunable (K : KT) (n : Nat) (G : Gr) (P : Nat → Bool) : Prop where
 del : ∀ s, P s = true → s < 8 * n ∧ G.c s = 254
 all : ∀ g q r, q < 8 → r < 8 → P (8 * g + q) = true → G.c (8 * g + r) = 254 → P (8 * g + r) = true
 path : ∀ s i, s < 8 * n → G.c s < 128 → K.eqk (G.k s) (G.k s) = true → i < n → pr n (K.hash (G.k s)) i = s / 8 → ∀ j, j < i → ∀ q, q < 8 → P (8 * pr n (K.hash (G.k s)) j + q) = false
theorem Prunable.full {K : KT} {n : Nat} {G : Gr} {P : Nat → Bool} (h : Prunable K n G P) (s : Nat) : (G.unpoint P).c s < 128 ↔ G.c s < 128 := by
 rw [Gr.unpoint_c]
 by_cases hp : P s = true
 ·rw [if_pos hp]; have := (h.del s hp).2; omega
 ·rw [if_neg hp]
theorem SlotsOK.prune {K : KT} {n : Nat} {G : Gr} {P : Nat → Bool} (h : SlotsOK K n G) (hp : Prunable K n G P) : SlotsOK K n (G.unpoint P) := by
 refine ⟨⟨fun s => ?_, h.ok.2.1, h.ok.2.2⟩, fun s hs => ?_, fun s hs hf => ?_, fun s hs hf he => ?_, fun a b ha hb hfa hfb => ?_, fun g q r hg hq hr h1 h2 => ?_⟩
 ·rw [Gr.unpoint_c]; split
  ·omega
  ·exact h.ok.1 s
 ·rw [Gr.unpoint_c]; split
  ·omega
  ·exact h.st s hs
 ·have hf' := (hp.full s).1 hf
  rw [Gr.unpoint_c] at hf ⊢
  split
  ·rename_i e; rw [if_pos e] at hf; omega
  ·exact h.h2 s hs hf'
 ·have hf' := (hp.full s).1 hf
  obtain ⟨i, h1, h2, h3⟩ := h.probe s hs hf' he
  refine ⟨i, h1, h2, fun j hj q hq => ?_⟩
  rw [Gr.unpoint_c, if_neg (by rw [show (G.unpoint P).k = G.k from rfl, hp.path s i hs hf' he h1 h2 j hj q hq]; simp)]
  exact h3 j hj q hq
 ·exact h.uniq a b ha hb ((hp.full a).1 hfa) ((hp.full b).1 hfb)
 ·rw [Gr.unpoint_c] at h1 h2
  by_cases er : P (8 * g + r) = true
  ·rw [if_pos er] at h2; omega
  ·rw [if_neg er] at h2
   by_cases eq : P (8 * g + q) = true
   ·exact er (hp.all g q r hq hr eq h2)
   ·rw [if_neg eq] at h1; exact h.mix g q r hg hq hr h1 h2
theorem cnt_split {q r p : Nat → Bool} : ∀ {n : Nat}, (∀ s, s < n → (q s).toNat = (r s).toNat + (p s).toNat) → cnt q n = cnt r n + cnt p n
 | 0, _ => rfl
 | n + 1, h => by simp only [cnt]; rw [cnt_split (n := n) (fun s hs => h s (by omega)), h n (by omega)]; omega
theorem TOK.prune {K : KT} {t : Tb} {P : Nat → Bool} (h : TOK K t) (hp : Prunable K t.n t.G P) : TOK K { t with gl := t.gl + cnt P (8 * t.n), G := t.G.unpoint P } := by
 refine ⟨h.pow, h.cap, h.sl.prune hp, ?_, ?_⟩
 ·show t.used = cnt (isFull (t.G.unpoint P)) (8 * t.n)
  rw [h.used]
  refine cnt_congr fun s _ => ?_
  have := hp.full s
  simp only [isFull, this]
 ·show t.gl + cnt P (8 * t.n) + t.used + cnt (isDel (t.G.unpoint P)) (8 * t.n) = 7 * t.n
  have h1 := h.room
  have h2 : cnt (isDel t.G) (8 * t.n) = cnt (isDel (t.G.unpoint P)) (8 * t.n) + cnt P (8 * t.n) := cnt_split fun s hs => by
   simp only [isDel, Gr.unpoint_c]
   by_cases e : P s = true
   ·have := (hp.del s e).2; simp [e, this]
   ·have e' : P s = false := by simpa using e
    simp [e']
  omega
theorem TOK.prune_le {K : KT} {t : Tb} {P : Nat → Bool} (h : TOK K t) (hp : ∀ s, P s = true → s < 8 * t.n ∧ t.G.c s = 254) : t.gl + cnt P (8 * t.n) ≤ 7 * t.n := by
 have h1 := h.room
 have h2 : cnt P (8 * t.n) ≤ cnt (isDel t.G) (8 * t.n) := cnt_mono fun s _ hs => by simp [isDel, (hp s hs).2]
 omega

/-! ### Sets of groups, four words of 32 bits -/
def wbit (W : Nat → Nat) (g : Nat) : Bool := (W (g / 32)).testBit (g % 32)
def wset (W : Nat → Nat) (g : Nat) : Nat → Nat := fun j => if j = g / 32 then W j ||| 2 ^ (g % 32) else W j
theorem wset_bit (W : Nat → Nat) (g h : Nat) : wbit (wset W g) h = (wbit W h || decide (h = g)) := by
 unfold wbit wset
 by_cases e : h / 32 = g / 32
 ·rw [if_pos e, Nat.testBit_or, Nat.testBit_two_pow]
  congr 1
  by_cases e2 : h = g
  ·rw [decide_eq_true e2, e2]; simp
  ·rw [decide_eq_false e2, decide_eq_false (by omega)]
 ·rw [if_neg e, decide_eq_false (by intro e2; rw [e2] at e; exact e rfl)]; simp
theorem wset_lt {W : Nat → Nat} (h : ∀ j, W j < 2 ^ 32) (g : Nat) : ∀ j, wset W g j < 2 ^ 32 := fun j => by
 unfold wset; split
 ·exact Nat.or_lt_two_pow (h j) (Nat.pow_lt_pow_right (by omega) (by omega))
 ·exact h j
theorem wbit_shift {x i : Nat} : (((x / 2 ^ i &&& 1 : Nat) : Int) != (0 : Int)) = x.testBit i := by
 rw [Nat.and_one_is_mod, Nat.testBit_eq_decide_div_mod_eq]
 rcases Nat.mod_two_eq_zero_or_one (x / 2 ^ i) with h | h <;> rw [h] <;> rfl
section
variable {w0 w : World} {H : Heap}
def oc1 (x : Nat) : Nat := ((x / 2 ^ 1 &&& 6148914691236517205) + (x &&& 6148914691236517205)) % 2 ^ 64
def oc2 (x : Nat) : Nat := ((x / 2 ^ 2 &&& 3689348814741910323) + (x &&& 3689348814741910323)) % 2 ^ 64
def oc3 (x : Nat) : Nat := (x / 2 ^ 4 + x) % 2 ^ 64 &&& 1085102592571150095
def oc4 (x : Nat) : Nat := (x + x / 2 ^ 8) % 2 ^ 64
def oc5 (x : Nat) : Nat := (x + x / 2 ^ 16) % 2 ^ 64
def oc6 (x : Nat) : Nat := (x + x / 2 ^ 32) % 2 ^ 64
theorem oc_card : ∀ m, m < 256 → oc6 (oc5 (oc4 (oc3 (oc2 (oc1 (bsw m)))))) < 2 ^ 63 ∧ oc6 (oc5 (oc4 (oc3 (oc2 (oc1 (bsw m)))))) &&& 127 = card8 m := by decide +kernel
theorem oc1_lt (x : Nat) : oc1 x < 2 ^ 64 := Nat.mod_lt _ (by decide)
theorem oc2_lt (x : Nat) : oc2 x < 2 ^ 64 := Nat.mod_lt _ (by decide)
theorem c137 (hM : Mem w0 w H) {m : Nat} (hm : m < 256) : Calls Tryz.prog 137 [u64 (bsw m)].toArray w (Keeps w0 H (i64 (card8 m))) := by
 have hl := bsw_lt m
 have h1 := oc1_lt (bsw m)
 have h2 := oc2_lt (oc1 (bsw m))
 obtain ⟨h6, h7⟩ := oc_card m hm
 refine calls_start Tryz.func137 rfl Tryz.ntmps137 (Nat.le_of_ble_eq_true rfl) ?_
 refine rs hM ?_
 refine asg ?_
 refine rw_nil ?_; intro w hM
 refine rs hM ?_
 refine mv ?_
 refine rw_bin rfl rfl rfl rfl (b_shr64 _ 1 (by decide)) ?_
 refine rw_bin rfl rfl rfl rfl (b_and64 _ 6148914691236517205 (by omega) (by omega)) ?_
 refine mv ?_
 refine rw_bin rfl rfl rfl rfl (b_and64 _ 6148914691236517205 hl (by omega)) ?_
 refine rw_bin rfl rfl rfl rfl (b_add64 _ _) ?_
 refine rw_assign (v := u64 (oc1 (bsw m))) rfl rfl rfl ?_
 refine rw_nil ?_; intro w hM
 refine rs hM ?_
 refine mv ?_
 refine rw_bin rfl rfl rfl rfl (b_shr64 _ 2 (by decide)) ?_
 refine rw_bin rfl rfl rfl rfl (b_and64 _ 3689348814741910323 (by omega) (by omega)) ?_
 refine mv ?_
 refine rw_bin rfl rfl rfl rfl (b_and64 _ 3689348814741910323 h1 (by omega)) ?_
 refine rw_bin rfl rfl rfl rfl (b_add64 _ _) ?_
 refine rw_assign (v := u64 (oc2 (oc1 (bsw m)))) rfl rfl rfl ?_
 refine rw_nil ?_; intro w hM
 refine rs hM ?_
 refine mv ?_
 refine rw_bin rfl rfl rfl rfl (b_shr64 _ 4 (by decide)) ?_
 refine mv ?_
 refine rw_bin rfl rfl rfl rfl (b_add64 _ _) ?_
 refine rw_bin rfl rfl rfl rfl (b_and64 _ 1085102592571150095 (Nat.mod_lt _ (by decide)) (by omega)) ?_
 refine rw_assign (v := u64 (oc3 (oc2 (oc1 (bsw m))))) rfl rfl rfl ?_
 refine rw_nil ?_; intro w hM
 refine rs hM ?_
 refine mv ?_
 refine mv ?_
 refine rw_bin rfl rfl rfl rfl (b_shr64 _ 8 (by decide)) ?_
 refine rw_bin rfl rfl rfl rfl (b_add64 _ _) ?_
 refine rw_assign (v := u64 (oc4 (oc3 (oc2 (oc1 (bsw m)))))) rfl rfl rfl ?_
 refine rw_nil ?_; intro w hM
 refine rs hM ?_
 refine mv ?_
 refine mv ?_
 refine rw_bin rfl rfl rfl rfl (b_shr64 _ 16 (by decide)) ?_
 refine rw_bin rfl rfl rfl rfl (b_add64 _ _) ?_
 refine rw_assign (v := u64 (oc5 (oc4 (oc3 (oc2 (oc1 (bsw m))))))) rfl rfl rfl ?_
 refine rw_nil ?_; intro w hM
 refine rs hM ?_
 refine mv ?_
 refine mv ?_
 refine rw_bin rfl rfl rfl rfl (b_shr64 _ 32 (by decide)) ?_
 refine rw_bin rfl rfl rfl rfl (b_add64 _ _) ?_
 refine rw_assign (v := u64 (oc6 (oc5 (oc4 (oc3 (oc2 (oc1 (bsw m)))))))) rfl rfl rfl ?_
 refine rw_nil ?_; intro w hM
 refine rs hM ?_
 refine mv ?_
 refine rw_conv rfl rfl rfl (c_i64 Tryz.underlying22 Tryz.underlying3 (by omega) (by omega)) ?_
 refine rw_bin rfl rfl rfl rfl (b_andi _ 127 h6 (by decide)) ?_
 refine asg ?_
 refine rw_nil ?_; intro w hM
 refine wp_ret ?_
 exact post_tmp (v := .int .i64 _) rfl rfl rfl (keep (by rw [h7]) hM)
theorem c134 (hM : Mem w0 w H) {m : Nat} (hm : m < 256) : Calls Tryz.prog 134 [u64 (bsw m)].toArray w (Keeps w0 H (i64 (card8 m))) := by
 refine calls_start Tryz.func134 rfl Tryz.ntmps134 (Nat.le_of_ble_eq_true rfl) ?_
 refine rs hM ?_
 refine asg ?_
 refine rw_nil ?_; intro w hM
 refine rs hM ?_
 refine mv ?_
 refine rw_callq cr137 rfl rfl (fun H' w hle hM => c137 hM hm) rfl ?_
 refine asg ?_
 refine rw_nil ?_; intro w hM
 refine wp_ret ?_
 exact post_tmp rfl rfl rfl (keep rfl hM)
theorem card8_le : ∀ m, m < 256 → card8 m ≤ 8 := by decide +kernel
theorem b_shl32 {P : Program} {t : TypeId} (x : Nat) {j : IntKind} (y : Nat) (hy : y ≤ 32) : BinRun P .shl t (u32 x) (.int j y) (u32 (x * 2 ^ y % 2 ^ 32)) := bin_eq (b_shl rfl x j y) (by rw [Nat.min_eq_left (show y ≤ IntKind.u32.bits from hy)]; rfl)
theorem b_shr32 {P : Program} {t : TypeId} (x : Nat) {j : IntKind} (y : Nat) (hy : y ≤ 32) : BinRun P .shr t (u32 x) (.int j y) (u32 (x / 2 ^ y)) := bin_eq (b_shr x j y) (by rw [Nat.min_eq_left (show y ≤ IntKind.u32.bits from hy)])
theorem b_and32 {P : Program} {t : TypeId} (x y : Nat) (hx : x < 2 ^ 32) (hy : y < 2 ^ 32) : BinRun P .and t (u32 x) (u32 y) (u32 (x &&& y)) := b_and rfl x y hx hy
theorem b_or32 {P : Program} {t : TypeId} (x y : Nat) (hx : x < 2 ^ 32) (hy : y < 2 ^ 32) : BinRun P .or t (u32 x) (u32 y) (u32 (x ||| y)) := b_or rfl x y hx hy
/-- A table's tombstones, counted. -/
theorem c133 (hM : Mem w0 w H) {K : KT} {b : Nat} {t : Tb} (hb : H b = some (encT t)) (hT : TOK K t) : Calls Tryz.prog 133 [.pointer (some ⟨b, 0, none⟩)].toArray w (Keeps w0 H (u16 (cnt (isDel t.G) (8 * t.n)))) := by
 have h1 := hT.cap
 have h2 := hT.npos
 have h3 := hT.room
 refine calls_start Tryz.func133 rfl Tryz.ntmps133 (Nat.le_of_ble_eq_true rfl) ?_
 refine rs hM ?_
 refine asg ?_
 refine rw_nil ?_; intro w hM
 refine wp_mix_seq [] [] [0, 1, 2, 3, 4, 5, 6, 7, 8, 9, 10, 11, 12, 13, 14, 15, 16] H mixed (by kernel_rfl) (Heap.le_refl _) hM ?_
 refine mv ?_
 refine nck ?_
 refine fa fr158_1 ?_
 refine lo ld152 hb ?_
 refine rw_bin rfl rfl rfl rfl (b_mul16 _ 7 (by omega)) ?_
 refine rw_bin rfl rfl rfl rfl (b_quo16 _ 8 (by omega) (by omega)) ?_
 refine mv ?_
 refine nck ?_
 refine fa fr158_0 ?_
 refine lo ld152 hb ?_
 refine rw_bin rfl rfl rfl rfl (b_sub16 _ _ (by omega) (by omega)) ?_
 refine mv ?_
 refine nck ?_
 refine fa fr158_2 ?_
 refine lo ld152 hb ?_
 refine rw_bin rfl rfl rfl rfl (b_sub16 _ _ (by omega) (by omega)) ?_
 refine asg ?_
 refine rw_nil ?_; intro w hM
 refine wp_ret ?_
 exact post_tmp rfl rfl rfl (keep (congrArg u16 (by omega)) hM)
/-- The most entries that a table of c slots takes. -/
theorem c92 (hM : Mem w0 w H) {b c n : Nat} {o : Obj} (hb : H b = some o) (hc : objCell o 1 = some (u16 c)) (hn : c = 8 * n) (h0 : 0 < n) (h1 : n ≤ 128) : Calls Tryz.prog 92 [.pointer (some ⟨b, 0, none⟩)].toArray w (Keeps w0 H (u16 (7 * n))) := by
 refine calls_start Tryz.func92 rfl Tryz.ntmps92 (Nat.le_of_ble_eq_true rfl) ?_
 refine rs hM ?_
 refine asg ?_
 refine rw_nil ?_; intro w hM
 refine rs hM ?_
 refine mv ?_
 refine nck ?_
 refine fa fr158_1 ?_
 refine rw_load ld152 rfl rfl rfl hb hc ?_
 refine rw_bin rfl rfl rfl rfl (b_false (b_eq _ _) (by simp; omega)) ?_
 refine rw_nil ?_; intro w hM
 refine wp_if (tmp_lt rfl) rfl (by nofun) (fun _ => ?_)
 refine rs hM ?_
 refine mv ?_
 refine nck ?_
 refine fa fr158_1 ?_
 refine rw_load ld152 rfl rfl rfl hb hc ?_
 refine rw_bin rfl rfl rfl rfl (b_le _ _) ?_
 refine rw_nil ?_; intro w hM
 refine wp_if (tmp_lt rfl) rfl (fun hz => ?_) (fun hz => ?_)
 ·have hz := of_decide_eq_true hz
  refine rs hM ?_
  refine mv ?_
  refine nck ?_
  refine fa fr158_1 ?_
  refine rw_load ld152 rfl rfl rfl hb hc ?_
  refine rw_bin rfl rfl rfl rfl (b_sub16 _ 1 (by omega) (by omega)) ?_
  refine asg ?_
  refine rw_nil ?_; intro w hM
  refine wp_ret ?_
  exact post_tmp rfl rfl rfl (keep (congrArg u16 (by omega)) hM)
 ·refine wp_seq ?_
  refine rs hM ?_
  refine mv ?_
  refine nck ?_
  refine fa fr158_1 ?_
  refine rw_load ld152 rfl rfl rfl hb hc ?_
  refine rw_bin rfl rfl rfl rfl (b_false (b_gt _ _) (by simp; omega)) ?_
  refine rw_nil ?_; intro w hM
  refine wp_if (tmp_lt rfl) rfl (by nofun) (fun _ => ?_)
  refine wp_skip ?_
  refine rs hM ?_
  refine mv ?_
  refine nck ?_
  refine fa fr158_1 ?_
  refine rw_load ld152 rfl rfl rfl hb hc ?_
  refine rw_bin rfl rfl rfl rfl (b_mul16 _ 7 (by omega)) ?_
  refine rw_bin rfl rfl rfl rfl (b_quo16 _ 8 (by omega) (by omega)) ?_
  refine asg ?_
  refine rw_nil ?_; intro w hM
  refine wp_ret ?_
  exact post_tmp rfl rfl rfl (keep (congrArg u16 (by omega)) hM)
end
end Go.Proofs.YtddpfkcofmfmpaaGreatDoor
