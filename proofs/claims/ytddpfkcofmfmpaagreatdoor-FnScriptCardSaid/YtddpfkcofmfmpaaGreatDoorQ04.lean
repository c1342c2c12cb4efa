/-
  Walks of small functions: groups in memory, sets of slots. Conditions stand in each contract. Plain theory of one table: probing, what a table's slots must be, where a key lies. Conditions stand in each lemma. Plain theory of one table: what its slots must be, where a key lies. Conditions stand in each lemma. Plain theory of one table: an entry put, changed, taken away. Conditions stand in each lemma. What the walks know of a map's type, and of a table in memory. Conditions stand in each lemma.
  Conditions stand in each lemma.
-/
import Derived.Test.YtddpfkcofmfmpaaGreatDoorQ03
namespace Go.Proofs.YtddpfkcofmfmpaaGreatDoor
open Go Go.RowKit
set_option maxRecDepth 20000
section
variable {w0 w : World} {H : Heap}
theorem ptr_eq {b o o' : Nat} (h : o = o') : Value.pointer (some ⟨b, o, none⟩) = Value.pointer (some ⟨b, o', none⟩) := by rw [h]
theorem c90 (hM : Mem w0 w H) {b off gb o : Nat} {ob : Obj} (hb : H b = some ob) (hc : objCell ob off = some (.pointer (some ⟨gb, o, none⟩))) : Calls Tryz.prog 90 [.pointer (some ⟨b, off, none⟩)].toArray w (Keeps w0 H (.pointer (some ⟨gb, o, none⟩))) := by
 refine calls_start Tryz.func90 rfl Tryz.ntmps90 (Nat.le_of_ble_eq_true rfl) ?_
 refine rs hM ?_
 refine asg ?_
 refine rw_nil ?_; intro w hM
 refine rs hM ?_
 refine mv ?_
 refine nck ?_
 refine fa fr104_0 ?_
 refine rw_load ld102 rfl rfl rfl hb hc ?_
 refine nck ?_
 refine fa fr149_0 ?_
 refine asg ?_
 refine rw_nil ?_; intro w hM
 refine wp_ret ?_
 exact post_tmp rfl rfl rfl (keep rfl hM)
theorem c96 (hM : Mem w0 w H) {b off gb o i : Nat} {x : Option Addr} {ob : Obj} (hb : H b = some ob) (hc : objCell ob off = some (.pointer (some ⟨gb, o, none⟩))) (hi : i < 8) : Calls Tryz.prog 96 [.pointer (some ⟨b, off, none⟩), .pointer x, u64 i].toArray w (Keeps w0 H (.pointer (some ⟨gb, o + 1 + i, none⟩))) := by
 refine calls_start Tryz.func96 rfl Tryz.ntmps96 (Nat.le_of_ble_eq_true rfl) ?_
 refine rs hM ?_
 refine asg ?_
 refine rw_nil ?_; intro w hM
 refine rs hM ?_
 refine mv ?_
 refine nck ?_
 refine fa fr104_0 ?_
 refine rw_load ld102 rfl rfl rfl hb hc ?_
 refine mv ?_
 refine nck ?_
 refine fa fr149_1 ?_
 refine rw_indexAddr rfl rfl rfl rfl (x_array Tryz.underlying146 sz84 hi) ?_
 refine asg ?_
 refine rw_nil ?_; intro w hM
 refine wp_ret ?_
 exact post_tmp rfl rfl rfl (keep (ptr_eq (by omega)) hM)
theorem c98 (hM : Mem w0 w H) {b off gb o i : Nat} {x : Option Addr} {ob : Obj} (hb : H b = some ob) (hc : objCell ob off = some (.pointer (some ⟨gb, o, none⟩))) (hi : i < 8) : Calls Tryz.prog 98 [.pointer (some ⟨b, off, none⟩), .pointer x, u64 i].toArray w (Keeps w0 H (.pointer (some ⟨gb, o + 9 + i, none⟩))) := by
 refine calls_start Tryz.func98 rfl Tryz.ntmps98 (Nat.le_of_ble_eq_true rfl) ?_
 refine rs hM ?_
 refine asg ?_
 refine rw_nil ?_; intro w hM
 refine rs hM ?_
 refine mv ?_
 refine nck ?_
 refine fa fr104_0 ?_
 refine rw_load ld102 rfl rfl rfl hb hc ?_
 refine mv ?_
 refine nck ?_
 refine fa fr149_2 ?_
 refine rw_indexAddr rfl rfl rfl rfl (x_array Tryz.underlying147 sz125 hi) ?_
 refine asg ?_
 refine rw_nil ?_; intro w hM
 refine wp_ret ?_
 exact post_tmp rfl rfl rfl (keep (ptr_eq (by omega)) hM)
theorem c93 (hM : Mem w0 w H) {b off gb n cc i : Nat} {x : Option Addr} {ob : Obj} (hb : H b = some ob) (hc : objCell ob off = some (.slice (some ⟨gb, 0, none⟩) n cc)) (hi : i < n) : Calls Tryz.prog 93 [.pointer (some ⟨b, off, none⟩), .pointer x, u64 i].toArray w (Keeps w0 H (.agg #[.pointer (some ⟨gb, 17 * i, none⟩)])) := by
 refine calls_start Tryz.func93 rfl Tryz.ntmps93 (Nat.le_of_ble_eq_true rfl) ?_
 refine rs hM ?_
 refine rw_allocN Tryz.zeroValue104 rfl rfl (fun b6 G6 n6 l6 e6 k6 => ?_)
 refine rw_nil ?_; intro w hM
 have hb' := l6 _ _ hb
 refine rs hM ?_
 refine mv ?_
 refine nck ?_
 refine fa fr156_0 ?_
 refine rw_load ld154 rfl rfl rfl hb' hc ?_
 refine mv ?_
 refine rw_indexAddr rfl rfl rfl rfl (x_slice Tryz.underlying154 sz149 hi) ?_
 refine rw_build (bd104_0 _) rfl rfl rfl ?_
 refine rw_store (v := .agg #[.pointer _]) sz104 rfl rfl rfl rfl e6 rfl rfl rfl (by nofun) (fun S1 hS1 kS1 => ?_)
 refine rw_nil ?_; intro w hM
 refine wp_ret ?_
 refine post_cell [.pointer (some ⟨gb, 17 * i, none⟩)] ld104 rfl rfl hM rfl hS1 ?_ (keep rfl (hM.mono (le_keep l6 n6 kS1)))
 rw [show 17 * i = 0 + i * 17 from by omega]; rfl
theorem c95 (hM : Mem w0 w H) {b off i : Nat} {ob : Obj} {c : Nat → Nat} (hc : Bytes c) (hb : H b = some ob) (hv : objCell ob off = some (u64 (word c))) (hi : i < 8) : Calls Tryz.prog 95 [.pointer (some ⟨b, off, none⟩), u64 i].toArray w (Keeps w0 H (u8 (c i))) := by
 refine calls_start Tryz.func95 rfl Tryz.ntmps95 (Nat.le_of_ble_eq_true rfl) ?_
 refine rs hM ?_
 refine asg ?_
 refine rw_nil ?_; intro w hM
 refine rs hM ?_
 refine mv ?_
 refine nck ?_
 refine rw_load ld145 rfl rfl rfl hb hv ?_
 refine mv ?_
 refine rw_bin rfl rfl rfl rfl (b_mul64 8 _) ?_
 refine rw_bin rfl rfl rfl rfl (b_shr64 _ _ (by omega)) ?_
 refine rw_conv rfl rfl rfl (c_u8 Tryz.underlying145 Tryz.underlying160 _) ?_
 refine asg ?_
 refine rw_nil ?_; intro w hM
 refine wp_ret ?_
 refine post_tmp rfl rfl rfl (keep (congrArg u8 ?_) hM)
 rw [show 8 * i % 2 ^ 64 = 8 * i from by omega]; exact word_get hc hi
theorem c116 (hM : Mem w0 w H) {b n g i v : Nat} {G : Gr} (hG : G.ok) (hb : H b = some (encG n G)) (hg : g < n) (hi : i < 8) (hv : v < 256) : Calls Tryz.prog 116 [.pointer (some ⟨b, 17 * g, none⟩), u64 i, u8 v].toArray w (Sets w0 H b (encG n (G.setC (8 * g + i) v)) (.tuple #[])) := by
 have hl : 8 * i % 2 ^ 64 = 8 * i := by omega
 refine calls_start Tryz.func116 rfl Tryz.ntmps116 (Nat.le_of_ble_eq_true rfl) ?_
 refine re hM ?_
 refine mv ?_
 refine mv ?_
 refine nck ?_
 refine rw_load ld145 rfl rfl rfl hb (encG_ctrl hg) ?_
 refine mv ?_
 refine rw_bin rfl rfl rfl rfl (b_mul64 8 _) ?_
 refine rw_bin rfl rfl rfl rfl (b_shl64 _ _ (by omega)) ?_
 refine rw_bin rfl rfl rfl rfl (b_andNot64 _ _ (word_lt (Gr.bytes hG g)) (Nat.mod_lt _ (by decide))) ?_
 refine mv ?_
 refine rw_conv rfl rfl rfl (c_u64 Tryz.underlying160 Tryz.underlying145 _ (by omega)) ?_
 refine mv ?_
 refine rw_bin rfl rfl rfl rfl (b_mul64 8 _) ?_
 refine rw_bin rfl rfl rfl rfl (b_shl64 _ _ (by omega)) ?_
 refine rw_bin rfl rfl rfl rfl (b_or64 _ _ (Nat.lt_of_le_of_lt Nat.and_le_left (word_lt (Gr.bytes hG g))) (Nat.mod_lt _ (by decide))) ?_
 refine nck ?_
 refine rw_storeE (v := .int .u64 _) (c' := arrG n (G.setC (8 * g + i) v)) sz145 rfl rfl rfl rfl hb (by rw [hl, word_put (Gr.bytes hG g) hi hv]; exact arrG_setC hg hi) (by rw [arrG_size]; omega) rfl (by nofun) (fun S hS kS => ?_)
 refine rw_nil ?_; intro w hM
 exact post_none rfl ⟨rfl, S, hM, hS, kS⟩
theorem c91 (hM : Mem w0 w H) {b off : Nat} {c : Array Value} {t : TypeId} (hb : H b = some (.cells c t (0, 0))) (ho : off < c.size) : Calls Tryz.prog 91 [.pointer (some ⟨b, off, none⟩)].toArray w (Sets w0 H b (.cells (c.setIfInBounds off (u64 9259542123273814144)) t (0, 0)) (.tuple #[])) := by
 refine calls_start Tryz.func91 rfl Tryz.ntmps91 (Nat.le_of_ble_eq_true rfl) ?_
 refine re hM ?_
 refine mv ?_
 refine nck ?_
 refine rw_storeE (v := .int .u64 _) sz145 rfl rfl rfl rfl hb rfl ho rfl (by nofun) (fun S hS kS => ?_)
 refine rw_nil ?_; intro w hM
 exact post_none rfl ⟨rfl, S, hM, hS, kS⟩

/-! ### Sets of slots -/
/-- The table by which the library counts trailing zeros. -/
def dbTab : List Nat := [0, 1, 56, 2, 57, 49, 28, 3, 61, 58, 42, 50, 38, 29, 17, 4, 62, 47, 59, 36, 45, 43, 51, 22, 53, 39, 33, 30, 24, 18, 12, 5, 63, 55, 48, 27, 60, 41, 37, 16, 46, 35, 44, 21, 52, 32, 23, 11, 54, 26, 40, 15, 34, 20, 31, 10, 25, 14, 19, 9, 13, 8, 7, 6]
def HasDb (w0 : World) : Prop := ∀ i, i < 64 → w0.cell? ⟨1, i, none⟩ = some (u8 (dbTab.getD i 0))
theorem db_key : ∀ k, k < 64 → (2 ^ k * 285870213051353865 % 2 ^ 64) / 2 ^ 58 < 64 ∧ dbTab.getD ((2 ^ k * 285870213051353865 % 2 ^ 64) / 2 ^ 58) 0 = k := by decide +kernel
theorem c82 (hM : Mem w0 w H) (hD : HasDb w0) {x k : Nat} (hx : x < 2 ^ 64) (h0 : x ≠ 0) (hk : k < 64) (h : x &&& ((2 ^ 64 - x) % 2 ^ 64) = 2 ^ k) : Calls Tryz.prog 82 [u64 x].toArray w (Keeps w0 H (i64 k)) := by
 obtain ⟨k1, k2⟩ := db_key k hk
 have hz : ((x : Int) == 0) = false := by simpa using h0
 refine calls_start Tryz.func82 rfl Tryz.ntmps82 (Nat.le_of_ble_eq_true rfl) ?_
 refine rs hM ?_
 refine asg ?_
 refine rw_nil ?_; intro w hM
 refine wp_seq ?_
 refine rs hM ?_
 refine mv ?_
 refine rw_bin rfl rfl rfl rfl (b_false (b_eq _ _) hz) ?_
 refine rw_nil ?_; intro w hM
 refine wp_if (tmp_lt rfl) rfl (by nofun) (fun hc => ?_)
 refine wp_skip ?_
 refine rs hM ?_
 refine mv ?_
 refine mv ?_
 refine rw_un rfl rfl rfl (u_neg64 _ (by omega)) ?_
 refine rw_bin rfl rfl rfl rfl (b_and64 _ _ hx (Nat.mod_lt _ (by decide))) ?_
 refine rw_bin rfl rfl rfl rfl (b_mul64 _ 285870213051353865) ?_
 refine rw_bin rfl rfl rfl rfl (b_shr64 _ 58 (by decide)) ?_
 refine rw_indexAddr rfl rfl rfl rfl (x_array Tryz.underlying171 sz5 (by rw [h]; exact k1)) ?_
 refine rw_load_old (v := u8 (dbTab.getD ((2 ^ k * 285870213051353865 % 2 ^ 64) / 2 ^ 58) 0)) ld5 rfl rfl rfl (by rw [h, Nat.mul_one, Nat.zero_add]; exact hD _ k1) ?_
 refine rw_conv rfl rfl rfl (c_i64 Tryz.underlying5 Tryz.underlying3 (by rw [k2]; omega) (by rw [k2]; omega)) ?_
 refine asg ?_
 refine rw_nil ?_; intro w hM
 refine wp_ret ?_
 refine post_tmp (v := .int .i64 _) rfl rfl rfl ?_
 exact keep (by rw [k2]) hM
theorem c124 (hM : Mem w0 w H) (hD : HasDb w0) {m : Nat} (hm : m < 256) (h0 : m ≠ 0) : Calls Tryz.prog 124 [u64 (bsw m)].toArray w (Keeps w0 H (u64 (low m))) := by
 have hl := low_lt m
 refine calls_start Tryz.func124 rfl Tryz.ntmps124 (Nat.le_of_ble_eq_true rfl) ?_
 refine rs hM ?_
 refine asg ?_
 refine rw_nil ?_; intro w hM
 refine rs hM ?_
 refine mv ?_
 refine rw_callq cr82 rfl rfl (fun H' w hle hM => c82 (k := 8 * low m + 7) hM hD (bsw_lt m) (fun e => h0 ((bsw_zero m hm).1 e)) (by omega) (bsw_low m hm h0)) rfl ?_
 refine rw_conv rfl rfl rfl (c_u64 Tryz.underlying3 Tryz.underlying12 _ (by omega)) ?_
 refine rw_bin rfl rfl rfl rfl (b_shr64 _ 3 (by decide)) ?_
 refine asg ?_
 refine rw_nil ?_; intro w hM
 refine wp_ret ?_
 exact post_tmp rfl rfl rfl (keep (congrArg u64 (by omega)) hM)
theorem c103 (hM : Mem w0 w H) (hD : HasDb w0) {m : Nat} (hm : m < 256) (h0 : m ≠ 0) : Calls Tryz.prog 103 [u64 (bsw m)].toArray w (Keeps w0 H (u64 (low m))) := by
 refine calls_start Tryz.func103 rfl Tryz.ntmps103 (Nat.le_of_ble_eq_true rfl) ?_
 refine rs hM ?_
 refine asg ?_
 refine rw_nil ?_; intro w hM
 refine rs hM ?_
 refine mv ?_
 refine rw_callq cr124 rfl rfl (fun H' w hle hM => c124 hM hD hm h0) rfl ?_
 refine asg ?_
 refine rw_nil ?_; intro w hM
 refine wp_ret ?_
 exact post_tmp rfl rfl rfl (keep rfl hM)
theorem c104 (hM : Mem w0 w H) {m : Nat} (hm : m < 256) (h0 : m ≠ 0) : Calls Tryz.prog 104 [u64 (bsw m)].toArray w (Keeps w0 H (u64 (bsw (tl8 m)))) := by
 have hp : bsw m ≠ 0 := fun e => h0 ((bsw_zero m hm).1 e)
 have hl := bsw_lt m
 refine calls_start Tryz.func104 rfl Tryz.ntmps104 (Nat.le_of_ble_eq_true rfl) ?_
 refine rs hM ?_
 refine asg ?_
 refine rw_nil ?_; intro w hM
 refine rs hM ?_
 refine mv ?_
 refine mv ?_
 refine rw_bin rfl rfl rfl rfl (b_sub64_le _ 1 (by omega) hl) ?_
 refine rw_bin rfl rfl rfl rfl (b_and64 _ _ hl (by omega)) ?_
 refine asg ?_
 refine rw_nil ?_; intro w hM
 refine wp_ret ?_
 exact post_tmp rfl rfl rfl (keep (congrArg u64 (bsw_tl8 m hm h0)) hM)
theorem c123 (hM : Mem w0 w H) {m i : Nat} (hm : m < 256) (hi : i < 8) : Calls Tryz.prog 123 [u64 (bsw m), u64 i].toArray w (Keeps w0 H (u64 (bsw (above m i)))) := by
 have hl := bsw_lt m
 have hp : 2 ^ (8 * i) < 2 ^ 64 := Nat.pow_lt_pow_right (by omega) (by omega)
 have hp1 : 1 ≤ 2 ^ (8 * i) := Nat.one_le_two_pow
 have e1 : 1 * 2 ^ (8 * i % 2 ^ 64) % 2 ^ 64 = 2 ^ (8 * i) := by rw [show 8 * i % 2 ^ 64 = 8 * i from by omega, Nat.one_mul, Nat.mod_eq_of_lt hp]
 refine calls_start Tryz.func123 rfl Tryz.ntmps123 (Nat.le_of_ble_eq_true rfl) ?_
 refine rs hM ?_
 refine asg ?_
 refine rw_nil ?_; intro w hM
 refine rs hM ?_
 refine mv ?_
 refine rw_bin rfl rfl rfl rfl (b_mul64 8 _) ?_
 refine rw_bin rfl rfl rfl rfl (b_shl64 1 _ (by omega)) ?_
 refine rw_bin rfl rfl rfl rfl (b_sub64_le _ 1 (by omega) (Nat.mod_lt _ (by decide))) ?_
 refine asg ?_
 refine rw_nil ?_; intro w hM
 refine rs hM ?_
 refine mv ?_
 refine mv ?_
 refine rw_bin rfl rfl rfl rfl (b_andNot64 _ _ hl (by omega)) ?_
 refine asg ?_
 refine rw_nil ?_; intro w hM
 refine wp_ret ?_
 refine post_tmp rfl rfl rfl (keep (congrArg u64 ?_) hM)
 rw [e1]; exact bsw_above m hm i hi
theorem c102 (hM : Mem w0 w H) {m i : Nat} (hm : m < 256) (hi : i < 8) : Calls Tryz.prog 102 [u64 (bsw m), u64 i].toArray w (Keeps w0 H (u64 (bsw (above m i)))) := by
 refine calls_start Tryz.func102 rfl Tryz.ntmps102 (Nat.le_of_ble_eq_true rfl) ?_
 refine rs hM ?_
 refine asg ?_
 refine rw_nil ?_; intro w hM
 refine rs hM ?_
 refine mv ?_
 refine mv ?_
 refine rw_callq cr123 rfl rfl (fun H' w hle hM => c123 hM hm hi) rfl ?_
 refine asg ?_
 refine rw_nil ?_; intro w hM
 refine wp_ret ?_
 exact post_tmp rfl rfl rfl (keep rfl hM)
end
/-- Keys: their hashes, and which are equal. -/
structure KT where
 hash : Nat → Nat
 eqk : Nat → Nat → Bool
 lt : ∀ k, hash k < 2 ^ 64
 symm : ∀ a b, eqk a b = true → eqk b a = true
 trans : ∀ a b c, eqk a b = true → eqk b c = true → eqk a c = true
 hash_eq : ∀ a b, eqk a b = true → hash a = hash b
theorem KT.refl_left (K : KT) {a b : Nat} (h : K.eqk a b = true) : K.eqk a a = true := K.trans _ _ _ h (K.symm _ _ h)
theorem KT.refl_right (K : KT) {a b : Nat} (h : K.eqk a b = true) : K.eqk b b = true := K.trans _ _ _ (K.symm _ _ h) h

/-! ### Probing -/
/-- The group that is looked at in round i. -/
def pr (n h : Nat) : Nat → Nat
 | 0 => (h / 128) % n
 | i + 1 => (pr n h i + (i + 1)) % n
theorem pr_lt {n : Nat} (hn : 0 < n) (h i : Nat) : pr n h i < n := by cases i <;> exact Nat.mod_lt _ hn
theorem pr_sum (n h : Nat) : ∀ i, 2 * pr n h i % (2 * n) = (2 * (h / 128) + i * (i + 1)) % (2 * n)
 | 0 => by simp only [pr, Nat.zero_mul, Nat.add_zero]; rw [← Nat.mul_mod_mul_left]; simp
 | i + 1 => by
  have ih := pr_sum n h i
  have e : 2 * pr n h (i + 1) = (2 * pr n h i + 2 * (i + 1)) % (2 * n) := by
   simp only [pr]; rw [← Nat.mul_mod_mul_left, Nat.mul_add]
  rw [e, Nat.mod_mod, ← Nat.mod_add_mod, ih, Nat.mod_add_mod]
  congr 1
  rw [show (i + 1) * (i + 1 + 1) = i * (i + 1) + 2 * (i + 1) from by
   rw [show i + 1 + 1 = i + 2 from rfl, Nat.mul_comm (i + 1) (i + 2), Nat.add_mul]]
  omega
/-- A power of two that divides a product of an even and an odd number divides the even one. -/
theorem pow_dvd_even {p a b : Nat} (hb : b % 2 = 1) (h : 2 ^ p ∣ a * b) : 2 ^ p ∣ a := by
 have hc : Nat.Coprime (2 ^ p) b := by
  apply Nat.Coprime.pow_left
  rw [Nat.coprime_iff_gcd_eq_one]
  have h1 : Nat.gcd 2 b ∣ 2 := Nat.gcd_dvd_left 2 b
  have h2 : Nat.gcd 2 b ∣ b := Nat.gcd_dvd_right 2 b
  have h3 : Nat.gcd 2 b ≤ 2 := Nat.le_of_dvd (by decide) h1
  have h4 : Nat.gcd 2 b ≠ 2 := fun e => by rw [e] at h2; omega
  have h5 : Nat.gcd 2 b ≠ 0 := fun e => by rw [e] at h1; omega
  omega
 exact hc.dvd_of_dvd_mul_right h
theorem pr_inj {p n h : Nat} (hn : n = 2 ^ p) {i j : Nat} (hi : i < n) (hj : j < n) (e : pr n h i = pr n h j) : i = j := by
 have key : ∀ i j, i < j → j < n → pr n h i = pr n h j → False := by
  intro i j hij hj e
  have h1 := pr_sum n h i
  have h2 := pr_sum n h j
  rw [e, h2] at h1
  have hle : i * (i + 1) ≤ j * (j + 1) := Nat.mul_le_mul (by omega) (by omega)
  have hd : 2 * n ∣ j * (j + 1) - i * (i + 1) := by
   have : (2 * (h / 128) + j * (j + 1)) % (2 * n) = (2 * (h / 128) + i * (i + 1)) % (2 * n) := h1
   have h3 := Nat.dvd_of_mod_eq_zero (Nat.sub_mod_eq_zero_of_mod_eq this)
   have e3 : 2 * (h / 128) + j * (j + 1) - (2 * (h / 128) + i * (i + 1)) = j * (j + 1) - i * (i + 1) := by omega
   rw [e3] at h3; exact h3
  have hf : j * (j + 1) - i * (i + 1) = (j - i) * (i + j + 1) := by
   obtain ⟨d, rfl⟩ : ∃ d, j = i + d := ⟨j - i, by omega⟩
   have e1 : i + d - i = d := by omega
   rw [e1]
   have e2 : (i + d) * (i + d + 1) = i * (i + 1) + d * (i + (i + d) + 1) := by
    simp only [Nat.add_mul, Nat.mul_add, Nat.mul_one]
    rw [Nat.mul_comm d i]; omega
   omega
  rw [hf, hn, show 2 * 2 ^ p = 2 ^ (p + 1) from by rw [Nat.pow_succ, Nat.mul_comm]] at hd
  have hbound : 2 ^ (p + 1) = 2 * n := by rw [Nat.pow_succ, hn, Nat.mul_comm]
  by_cases hpar : (i + j + 1) % 2 = 1
  ·have := Nat.le_of_dvd (by omega) (pow_dvd_even hpar hd)
   omega
  ·rw [Nat.mul_comm] at hd
   have := Nat.le_of_dvd (by omega) (pow_dvd_even (a := i + j + 1) (b := j - i) (by omega) hd)
   omega
 rcases Nat.lt_trichotomy i j with hl | hl | hl
 ·exact (key i j hl hj e).elim
 ·exact hl
 ·exact (key j i hl hi e.symm).elim
/-- Pigeons. -/
theorem surj_of_inj : ∀ (n : Nat) (f : Nat → Nat), (∀ i, i < n → f i < n) → (∀ i j, i < n → j < n → f i = f j → i = j) → ∀ y, y < n → ∃ i, i < n ∧ f i = y
 | 0, _, _, _, y, hy => by omega
 | n + 1, f, hf, hi, y, hy => by
  by_cases hl : f n = y
  ·exact ⟨n, by omega, hl⟩
  ·-- swap the value of n out of the way
   let g : Nat → Nat := fun i => if f i = n then f n else f i
   have hg : ∀ i, i < n → g i < n := by
    intro i hin
    show (if f i = n then f n else f i) < n
    have h1 := hf i (by omega); have h2 := hf n (by omega)
    split
    ·have : f n ≠ n := fun e => by have := hi i n (by omega) (by omega) (by omega); omega
     omega
    ·omega
   have hgi : ∀ i j, i < n → j < n → g i = g j → i = j := by
    intro i j hin hjn e
    show i = j
    have e' : (if f i = n then f n else f i) = (if f j = n then f n else f j) := e
    by_cases a : f i = n <;> by_cases b : f j = n
    ·exact hi i j (by omega) (by omega) (by omega)
    ·rw [if_pos a, if_neg b] at e'; have := hi n j (by omega) (by omega) e'; omega
    ·rw [if_neg a, if_pos b] at e'; have := hi i n (by omega) (by omega) e'; omega
    ·rw [if_neg a, if_neg b] at e'; exact hi i j (by omega) (by omega) e'
   by_cases hy' : y = n
   ·-- someone below hits n, or f n = n
    subst hy'
    by_cases hex : ∃ i, i < y ∧ f i = y
    ·obtain ⟨i, h1, h2⟩ := hex; exact ⟨i, by omega, h2⟩
    ·exfalso
     have hlt : ∀ i, i < y → f i < y := fun i hin => by
      have := hf i (by omega)
      have : f i ≠ y := fun e => hex ⟨i, hin, e⟩
      omega
     have hfn : f y < y := by have := hf y (by omega); omega
     obtain ⟨i, h1, h2⟩ := surj_of_inj y f hlt (fun i j a b => hi i j (by omega) (by omega)) (f y) hfn
     have := hi i y (by omega) (by omega) h2
     omega
   ·obtain ⟨i, h1, h2⟩ := surj_of_inj n g hg hgi y (by omega)
    have h3 : (if f i = n then f n else f i) = y := h2
    split at h3
    ·exact absurd h3 hl
    ·exact ⟨i, by omega, h3⟩
theorem pr_visits {p n h : Nat} (hn : n = 2 ^ p) {g : Nat} (hg : g < n) : ∃ i, i < n ∧ pr n h i = g :=
 surj_of_inj n (pr n h) (fun i _ => pr_lt (by omega) h i) (fun _ _ hi hj e => pr_inj hn hi hj e) g hg
/-- How many s below n have q. -/
def cnt (q : Nat → Bool) : Nat → Nat
 | 0 => 0
 | n + 1 => cnt q n + (q n).toNat
theorem cnt_le (q : Nat → Bool) : ∀ n, cnt q n ≤ n
 | 0 => Nat.le_refl _
 | n + 1 => by have := cnt_le q n; have := Bool.toNat_le (q n); simp only [cnt]; omega
theorem cnt_congr {q r : Nat → Bool} : ∀ {n : Nat}, (∀ s, s < n → q s = r s) → cnt q n = cnt r n
 | 0, _ => rfl
 | n + 1, h => by simp only [cnt]; rw [cnt_congr (n := n) (fun s hs => h s (by omega)), h n (by omega)]
theorem cnt_set {q r : Nat → Bool} {s : Nat} : ∀ {n : Nat}, s < n → (∀ t, t < n → t ≠ s → q t = r t) → cnt q n + (r s).toNat = cnt r n + (q s).toNat
 | 0, h, _ => by omega
 | n + 1, h, hh => by
  simp only [cnt]
  by_cases e : s = n
  ·subst e
   rw [cnt_congr (n := s) (fun t ht => hh t (by omega) (by omega))]; omega
  ·have := cnt_set (n := n) (by omega : s < n) (fun t ht hne => hh t (by omega) hne)
   rw [hh n (by omega) (by omega)]; omega
theorem cnt_or {q r : Nat → Bool} : ∀ {n : Nat}, (∀ s, s < n → q s = true → r s = false) → cnt (fun s => q s || r s) n = cnt q n + cnt r n
 | 0, _ => rfl
 | n + 1, h => by
  have ih := cnt_or (n := n) (q := q) (r := r) (fun s hs => h s (by omega))
  simp only [cnt, ih]
  have := h n (by omega)
  cases hq : q n <;> cases hr : r n <;> simp_all <;> omega
theorem cnt_all {q : Nat → Bool} : ∀ {n : Nat}, (∀ s, s < n → q s = true) → cnt q n = n
 | 0, _ => rfl
 | n + 1, h => by simp only [cnt]; rw [cnt_all (n := n) (fun s hs => h s (by omega)), h n (by omega)]; rfl
theorem cnt_zero {q : Nat → Bool} : ∀ {n : Nat}, (∀ s, s < n → q s = false) → cnt q n = 0
 | 0, _ => rfl
 | n + 1, h => by simp only [cnt]; rw [cnt_zero (n := n) (fun s hs => h s (by omega)), h n (by omega)]; rfl
theorem cnt_pos {q : Nat → Bool} : ∀ {n s : Nat}, s < n → q s = true → 0 < cnt q n
 | 0, s, h, _ => by omega
 | n + 1, s, h, hq => by
  simp only [cnt]
  by_cases e : s = n
  ·subst e; rw [hq]; simp
  ·have := cnt_pos (n := n) (by omega : s < n) hq; omega
theorem cnt_mono {q r : Nat → Bool} : ∀ {n : Nat}, (∀ s, s < n → q s = true → r s = true) → cnt q n ≤ cnt r n
 | 0, _ => Nat.le_refl _
 | n + 1, h => by
  have ih := cnt_mono (n := n) (fun s hs => h s (by omega))
  have := h n (by omega)
  simp only [cnt]
  cases hq : q n <;> cases hr : r n <;> simp_all <;> omega

/-- A table. -/
structure Tb where
 used : Nat
 cap : Nat
 gl : Nat
 ld : Nat
 index : Int
 gb : Nat
 n : Nat
 G : Gr
def Tb.full (t : Tb) (s : Nat) : Prop := t.G.c s < 128
def isFull (G : Gr) (s : Nat) : Bool := decide (G.c s < 128)
def isDel (G : Gr) (s : Nat) : Bool := decide (G.c s = 254)
/-- No slot of group g is empty. -/
def Gr.packed (G : Gr) (g : Nat) : Prop := ∀ q, q < 8 → G.c (8 * g + q) ≠ 128
/-- What the slots of a table must be. -/
structure SlotsOK (K : KT) (n : Nat) (G : Gr) : Prop where
 ok : G.ok
 st : ∀ s, s < 8 * n → G.c s < 128 ∨ G.c s = 128 ∨ G.c s = 254
 h2 : ∀ s, s < 8 * n → G.c s < 128 → G.c s = K.hash (G.k s) % 128
 probe : ∀ s, s < 8 * n → G.c s < 128 → K.eqk (G.k s) (G.k s) = true → ∃ i, i < n ∧ pr n (K.hash (G.k s)) i = s / 8 ∧ ∀ j, j < i → G.packed (pr n (K.hash (G.k s)) j)
 uniq : ∀ s t, s < 8 * n → t < 8 * n → G.c s < 128 → G.c t < 128 → K.eqk (G.k s) (G.k t) = true → s = t
 mix : ∀ g q r, g < n → q < 8 → r < 8 → G.c (8 * g + q) = 128 → G.c (8 * g + r) ≠ 254
structure TOK (K : KT) (t : Tb) : Prop where
 pow : ∃ p, p ≤ 7 ∧ t.n = 2 ^ p
 cap : t.cap = 8 * t.n
 sl : SlotsOK K t.n t.G
 used : t.used = cnt (isFull t.G) (8 * t.n)
 room : t.gl + t.used + cnt (isDel t.G) (8 * t.n) = 7 * t.n
theorem TOK.npos {K : KT} {t : Tb} (h : TOK K t) : 0 < t.n ∧ t.n ≤ 128 := by
 obtain ⟨p, h1, h2⟩ := h.pow
 rw [h2]
 exact ⟨Nat.two_pow_pos p, show 2 ^ p ≤ 2 ^ 7 from Nat.pow_le_pow_right (by omega) h1⟩
/-- Where a key lies. -/
def find (K : KT) (n : Nat) (G : Gr) (k : Nat) : Option Nat := (List.range (8 * n)).find? fun s => decide (G.c s < 128) && K.eqk k (G.k s)
theorem find_none {K : KT} {n : Nat} {G : Gr} {k : Nat} (h : ∀ s, s < 8 * n → G.c s < 128 → K.eqk k (G.k s) = false) : find K n G k = none := by
 unfold find
 rw [List.find?_eq_none]
 intro s hs
 by_cases hf : G.c s < 128
 ·simp [hf, h s (List.mem_range.1 hs) hf]
 ·simp [hf]
theorem find_none_iff {K : KT} {n : Nat} {G : Gr} {k : Nat} (h : find K n G k = none) : ∀ s, s < 8 * n → G.c s < 128 → K.eqk k (G.k s) = false := by
 intro s hs hf
 unfold find at h
 rw [List.find?_eq_none] at h
 have := h s (List.mem_range.2 hs)
 simpa [hf] using this
theorem find_some {K : KT} {n : Nat} {G : Gr} (hS : SlotsOK K n G) {k s : Nat} (hs : s < 8 * n) (hf : G.c s < 128) (he : K.eqk k (G.k s) = true) : find K n G k = some s := by
 cases hx : find K n G k with
 | none => rw [find_none_iff hx s hs hf] at he; cases he
 | some t =>
  have h1 := List.find?_some hx
  have h2 := List.mem_range.1 (List.mem_of_find?_eq_some hx)
  simp only [Bool.and_eq_true, decide_eq_true_eq] at h1
  have := hS.uniq s t hs h2 hf h1.1 (K.trans _ _ _ (K.symm _ _ he) h1.2)
  rw [this]
theorem find_spec {K : KT} {n : Nat} {G : Gr} {k s : Nat} (h : find K n G k = some s) : s < 8 * n ∧ G.c s < 128 ∧ K.eqk k (G.k s) = true := by
 have h1 := List.find?_some h
 have h2 := List.mem_range.1 (List.mem_of_find?_eq_some h)
 simp only [Bool.and_eq_true, decide_eq_true_eq] at h1
 exact ⟨h2, h1.1, h1.2⟩
/-- No slot of group g has the key. -/
def noHit (K : KT) (G : Gr) (k g : Nat) : Prop := ∀ q, q < 8 → G.c (8 * g + q) < 128 → K.eqk k (G.k (8 * g + q)) = false
/-- The walk along the probes ends at a group that is not packed. -/
theorem probe_stop {K : KT} {n : Nat} {G : Gr} (hS : SlotsOK K n G) {k i : Nat} (h1 : ∀ j, j ≤ i → noHit K G k (pr n (K.hash k) j)) (h2 : ¬ G.packed (pr n (K.hash k) i)) : find K n G k = none := by
 refine find_none fun s hs hf => ?_
 cases he : K.eqk k (G.k s) with
 | false => rfl
 | true =>
  exfalso
  obtain ⟨j, hj, hp, hpk⟩ := hS.probe s hs hf (K.refl_right he)
  rw [← K.hash_eq _ _ he] at hp hpk
  by_cases hji : j ≤ i
  ·have := h1 j hji (s % 8) (by omega)
   rw [hp, show 8 * (s / 8) + s % 8 = s from by omega] at this
   rw [this hf] at he; cases he
  ·exact h2 (hpk i (by omega))
/-- Not all groups are packed. -/
theorem TOK.hole {K : KT} {t : Tb} (h : TOK K t) : ∃ s, s < 8 * t.n ∧ t.G.c s = 128 := by
 apply Classical.byContradiction
 intro hc
 have hall : ∀ s, s < 8 * t.n → (isFull t.G s || isDel t.G s) = true := by
  intro s hs
  rcases h.sl.st s hs with h1 | h1 | h1
  ·simp [isFull, h1]
  ·exact absurd ⟨s, hs, h1⟩ hc
  ·simp [isDel, h1]
 have e1 := cnt_all hall
 have e2 := cnt_or (n := 8 * t.n) (q := isFull t.G) (r := isDel t.G) (fun s _ hq => by simp [isFull] at hq; simp [isDel]; omega)
 have e3 := h.room
 have e4 := h.used
 have := h.npos
 omega
theorem TOK.stops {K : KT} {t : Tb} (h : TOK K t) (k : Nat) : ∃ i, i < t.n ∧ ¬ t.G.packed (pr t.n k i) := by
 obtain ⟨s, hs, he⟩ := h.hole
 obtain ⟨p, _, hp⟩ := h.pow
 obtain ⟨i, hi, e⟩ := pr_visits (h := k) hp (show s / 8 < t.n by omega)
 refine ⟨i, hi, fun hpk => hpk (s % 8) (by omega) ?_⟩
 rw [e, show 8 * (s / 8) + s % 8 = s from by omega]; exact he
/-- Slot s is where a new key of hash h may be put: free, and all groups ahead of hers are packed. -/
def PutAt (n : Nat) (G : Gr) (h s : Nat) : Prop := s < 8 * n ∧ (G.c s = 128 ∨ G.c s = 254) ∧ ∃ i, i < n ∧ pr n h i = s / 8 ∧ ∀ j, j < i → G.packed (pr n h j)
/-- The slots with an entry put into slot s. -/
def Gr.put (G : Gr) (s k : Nat) (e : Int) (b : Nat) : Gr := ((G.setK s k).setE s e).setC s b
theorem Gr.put_c (G : Gr) (s k : Nat) (e : Int) (b t : Nat) : (G.put s k e b).c t = if t = s then b else G.c t := rfl
theorem Gr.put_k (G : Gr) (s k : Nat) (e : Int) (b t : Nat) : (G.put s k e b).k t = if t = s then k else G.k t := rfl
theorem Gr.put_e (G : Gr) (s k : Nat) (e : Int) (b t : Nat) : (G.put s k e b).e t = if t = s then e else G.e t := rfl
def InI64 (e : Int) : Prop := -9223372036854775808 ≤ e ∧ e < 9223372036854775808
theorem Gr.ok_put {G : Gr} (h : G.ok) {s k b : Nat} {e : Int} (hk : k < 2 ^ 64) (he : InI64 e) (hb : b < 256) : (G.put s k e b).ok := by
 refine ⟨fun t => ?_, fun t => ?_, fun t => ?_⟩
 ·rw [Gr.put_c]; split <;> first | exact hb | exact h.1 t
 ·rw [Gr.put_k]; split <;> first | exact hk | exact h.2.1 t
 ·rw [Gr.put_e]; split <;> first | exact he | exact h.2.2 t
theorem SlotsOK.put {K : KT} {n : Nat} {G : Gr} (h : SlotsOK K n G) {k s : Nat} {e : Int} (hk : k < 2 ^ 64) (he : InI64 e) (hp : PutAt n G (K.hash k) s) (hno : ∀ t, t < 8 * n → G.c t < 128 → K.eqk k (G.k t) = false) : SlotsOK K n (G.put s k e (K.hash k % 128)) := by
 obtain ⟨hs, hfree, i, hi, hpi, hpk⟩ := hp
 have hb : K.hash k % 128 < 128 := Nat.mod_lt _ (by decide)
 have pk : ∀ g, G.packed g → (G.put s k e (K.hash k % 128)).packed g := fun g hg q hq => by
  rw [Gr.put_c]; split
  ·omega
  ·exact hg q hq
 have hno' : ∀ t, t < 8 * n → G.c t < 128 → K.eqk (G.k t) k = false := fun t ht hf => by
  cases hx : K.eqk (G.k t) k with
  | false => rfl
  | true => have := K.symm _ _ hx; rw [hno t ht hf] at this; cases this
 refine ⟨Gr.ok_put h.ok hk he (by omega), fun t ht => ?_, fun t ht hf => ?_, fun t ht hf hself => ?_, fun a b ha hb' hfa hfb heq => ?_, fun g q r hg hq hr h1 h2 => ?_⟩
 ·rw [Gr.put_c]; split
  ·exact .inl hb
  ·exact h.st t ht
 ·rw [Gr.put_c, Gr.put_k] at *
  split
  ·rfl
  ·rename_i hne; rw [if_neg hne] at hf; exact h.h2 t ht hf
 ·rw [Gr.put_c] at hf
  rw [Gr.put_k] at hself ⊢
  split
  ·rename_i e1; subst e1; exact ⟨i, hi, hpi, fun j hj => pk _ (hpk j hj)⟩
  ·rename_i hne
   rw [if_neg hne] at hf hself
   obtain ⟨i', h1, h2, h3⟩ := h.probe t ht hf hself
   exact ⟨i', h1, h2, fun j hj => pk _ (h3 j hj)⟩
 ·rw [Gr.put_c] at hfa hfb
  rw [Gr.put_k, Gr.put_k] at heq
  by_cases ea : a = s <;> by_cases eb : b = s
  ·rw [ea, eb]
  ·rw [if_pos ea, if_neg eb] at heq; rw [if_neg eb] at hfb; rw [hno b hb' hfb] at heq; cases heq
  ·rw [if_neg ea, if_pos eb] at heq; rw [if_neg ea] at hfa; rw [hno' a ha hfa] at heq; cases heq
  ·rw [if_neg ea, if_neg eb] at heq; rw [if_neg ea] at hfa; rw [if_neg eb] at hfb; exact h.uniq a b ha hb' hfa hfb heq
 ·rw [Gr.put_c] at h1 h2
  split at h1
  ·omega
  ·split at h2
   ·omega
   ·exact h.mix g q r hg hq hr h1 h2
/-- How the counts turn. -/
theorem cnt_full_put {n : Nat} {G : Gr} {s k b : Nat} {e : Int} (hs : s < 8 * n) (hf : ¬ G.c s < 128) (hb : b < 128) : cnt (isFull (G.put s k e b)) (8 * n) = cnt (isFull G) (8 * n) + 1 := by
 have := cnt_set (q := isFull (G.put s k e b)) (r := isFull G) (s := s) hs (fun t _ hne => by simp [isFull, Gr.put_c, hne])
 simp only [isFull, Gr.put_c, if_true, hf, hb, decide_true, decide_false, Bool.toNat_true, Bool.toNat_false] at this ⊢
 omega
theorem cnt_del_put {n : Nat} {G : Gr} {s k b : Nat} {e : Int} (hs : s < 8 * n) (hb : b < 128) : cnt (isDel (G.put s k e b)) (8 * n) + (decide (G.c s = 254)).toNat = cnt (isDel G) (8 * n) := by
 have := cnt_set (q := isDel (G.put s k e b)) (r := isDel G) (s := s) hs (fun t _ hne => by simp [isDel, Gr.put_c, hne])
 have hb' : ¬ b = 254 := by omega
 simp only [isDel, Gr.put_c, if_true, hb', decide_false, Bool.toNat_false, Nat.add_zero] at this ⊢
 omega
/-- A new entry in an empty slot. -/
theorem TOK.put_empty {K : KT} {t : Tb} (h : TOK K t) {k s : Nat} {e : Int} (hk : k < 2 ^ 64) (he : InI64 e) (hp : PutAt t.n t.G (K.hash k) s) (h128 : t.G.c s = 128) (hno : ∀ u, u < 8 * t.n → t.G.c u < 128 → K.eqk k (t.G.k u) = false) (hgl : 0 < t.gl) :
  TOK K { t with used := t.used + 1, gl := t.gl - 1, G := t.G.put s k e (K.hash k % 128) } := by
 have hb : K.hash k % 128 < 128 := Nat.mod_lt _ (by decide)
 refine ⟨h.pow, h.cap, h.sl.put hk he hp hno, ?_, ?_⟩
 ·show t.used + 1 = _
  rw [cnt_full_put hp.1 (by omega) hb, h.used]
 ·show t.gl - 1 + (t.used + 1) + cnt (isDel (t.G.put s k e (K.hash k % 128))) (8 * t.n) = 7 * t.n
  have h1 := cnt_del_put (G := t.G) (k := k) (e := e) hp.1 hb
  have h2 := h.room
  rw [h128] at h1
  simp at h1
  omega
/-- .. in a tombstone's. -/
theorem TOK.put_deleted {K : KT} {t : Tb} (h : TOK K t) {k s : Nat} {e : Int} (hk : k < 2 ^ 64) (he : InI64 e) (hp : PutAt t.n t.G (K.hash k) s) (h254 : t.G.c s = 254) (hno : ∀ u, u < 8 * t.n → t.G.c u < 128 → K.eqk k (t.G.k u) = false) :
  TOK K { t with used := t.used + 1, G := t.G.put s k e (K.hash k % 128) } := by
 have hb : K.hash k % 128 < 128 := Nat.mod_lt _ (by decide)
 refine ⟨h.pow, h.cap, h.sl.put hk he hp hno, ?_, ?_⟩
 ·show t.used + 1 = _
  rw [cnt_full_put hp.1 (by omega) hb, h.used]
 ·show t.gl + (t.used + 1) + cnt (isDel (t.G.put s k e (K.hash k % 128))) (8 * t.n) = 7 * t.n
  have h1 := cnt_del_put (G := t.G) (k := k) (e := e) hp.1 hb
  have h2 := h.room
  rw [h254] at h1
  simp at h1
  omega
/-- An entry's key, equal, and element changed. -/
theorem SlotsOK.change {K : KT} {n : Nat} {G : Gr} (h : SlotsOK K n G) {k s : Nat} {e : Int} (hk : k < 2 ^ 64) (he : InI64 e) (heq : K.eqk k (G.k s) = true) : SlotsOK K n ((G.setK s k).setE s e) := by
 have hc : ∀ t, ((G.setK s k).setE s e).c t = G.c t := fun _ => rfl
 have hkk : ∀ t, ((G.setK s k).setE s e).k t = if t = s then k else G.k t := fun _ => rfl
 have hh := K.hash_eq _ _ heq
 have pk : ∀ g, G.packed g ↔ ((G.setK s k).setE s e).packed g := fun g => Iff.rfl
 refine ⟨⟨h.ok.1, fun t => ?_, fun t => ?_⟩, h.st, fun t ht hft => ?_, fun t ht hft hself => ?_, fun a b ha hb hfa hfb hab => ?_, h.mix⟩
 ·rw [hkk]; split <;> first | exact hk | exact h.ok.2.1 t
 ·show -_ ≤ (if t = s then e else G.e t) ∧ (if t = s then e else G.e t) < _
  split <;> first | exact he | exact h.ok.2.2 t
 ·rw [hkk]; rw [hc] at *; split
  ·rename_i e1; subst e1; rw [hh]; exact h.h2 t ht hft
  ·exact h.h2 t ht hft
 ·rw [hkk] at hself ⊢
  split
  ·rename_i e1; subst e1
   rw [hh]
   exact h.probe t ht hft (K.refl_right heq)
  ·rename_i hne; rw [if_neg hne] at hself; exact h.probe t ht hft hself
 ·rw [hkk, hkk] at hab
  apply h.uniq a b ha hb hfa hfb
  by_cases ea : a = s <;> by_cases eb : b = s
  ·rw [ea, eb]; exact K.refl_right heq
  ·rw [if_pos ea, if_neg eb] at hab; rw [ea]; exact K.trans _ _ _ (K.symm _ _ heq) hab
  ·rw [if_neg ea, if_pos eb] at hab; rw [eb]; exact K.trans _ _ _ hab heq
  ·rw [if_neg ea, if_neg eb] at hab; exact hab
theorem TOK.change {K : KT} {t : Tb} (h : TOK K t) {k s : Nat} {e : Int} (hk : k < 2 ^ 64) (he : InI64 e) (heq : K.eqk k (t.G.k s) = true) : TOK K { t with G := (t.G.setK s k).setE s e } :=
 ⟨h.pow, h.cap, h.sl.change hk he heq, h.used, h.room⟩
/-- An entry taken away: her slot is empty if her group has an empty slot, else a tombstone. -/
theorem SlotsOK.del {K : KT} {n : Nat} {G : Gr} (h : SlotsOK K n G) {s b : Nat} (hb : (b = 128 ∧ ¬ G.packed (s / 8)) ∨ (b = 254 ∧ G.packed (s / 8))) : SlotsOK K n ((G.setE s 0).setC s b) := by
 have hc : ∀ t, ((G.setE s 0).setC s b).c t = if t = s then b else G.c t := fun _ => rfl
 have pk : ∀ g, G.packed g → ((G.setE s 0).setC s b).packed g := fun g hg q hq => by
  rw [hc]; split
  ·rename_i e1
   rcases hb with ⟨rfl, hnp⟩ | ⟨rfl, _⟩
   ·exact absurd (show G.packed (s / 8) by rw [← e1, show (8 * g + q) / 8 = g from by omega]; exact hg) hnp
   ·omega
  ·exact hg q hq
 have hb3 : b = 128 ∨ b = 254 := by rcases hb with ⟨h1, _⟩ | ⟨h1, _⟩ <;> omega
 refine ⟨⟨fun t => ?_, h.ok.2.1, fun t => ?_⟩, fun t ht => ?_, fun t ht hft => ?_, fun t ht hft hself => ?_, fun a c ha hc' hfa hfc hac => ?_, fun g q r hg hq hr h1 h2 => ?_⟩
 ·rw [hc]; split
  ·omega
  ·exact h.ok.1 t
 ·show -_ ≤ (if t = s then (0 : Int) else G.e t) ∧ (if t = s then (0 : Int) else G.e t) < _
  split
  ·omega
  ·exact h.ok.2.2 t
 ·rw [hc]; split
  ·omega
  ·exact h.st t ht
 ·rw [hc] at hft ⊢
  split
  ·rename_i e1; rw [if_pos e1] at hft; omega
  ·rename_i hne; rw [if_neg hne] at hft; exact h.h2 t ht hft
 ·rw [hc] at hft
  have hne : t ≠ s := fun e1 => by rw [if_pos e1] at hft; omega
  rw [if_neg hne] at hft
  obtain ⟨i, h1, h2, h3⟩ := h.probe t ht hft hself
  exact ⟨i, h1, h2, fun j hj => pk _ (h3 j hj)⟩
 ·rw [hc] at hfa hfc
  have ha' : a ≠ s := fun e1 => by rw [if_pos e1] at hfa; omega
  have hc'' : c ≠ s := fun e1 => by rw [if_pos e1] at hfc; omega
  rw [if_neg ha'] at hfa; rw [if_neg hc''] at hfc
  exact h.uniq a c ha hc' hfa hfc hac
 ·rw [hc] at h1 h2
  by_cases eq : 8 * g + q = s <;> by_cases er : 8 * g + r = s
  ·rw [if_pos eq] at h1; rw [if_pos er] at h2; omega
  ·rw [if_pos eq] at h1; rw [if_neg er] at h2
   rcases hb with ⟨_, hnp⟩ | ⟨h3, _⟩
   ·-- the group had an empty slot already
    apply hnp
    intro z hz hz1
    rw [show s / 8 = g from by omega] at hz1
    exact h.mix g z r hg hz hr hz1 h2
   ·omega
  ·rw [if_neg eq] at h1; rw [if_pos er] at h2
   rcases hb with ⟨h3, _⟩ | ⟨_, hp⟩
   ·omega
   ·rw [show s / 8 = g from by omega] at hp
    exact hp q hq h1
  ·rw [if_neg eq] at h1; rw [if_neg er] at h2
   exact h.mix g q r hg hq hr h1 h2
theorem TOK.del {K : KT} {t : Tb} (h : TOK K t) {s b : Nat} (hs : s < 8 * t.n) (hf : t.G.c s < 128) (hb : (b = 128 ∧ ¬ t.G.packed (s / 8)) ∨ (b = 254 ∧ t.G.packed (s / 8))) :
  TOK K { t with used := t.used - 1, gl := if b = 128 then t.gl + 1 else t.gl, G := (t.G.setE s 0).setC s b } ∧ 0 < t.used := by
 have hc : ∀ u, ((t.G.setE s 0).setC s b).c u = if u = s then b else t.G.c u := fun _ => rfl
 have hb3 : b = 128 ∨ b = 254 := by rcases hb with ⟨h1, _⟩ | ⟨h1, _⟩ <;> omega
 have h1 := cnt_set (q := isFull ((t.G.setE s 0).setC s b)) (r := isFull t.G) (s := s) hs (fun u _ hne => by simp [isFull, hc, hne])
 have h2 := cnt_set (q := isDel ((t.G.setE s 0).setC s b)) (r := isDel t.G) (s := s) hs (fun u _ hne => by simp [isDel, hc, hne])
 have hb' : ¬ b < 128 := by omega
 have hd : ¬ t.G.c s = 254 := by omega
 simp only [isFull, hc, if_true, hf, hb', decide_true, decide_false, Bool.toNat_true, Bool.toNat_false, Nat.add_zero] at h1
 simp only [isDel, hc, if_true, hd, decide_false, Bool.toNat_false, Nat.add_zero] at h2
 have h3 := h.used
 have h4 := h.room
 refine ⟨⟨h.pow, h.cap, h.sl.del hb, ?_, ?_⟩, ?_⟩
 ·show t.used - 1 = cnt (isFull ((t.G.setE s 0).setC s b)) (8 * t.n)
  omega
 ·show (if b = 128 then t.gl + 1 else t.gl) + (t.used - 1) + cnt (isDel ((t.G.setE s 0).setC s b)) (8 * t.n) = 7 * t.n
  rcases hb3 with rfl | rfl
  ·simp at h2 ⊢; omega
  ·simp at h2 ⊢; omega
 ·omega
/-- Some slots known. -/
def sets (f : Slots) : List (Nat × Value) → Slots
 | [] => f
 | (i, v) :: l => (sets f l).set i v
def At (f : Slots) : List (Nat × Value) → Prop
 | [] => True
 | (i, v) :: l => f i = v ∧ At f l
theorem sets_at {f : Slots} : ∀ {l : List (Nat × Value)}, At f l → sets f l = f
 | [], _ => rfl
 | (i, v) :: l, h => by
  simp only [sets]
  rw [sets_at h.2]; exact Slots.set_same h.1
def Know (f : Slots) (l : List (Nat × Value)) : Prop := ∃ g, f = sets g l
theorem Know.of {f : Slots} {l : List (Nat × Value)} (h : At f l) : Know f l := ⟨f, (sets_at h).symm⟩

/-- A table's own cells. -/
def encT (t : Tb) : Obj := .cells #[u16 t.used, u16 t.cap, u16 t.gl, u8 t.ld, i64 t.index, .slice (some ⟨t.gb, 0, none⟩) t.n t.n, u64 (t.n - 1)] 158 (0, 0)
/-- A map's own cells. wr: the flag that is set while the map is written. -/
structure Mp where
 used : Nat
 seed : Nat
 small : Option Addr
 dirp : Option Addr
 dirLen : Nat
 gd : Nat
 gs : Nat
 wr : Nat
 tomb : Bool
 clr : Nat
def encM (m : Mp) : Obj := .cells #[u64 m.used, u64 m.seed, .pointer m.small, .slice m.dirp m.dirLen m.dirLen, i64 m.dirLen, u8 m.gd, u8 m.gs, u8 m.wr, .bool m.tomb, u64 m.clr] 132 (0, 0)
/-- A map's type in memory: what its functions do. E: the blocks that they look at. -/
structure TypOK (K : KT) (w0 : World) (E : Heap) (bt : Nat) (nu : Bool) where
 fh : FuncId
 fe : FuncId
 ch : List Value
 rand : Value
 typ : E bt = some (.cells #[.func (.func fh) #[] ch.toArray, .func (.func fe) #[] #[], .bool nu, rand] 88 (0, 0))
 crh : CallRun Tryz.prog fh
 cre : CallRun Tryz.prog fe
 hasher : ∀ {w : World} {H : Heap} {b off k s : Nat} {ob : Obj}, Mem w0 w H → E.le H → H b = some ob → objCell ob off = some (u64 k) → k < 2 ^ 64 → Calls Tryz.prog fh ([Value.pointer (some ⟨b, off, none⟩), u64 s] ++ ch).toArray w (Keeps w0 H (u64 (K.hash k)))
 equal : ∀ {w : World} {H : Heap} {b off k b' off' k' : Nat} {ob ob' : Obj}, Mem w0 w H → E.le H → H b = some ob → objCell ob off = some (u64 k) → k < 2 ^ 64 → H b' = some ob' → objCell ob' off' = some (u64 k') → k' < 2 ^ 64 →
  Calls Tryz.prog fe ([Value.pointer (some ⟨b, off, none⟩), .pointer (some ⟨b', off', none⟩)] ++ []).toArray w (Keeps w0 H (.bool (K.eqk k k')))
end Go.Proofs.YtddpfkcofmfmpaaGreatDoor
