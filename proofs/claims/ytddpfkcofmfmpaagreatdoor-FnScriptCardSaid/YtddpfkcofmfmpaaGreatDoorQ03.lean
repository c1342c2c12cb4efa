/-
  Go's arithmetic on numbers of 64, 32, 16 and 8 bits, said on natural numbers. Plain arithmetic: words of eight bytes, sets of slots in a group, and the tricks that work on them. The first walks: functions without loops. Each contract: the call hands back the value and keeps the heap. A row of groups in memory: the control bytes, keys and elements of its slots. Conditions stand in each lemma.
  Conditions stand in each lemma.
-/
import Derived.Test.YtddpfkcofmfmpaaGreatDoorQ02
namespace Go.Proofs.YtddpfkcofmfmpaaGreatDoor
open Go Go.RowKit
set_option maxRecDepth 20000
section
abbrev u64 (n : Nat) : Value := .int .u64 (n : Int)
abbrev u32 (n : Nat) : Value := .int .u32 (n : Int)
abbrev u16 (n : Nat) : Value := .int .u16 (n : Int)
abbrev u8 (n : Nat) : Value := .int .u8 (n : Int)
abbrev i64 (z : Int) : Value := .int .i64 z

theorem wrap_u {k : IntKind} (hk : k.signed = false) (z : Int) : k.wrap z = z % 2 ^ k.bits := by simp [IntKind.wrap, hk]
theorem wrap_nat {k : IntKind} (hk : k.signed = false) (n : Nat) : k.wrap (n : Int) = ((n % 2 ^ k.bits : Nat) : Int) := by rw [wrap_u hk]; simp
theorem wrap_i64 {z : Int} (h0 : -9223372036854775808 ≤ z) (h1 : z < 9223372036854775808) : IntKind.i64.wrap z = z := by
 unfold IntKind.wrap
 simp only [IntKind.signed, IntKind.bits, Bool.true_and]
 split
 ·rename_i h; have := of_decide_eq_true h; omega
 ·rename_i h; have := of_decide_eq_false (Bool.eq_false_iff.2 h); omega

section
variable {P : Program} {t : TypeId}
theorem run_intArith {op : BinOp} {k : IntKind} {a b : Int} {v : Value} (ho : op = .add ∨ op = .sub ∨ op = .mul) (h : ∀ w : World, (Op.intArith op k a b).run P w = .ok v w) : BinRun P op t (.int k a) (.int k b) v := by
 intro w X Y
 rcases ho with rfl | rfl | rfl <;> simp [eqGuard, binOp, h w]
theorem b_add {k : IntKind} (a b : Int) : BinRun P .add t (.int k a) (.int k b) (.int k (k.wrap (a + b))) := run_intArith (.inl rfl) fun _ => rfl
theorem b_sub {k : IntKind} (a b : Int) : BinRun P .sub t (.int k a) (.int k b) (.int k (k.wrap (a - b))) := run_intArith (.inr (.inl rfl)) fun _ => rfl
theorem b_mul {k : IntKind} (a b : Int) : BinRun P .mul t (.int k a) (.int k b) (.int k (k.wrap (a * b))) := run_intArith (.inr (.inr rfl)) fun _ => rfl
theorem bin_eq {op : BinOp} {x y v v' : Value} (h : BinRun P op t x y v) (e : v = v') : BinRun P op t x y v' := e ▸ h

/-! unsigned sums and products -/
theorem b_addu {k : IntKind} (hk : k.signed = false) (x y : Nat) : BinRun P .add t (.int k x) (.int k y) (.int k ((x + y) % 2 ^ k.bits : Nat)) := bin_eq (b_add _ _) (by rw [← Int.natCast_add, wrap_nat hk])
theorem b_mulu {k : IntKind} (hk : k.signed = false) (x y : Nat) : BinRun P .mul t (.int k x) (.int k y) (.int k ((x * y) % 2 ^ k.bits : Nat)) := bin_eq (b_mul _ _) (by rw [← Int.natCast_mul, wrap_nat hk])
theorem b_subu {k : IntKind} (hk : k.signed = false) (x y : Nat) (h : y ≤ x) : BinRun P .sub t (.int k x) (.int k y) (.int k ((x - y) % 2 ^ k.bits : Nat)) := bin_eq (b_sub _ _) (by rw [← Int.natCast_sub h, wrap_nat hk])
theorem b_subw {k : IntKind} (hk : k.signed = false) (x y : Nat) (h : y ≤ 2 ^ k.bits) : BinRun P .sub t (.int k x) (.int k y) (.int k ((x + 2 ^ k.bits - y) % 2 ^ k.bits : Nat)) := bin_eq (b_sub _ _) (by
 rw [wrap_u hk, Int.natCast_emod, Int.natCast_sub (by omega), Int.natCast_add]
 have e : ((2 ^ k.bits : Nat) : Int) = 2 ^ k.bits := by simp
 rw [e, show (x : Int) + 2 ^ k.bits - y = (x - y) + 2 ^ k.bits from by omega, Int.add_emod_right])
theorem b_add64 (x y : Nat) : BinRun P .add t (u64 x) (u64 y) (u64 ((x + y) % 2 ^ 64)) := b_addu rfl x y
theorem b_mul64 (x y : Nat) : BinRun P .mul t (u64 x) (u64 y) (u64 ((x * y) % 2 ^ 64)) := b_mulu rfl x y
theorem b_sub64 (x y : Nat) (h : y ≤ 2 ^ 64) : BinRun P .sub t (u64 x) (u64 y) (u64 ((x + 2 ^ 64 - y) % 2 ^ 64)) := b_subw rfl x y h
theorem b_sub64_le (x y : Nat) (h : y ≤ x) (hx : x < 2 ^ 64) : BinRun P .sub t (u64 x) (u64 y) (u64 (x - y)) := bin_eq (b_subu rfl x y h) (by rw [Nat.mod_eq_of_lt]; show x - y < 2 ^ 64; omega)
/-! int -/
theorem b_addi {a b : Int} (h0 : -9223372036854775808 ≤ a + b) (h1 : a + b < 9223372036854775808) : BinRun P .add t (i64 a) (i64 b) (i64 (a + b)) := bin_eq (b_add _ _) (by rw [wrap_i64 h0 h1])
theorem b_subi {a b : Int} (h0 : -9223372036854775808 ≤ a - b) (h1 : a - b < 9223372036854775808) : BinRun P .sub t (i64 a) (i64 b) (i64 (a - b)) := bin_eq (b_sub _ _) (by rw [wrap_i64 h0 h1])
theorem b_muli {a b : Int} (h0 : -9223372036854775808 ≤ a * b) (h1 : a * b < 9223372036854775808) : BinRun P .mul t (i64 a) (i64 b) (i64 (a * b)) := bin_eq (b_mul _ _) (by rw [wrap_i64 h0 h1])

/-! bits -/
theorem run_intBits {op : BinOp} {k : IntKind} {a b : Int} {v : Value} (ho : op = .and ∨ op = .or ∨ op = .xor ∨ op = .andNot) (h : ∀ w : World, (Op.intBits op k a b).run P w = .ok v w) : BinRun P op t (.int k a) (.int k b) v := by
 intro w X Y
 rcases ho with rfl | rfl | rfl | rfl <;> simp [eqGuard, binOp, h w]
theorem ofInt_nat (k x : Nat) : (BitVec.ofInt k (x : Int)).toNat = x % 2 ^ k := by simp
theorem b_and {k : IntKind} (hk : k.signed = false) (x y : Nat) (hx : x < 2 ^ k.bits) (hy : y < 2 ^ k.bits) : BinRun P .and t (.int k x) (.int k y) (.int k ((x &&& y : Nat))) :=
 run_intBits (.inl rfl) fun w => by
  simp only [Op.intBits, pure, Sem.run, BitVec.toNat_and, ofInt_nat, Nat.mod_eq_of_lt hx, Nat.mod_eq_of_lt hy]
  rw [wrap_nat hk, Nat.mod_eq_of_lt (Nat.and_lt_two_pow x hy)]
theorem b_or {k : IntKind} (hk : k.signed = false) (x y : Nat) (hx : x < 2 ^ k.bits) (hy : y < 2 ^ k.bits) : BinRun P .or t (.int k x) (.int k y) (.int k ((x ||| y : Nat))) :=
 run_intBits (.inr (.inl rfl)) fun w => by
  simp only [Op.intBits, pure, Sem.run, BitVec.toNat_or, ofInt_nat, Nat.mod_eq_of_lt hx, Nat.mod_eq_of_lt hy]
  rw [wrap_nat hk, Nat.mod_eq_of_lt (Nat.or_lt_two_pow hx hy)]
theorem b_xor {k : IntKind} (hk : k.signed = false) (x y : Nat) (hx : x < 2 ^ k.bits) (hy : y < 2 ^ k.bits) : BinRun P .xor t (.int k x) (.int k y) (.int k ((x ^^^ y : Nat))) :=
 run_intBits (.inr (.inr (.inl rfl))) fun w => by
  simp only [Op.intBits, pure, Sem.run, BitVec.toNat_xor, ofInt_nat, Nat.mod_eq_of_lt hx, Nat.mod_eq_of_lt hy]
  rw [wrap_nat hk, Nat.mod_eq_of_lt (Nat.xor_lt_two_pow hx hy)]
theorem b_andNot {k : IntKind} (hk : k.signed = false) (x y : Nat) (hx : x < 2 ^ k.bits) (hy : y < 2 ^ k.bits) : BinRun P .andNot t (.int k x) (.int k y) (.int k ((x &&& (2 ^ k.bits - 1 - y) : Nat))) :=
 run_intBits (.inr (.inr (.inr rfl))) fun w => by
  simp only [Op.intBits, pure, Sem.run, BitVec.toNat_and, BitVec.toNat_not, ofInt_nat, Nat.mod_eq_of_lt hx, Nat.mod_eq_of_lt hy]
  rw [wrap_nat hk, Nat.mod_eq_of_lt (Nat.and_lt_two_pow x (by have := Nat.two_pow_pos k.bits; omega))]
/-! shifts -/
theorem b_shl {k : IntKind} (hk : k.signed = false) (x : Nat) (j : IntKind) (y : Nat) : BinRun P .shl t (.int k x) (.int j y) (.int k ((x * 2 ^ (min y k.bits)) % 2 ^ k.bits : Nat)) := by
 intro w X Y
 have e : (x : Int) * 2 ^ (min y k.bits) = ((x * 2 ^ (min y k.bits) : Nat) : Int) := by simp
 have h0 : ¬ ((y : Int) < 0) := by omega
 simp only [eqGuard, binOp, Op.shift, h0, if_false, Int.toNat_natCast]
 rw [e, wrap_nat hk]
 rfl
theorem b_shr {k : IntKind} (x : Nat) (j : IntKind) (y : Nat) : BinRun P .shr t (.int k x) (.int j y) (.int k ((x / 2 ^ (min y k.bits)) : Nat)) := by
 intro w X Y
 have e : (x : Int).fdiv (2 ^ (min y k.bits)) = ((x / 2 ^ (min y k.bits) : Nat) : Int) := by
  rw [Int.fdiv_eq_ediv_of_nonneg _ (by exact Int.le_of_lt (Int.pow_pos (by decide)))]
  simp
 have h0 : ¬ ((y : Int) < 0) := by omega
 simp only [eqGuard, binOp, Op.shift, h0, if_false, Int.toNat_natCast]
 rw [e]
 rfl
theorem b_shli {x : Int} (j : IntKind) (y : Nat) (hy : y < 64) (h0 : -9223372036854775808 ≤ x * 2 ^ y) (h1 : x * 2 ^ y < 9223372036854775808) : BinRun P .shl t (i64 x) (.int j y) (i64 (x * 2 ^ y)) := by
 intro w X Y
 have h2 : ¬ ((y : Int) < 0) := by omega
 have h3 : min y IntKind.i64.bits = y := Nat.min_eq_left (by show y ≤ 64; omega)
 simp only [eqGuard, binOp, Op.shift, h2, if_false, Int.toNat_natCast, h3]
 rw [wrap_i64 h0 h1]
 rfl
/-! comparisons -/
theorem run_intCmp {op : BinOp} {k : IntKind} {a b : Int} {v : Value} (ho : op = .eql ∨ op = .neq ∨ op = .lss ∨ op = .leq ∨ op = .gtr ∨ op = .geq) (h : ∀ w : World, (Op.intCmp op a b).run P w = .ok v w) : BinRun P op t (.int k a) (.int k b) v := by
 intro w X Y
 rcases ho with rfl | rfl | rfl | rfl | rfl | rfl <;> simp [eqGuard, binOp, h w]
theorem b_eq {k : IntKind} (a b : Int) : BinRun P .eql t (.int k a) (.int k b) (.bool (a == b)) := run_intCmp (by simp) fun _ => rfl
theorem b_ne {k : IntKind} (a b : Int) : BinRun P .neq t (.int k a) (.int k b) (.bool (a != b)) := run_intCmp (by simp) fun _ => rfl
theorem b_lt {k : IntKind} (a b : Int) : BinRun P .lss t (.int k a) (.int k b) (.bool (decide (a < b))) := run_intCmp (by simp) fun _ => rfl
theorem b_le {k : IntKind} (a b : Int) : BinRun P .leq t (.int k a) (.int k b) (.bool (decide (a ≤ b))) := run_intCmp (by simp) fun _ => rfl
theorem b_gt {k : IntKind} (a b : Int) : BinRun P .gtr t (.int k a) (.int k b) (.bool (decide (a > b))) := run_intCmp (by simp) fun _ => rfl
theorem b_ge {k : IntKind} (a b : Int) : BinRun P .geq t (.int k a) (.int k b) (.bool (decide (a ≥ b))) := run_intCmp (by simp) fun _ => rfl
/-- A comparison's outcome, known: 'c' decides it. -/
theorem b_true {op : BinOp} {x y : Value} {c : Bool} (h : BinRun P op t x y (.bool c)) (e : c = true) : BinRun P op t x y (.bool true) := e ▸ h
theorem b_false {op : BinOp} {x y : Value} {c : Bool} (h : BinRun P op t x y (.bool c)) (e : c = false) : BinRun P op t x y (.bool false) := e ▸ h
/-! division -/
theorem run_intDiv {op : BinOp} {k : IntKind} {a b : Int} {v : Value} (ho : op = .quo ∨ op = .rem) (h : ∀ w : World, (Op.intDiv op k a b).run P w = .ok v w) : BinRun P op t (.int k a) (.int k b) v := by
 intro w X Y
 rcases ho with rfl | rfl <;> simp [eqGuard, binOp, h w]
theorem b_quo {k : IntKind} (hk : k.signed = false) (x y : Nat) (hy : 0 < y) (hx : x < 2 ^ k.bits) : BinRun P .quo t (.int k x) (.int k y) (.int k ((x / y) : Nat)) :=
 run_intDiv (.inl rfl) fun w => by
  have h0 : ¬ ((y : Int) = 0) := by omega
  have e : (x : Int).tdiv y = ((x / y : Nat) : Int) := by rw [Int.tdiv_eq_ediv_of_nonneg (by omega)]; simp
  have hl : x / y < 2 ^ k.bits := Nat.lt_of_le_of_lt (Nat.div_le_self _ _) hx
  simp only [Op.intDiv, h0, if_false]
  rw [e, wrap_nat hk, Nat.mod_eq_of_lt hl]; rfl
theorem b_rem {k : IntKind} (x y : Nat) (hy : 0 < y) : BinRun P .rem t (.int k x) (.int k y) (.int k ((x % y) : Nat)) :=
 run_intDiv (.inr rfl) fun w => by
  have h0 : ¬ ((y : Int) = 0) := by omega
  have e : (x : Int).tmod y = ((x % y : Nat) : Int) := by rw [Int.tmod_eq_emod_of_nonneg (by omega)]; simp
  simp only [Op.intDiv, h0, if_false]
  rw [e]; rfl
/-! one operand -/
theorem u_not (b : Bool) : UnRun P .not (.bool b) (.bool !b) := fun _ => rfl
theorem u_xor64 (x : Nat) (hx : x < 2 ^ 64) : UnRun P .xor (u64 x) (u64 (2 ^ 64 - 1 - x)) := by
 intro w
 have e2 : ((BitVec.ofInt 64 (IntKind.u64.max)) ^^^ (BitVec.ofInt 64 (x : Int))).toNat = 2 ^ 64 - 1 - x := by
  have : BitVec.ofInt 64 (IntKind.u64.max) = BitVec.allOnes 64 := by decide
  rw [this, BitVec.allOnes_xor, BitVec.toNat_not, ofInt_nat, Nat.mod_eq_of_lt hx]
 have e3 : ((BitVec.ofInt IntKind.u64.bits (IntKind.u64.max)) ^^^ (BitVec.ofInt IntKind.u64.bits (x : Int))).toNat = 2 ^ 64 - 1 - x := e2
 show Result.ok (Value.int .u64 (IntKind.u64.wrap (((BitVec.ofInt IntKind.u64.bits (IntKind.u64.max)) ^^^ (BitVec.ofInt IntKind.u64.bits (x : Int))).toNat : Int))) w = _
 rw [e3, wrap_nat rfl]
 have : (2 ^ 64 - 1 - x) % 2 ^ IntKind.u64.bits = 2 ^ 64 - 1 - x := Nat.mod_eq_of_lt (by show _ < 2 ^ 64; omega)
 rw [this]
theorem u_neg64 (x : Nat) (hx : x ≤ 2 ^ 64) : UnRun P .neg (u64 x) (u64 ((2 ^ 64 - x) % 2 ^ 64)) := by
 intro w
 show (Op.intArith .sub .u64 0 (x : Int)).run P w = _
 simp only [Op.intArith, pure, Sem.run]
 rw [wrap_u rfl]
 have : (0 - (x : Int)) % 2 ^ IntKind.u64.bits = (((2 ^ 64 - x) % 2 ^ 64 : Nat) : Int) := by
  show (0 - (x : Int)) % 2 ^ 64 = _
  omega
 rw [this]
/-! conversions -/
theorem c_int {s u : TypeId} {ds : TypeDesc} {k j : IntKind} (hs : P.underlying s = some ds) (ht : P.underlying u = some (.int k)) (n : Int) : ConvRun P s u (.int j n) (.int k (k.wrap n)) := by
 intro w
 simp only [convert, underlying, program, bind, pure, Sem.bind, Sem.run, hs, ht]
 cases ds <;> rfl
theorem conv_eq {s u : TypeId} {x v v' : Value} (h : ConvRun P s u x v) (e : v = v') : ConvRun P s u x v' := e ▸ h
theorem c_nat {s u : TypeId} {ds : TypeDesc} {k j : IntKind} (hk : k.signed = false) (hs : P.underlying s = some ds) (ht : P.underlying u = some (.int k)) (n : Nat) : ConvRun P s u (.int j n) (.int k ((n % 2 ^ k.bits : Nat))) := conv_eq (c_int hs ht n) (by rw [wrap_nat hk])
theorem c_i64 {s u : TypeId} {ds : TypeDesc} {j : IntKind} (hs : P.underlying s = some ds) (ht : P.underlying u = some (.int .i64)) {n : Int} (h0 : -9223372036854775808 ≤ n) (h1 : n < 9223372036854775808) : ConvRun P s u (.int j n) (i64 n) := conv_eq (c_int hs ht n) (by rw [wrap_i64 h0 h1])
end
/-! the same at 64 bits -/
section
variable {P : Program} {t : TypeId}
theorem b_and64 (x y : Nat) (hx : x < 2 ^ 64) (hy : y < 2 ^ 64) : BinRun P .and t (u64 x) (u64 y) (u64 (x &&& y)) := b_and rfl x y hx hy
theorem b_or64 (x y : Nat) (hx : x < 2 ^ 64) (hy : y < 2 ^ 64) : BinRun P .or t (u64 x) (u64 y) (u64 (x ||| y)) := b_or rfl x y hx hy
theorem b_xor64 (x y : Nat) (hx : x < 2 ^ 64) (hy : y < 2 ^ 64) : BinRun P .xor t (u64 x) (u64 y) (u64 (x ^^^ y)) := b_xor rfl x y hx hy
theorem b_andNot64 (x y : Nat) (hx : x < 2 ^ 64) (hy : y < 2 ^ 64) : BinRun P .andNot t (u64 x) (u64 y) (u64 (x &&& (2 ^ 64 - 1 - y))) := b_andNot rfl x y hx hy
theorem b_shl64 (x : Nat) {j : IntKind} (y : Nat) (hy : y ≤ 64) : BinRun P .shl t (u64 x) (.int j y) (u64 (x * 2 ^ y % 2 ^ 64)) := bin_eq (b_shl rfl x j y) (by rw [Nat.min_eq_left (show y ≤ IntKind.u64.bits from hy)]; rfl)
theorem b_shr64 (x : Nat) {j : IntKind} (y : Nat) (hy : y ≤ 64) : BinRun P .shr t (u64 x) (.int j y) (u64 (x / 2 ^ y)) := bin_eq (b_shr x j y) (by rw [Nat.min_eq_left (show y ≤ IntKind.u64.bits from hy)])
theorem b_add16 (x y : Nat) (h : x + y < 65536) : BinRun P .add t (u16 x) (u16 y) (u16 (x + y)) := bin_eq (b_addu rfl x y) (by rw [Nat.mod_eq_of_lt (show x + y < 2 ^ IntKind.u16.bits from h)])
theorem b_sub16 (x y : Nat) (h : y ≤ x) (hx : x < 65536) : BinRun P .sub t (u16 x) (u16 y) (u16 (x - y)) := bin_eq (b_subu rfl x y h) (by rw [Nat.mod_eq_of_lt (show x - y < 2 ^ IntKind.u16.bits from Nat.lt_of_le_of_lt (Nat.sub_le _ _) hx)])
theorem b_mul16 (x y : Nat) (h : x * y < 65536) : BinRun P .mul t (u16 x) (u16 y) (u16 (x * y)) := bin_eq (b_mulu rfl x y) (by rw [Nat.mod_eq_of_lt (show x * y < 2 ^ IntKind.u16.bits from h)])
theorem b_quo16 (x y : Nat) (hy : 0 < y) (hx : x < 65536) : BinRun P .quo t (u16 x) (u16 y) (u16 (x / y)) := b_quo rfl x y hy hx
theorem b_add8 (x y : Nat) (h : x + y < 256) : BinRun P .add t (u8 x) (u8 y) (u8 (x + y)) := bin_eq (b_addu rfl x y) (by rw [Nat.mod_eq_of_lt (show x + y < 2 ^ IntKind.u8.bits from h)])
theorem b_sub8 (x y : Nat) (h : y ≤ x) (hx : x < 256) : BinRun P .sub t (u8 x) (u8 y) (u8 (x - y)) := bin_eq (b_subu rfl x y h) (by rw [Nat.mod_eq_of_lt (show x - y < 2 ^ IntKind.u8.bits from Nat.lt_of_le_of_lt (Nat.sub_le _ _) hx)])
theorem b_and8 (x y : Nat) (hx : x < 256) (hy : y < 256) : BinRun P .and t (u8 x) (u8 y) (u8 (x &&& y)) := b_and rfl x y hx hy
theorem b_quo64 (x y : Nat) (hy : 0 < y) (hx : x < 2 ^ 64) : BinRun P .quo t (u64 x) (u64 y) (u64 (x / y)) := b_quo rfl x y hy hx
theorem b_rem64 (x y : Nat) (hy : 0 < y) : BinRun P .rem t (u64 x) (u64 y) (u64 (x % y)) := b_rem x y hy
theorem c_u64 {s u : TypeId} {ds : TypeDesc} {j : IntKind} (hs : P.underlying s = some ds) (ht : P.underlying u = some (.int .u64)) (n : Nat) (hn : n < 2 ^ 64) : ConvRun P s u (.int j n) (u64 n) := conv_eq (c_nat rfl hs ht n) (by rw [Nat.mod_eq_of_lt]; exact hn)
theorem c_u8 {s u : TypeId} {ds : TypeDesc} {j : IntKind} (hs : P.underlying s = some ds) (ht : P.underlying u = some (.int .u8)) (n : Nat) : ConvRun P s u (.int j n) (u8 (n % 256)) := c_nat rfl hs ht n
theorem c_u16 {s u : TypeId} {ds : TypeDesc} {j : IntKind} (hs : P.underlying s = some ds) (ht : P.underlying u = some (.int .u16)) (n : Nat) : ConvRun P s u (.int j n) (u16 (n % 65536)) := c_nat rfl hs ht n
theorem b_andi (x y : Nat) (hx : x < 2 ^ 63) (hy : y < 2 ^ 63) : BinRun P .and t (i64 x) (i64 y) (i64 ((x &&& y : Nat))) :=
 run_intBits (.inl rfl) fun w => by
  have h1 : x % 2 ^ IntKind.i64.bits = x := Nat.mod_eq_of_lt (show x < 2 ^ 64 by omega)
  have h2 : y % 2 ^ IntKind.i64.bits = y := Nat.mod_eq_of_lt (show y < 2 ^ 64 by omega)
  simp only [Op.intBits, pure, Sem.run, BitVec.toNat_and, ofInt_nat, h1, h2]
  have h3 : x &&& y < 2 ^ 63 := Nat.and_lt_two_pow x hy
  rw [wrap_i64 (by omega) (by omega)]
end
/-! addresses of elements -/
section
variable {P : Program}
theorem x_slice {t e : TypeId} {n : Nat} (ht : P.underlying t = some (.slice e)) (hs : SizeRun P e n) {k : IntKind} {b o l c i : Nat} (hi : i < l) : IndexRun P t (.slice (some ⟨b, o, none⟩) l c) (.int k i) (.pointer (some ⟨b, o + i * n, none⟩)) := by
 intro w
 have h1 : (0 : Int) ≤ (i : Int) ∧ (i : Int) < (l : Int) := ⟨by omega, by omega⟩
 have hu : ∀ w, (underlying t).run P w = .ok (.slice e) w := fun w => by simp only [underlying, program, bind, pure, Sem.bind, Sem.run, ht]
 simp only [Instr.indexAt, asIntOf, bind, pure, Sem.bind, Sem.run_bind', hu, Result.andThen_ok, h1, and_self, if_true, hs w, Int.toNat_natCast]
 simp only [addr_add]
 rfl
theorem x_array {t e : TypeId} {n l : Nat} (ht : P.underlying t = some (.array l e)) (hs : SizeRun P e n) {k : IntKind} {b o i : Nat} (hi : i < l) : IndexRun P t (.pointer (some ⟨b, o, none⟩)) (.int k i) (.pointer (some ⟨b, o + i * n, none⟩)) := by
 intro w
 have h1 : (0 : Int) ≤ (i : Int) ∧ (i : Int) < (l : Int) := ⟨by omega, by omega⟩
 have hu : ∀ w, (underlying t).run P w = .ok (.array l e) w := fun w => by simp only [underlying, program, bind, pure, Sem.bind, Sem.run, ht]
 simp only [Instr.indexAt, Instr.sureAddr, asIntOf, bind, pure, Sem.bind, Sem.run_bind', hu, Result.andThen_ok, h1, and_self, if_true, hs w, Int.toNat_natCast]
 simp only [addr_add]
 rfl
end
end
/-- Bytes, the lowest first. -/
def wl : List Nat → Nat
 | [] => 0
 | a :: l => a + 256 * wl l
theorem testBit_wl : ∀ (l : List Nat), (∀ a ∈ l, a < 256) → ∀ k, (wl l).testBit k = (l.getD (k / 8) 0).testBit (k % 8)
 | [], _, k => by simp [wl]
 | a :: l, h, k => by
  have ha : a < 2 ^ 8 := h a (List.mem_cons_self ..)
  have ih := testBit_wl l (fun b hb => h b (List.mem_cons_of_mem _ hb)) (k - 8)
  show (a + 2 ^ 8 * wl l).testBit k = _
  rw [Nat.add_comm, Nat.testBit_two_pow_mul_add _ ha]
  by_cases hk : k < 8
  ·rw [if_pos hk, show k / 8 = 0 from by omega, show k % 8 = k from by omega]; rfl
  ·rw [if_neg hk, ih, show k / 8 = (k - 8) / 8 + 1 from by omega, show k % 8 = (k - 8) % 8 from by omega]; rfl
theorem wl_lt : ∀ (l : List Nat), (∀ a ∈ l, a < 256) → wl l < 256 ^ l.length
 | [], _ => by simp [wl]
 | a :: l, h => by
  have ha := h a (List.mem_cons_self ..)
  have ih := wl_lt l (fun b hb => h b (List.mem_cons_of_mem _ hb))
  simp only [wl, List.length_cons, Nat.pow_succ]
  omega
/-- The word of the eight bytes c 0 .. c 7. -/
def word (c : Nat → Nat) : Nat := wl [c 0, c 1, c 2, c 3, c 4, c 5, c 6, c 7]
def Bytes (c : Nat → Nat) : Prop := ∀ i, i < 8 → c i < 256
theorem Bytes.mem {c : Nat → Nat} (h : Bytes c) : ∀ a ∈ [c 0, c 1, c 2, c 3, c 4, c 5, c 6, c 7], a < 256 := by
 intro a ha
 simp only [List.mem_cons, List.not_mem_nil, or_false] at ha
 rcases ha with rfl | rfl | rfl | rfl | rfl | rfl | rfl | rfl <;> exact h _ (by omega)
theorem word_lt {c : Nat → Nat} (h : Bytes c) : word c < 2 ^ 64 := by
 have := wl_lt _ h.mem
 rw [show [c 0, c 1, c 2, c 3, c 4, c 5, c 6, c 7].length = 8 from rfl] at this
 have e : (256 : Nat) ^ 8 = 2 ^ 64 := by decide
 unfold word; omega
theorem getD8 (c : Nat → Nat) (j : Nat) (hj : j < 8) : [c 0, c 1, c 2, c 3, c 4, c 5, c 6, c 7].getD j 0 = c j := by
 match j, hj with
 | 0, _ | 1, _ | 2, _ | 3, _ | 4, _ | 5, _ | 6, _ | 7, _ => rfl
theorem testBit_word {c : Nat → Nat} (h : Bytes c) (k : Nat) (hk : k < 64) : (word c).testBit k = (c (k / 8)).testBit (k % 8) := by
 unfold word
 rw [testBit_wl _ h.mem, getD8 c _ (by omega)]
theorem testBit_word_ge {c : Nat → Nat} (h : Bytes c) (k : Nat) (hk : 64 ≤ k) : (word c).testBit k = false :=
 Nat.testBit_lt_two_pow (Nat.lt_of_lt_of_le (word_lt h) (Nat.pow_le_pow_right (by omega) hk))
theorem word_ext {x : Nat} {c : Nat → Nat} (h : Bytes c) (hx : x < 2 ^ 64) (e : ∀ i j, i < 8 → j < 8 → x.testBit (8 * i + j) = (c i).testBit j) : x = word c := by
 apply Nat.eq_of_testBit_eq
 intro k
 by_cases hk : k < 64
 ·rw [testBit_word h k hk, ← e (k / 8) (k % 8) (by omega) (by omega), show 8 * (k / 8) + k % 8 = k from by omega]
 ·rw [testBit_word_ge h k (by omega)]
  exact Nat.testBit_lt_two_pow (Nat.lt_of_lt_of_le hx (Nat.pow_le_pow_right (by omega) (by omega)))
theorem word_congr {c d : Nat → Nat} (h : ∀ i, i < 8 → c i = d i) : word c = word d := by
 unfold word
 rw [h 0 (by omega), h 1 (by omega), h 2 (by omega), h 3 (by omega), h 4 (by omega), h 5 (by omega), h 6 (by omega), h 7 (by omega)]
theorem testBit_word' {c : Nat → Nat} (h : Bytes c) (i j : Nat) (hi : i < 8) (hj : j < 8) : (word c).testBit (8 * i + j) = (c i).testBit j := by
 rw [testBit_word h _ (by omega), show (8 * i + j) / 8 = i from by omega, show (8 * i + j) % 8 = j from by omega]
theorem bytes_and {c : Nat → Nat} (d : Nat → Nat) (h : Bytes c) : Bytes (fun i => c i &&& d i) := fun i hi => Nat.lt_of_le_of_lt Nat.and_le_left (h i hi)
theorem word_and {c d : Nat → Nat} (h : Bytes c) (k : Bytes d) : word c &&& word d = word (fun i => c i &&& d i) :=
 word_ext (bytes_and d h) (Nat.lt_of_le_of_lt Nat.and_le_left (word_lt h)) fun i j hi hj => by
  rw [Nat.testBit_and, Nat.testBit_and, testBit_word' h i j hi hj, testBit_word' k i j hi hj]
theorem word_xor {c d : Nat → Nat} (h : Bytes c) (k : Bytes d) : word c ^^^ word d = word (fun i => c i ^^^ d i) :=
 word_ext (fun i hi => Nat.xor_lt_two_pow (n := 8) (h i hi) (k i hi)) (Nat.xor_lt_two_pow (word_lt h) (word_lt k)) fun i j hi hj => by
  rw [Nat.testBit_xor, Nat.testBit_xor, testBit_word' h i j hi hj, testBit_word' k i j hi hj]
theorem word_not {c : Nat → Nat} (h : Bytes c) : 2 ^ 64 - 1 - word c = word (fun i => 255 - c i) := by
 have h0 := h 0 (by omega); have h1 := h 1 (by omega); have h2 := h 2 (by omega); have h3 := h 3 (by omega)
 have h4 := h 4 (by omega); have h5 := h 5 (by omega); have h6 := h 6 (by omega); have h7 := h 7 (by omega)
 simp only [word, wl]
 omega
theorem msb_word : 9259542123273814144 = word (fun _ => 128) := by decide
theorem lsb_mul (h : Nat) : 72340172838076673 * h = word (fun _ => h) := by simp only [word, wl]; omega

/-! ### Sets of slots -/
/-- The mask of the slots of which q holds. -/
def mk8 (q : Nat → Bool) : Nat := (q 0).toNat + 2 * (q 1).toNat + 4 * (q 2).toNat + 8 * (q 3).toNat + 16 * (q 4).toNat + 32 * (q 5).toNat + 64 * (q 6).toNat + 128 * (q 7).toNat
theorem mk8_lt (q : Nat → Bool) : mk8 q < 256 := by
 unfold mk8
 have := fun i => Bool.toNat_le (q i)
 have h0 := this 0; have h1 := this 1; have h2 := this 2; have h3 := this 3; have h4 := this 4; have h5 := this 5; have h6 := this 6; have h7 := this 7
 omega
theorem mk8_bit (q : Nat → Bool) (i : Nat) (hi : i < 8) : (mk8 q).testBit i = q i := by
 have key : ∀ a b c d e f g h : Bool, ∀ i, i < 8 → (a.toNat + 2 * b.toNat + 4 * c.toNat + 8 * d.toNat + 16 * e.toNat + 32 * f.toNat + 64 * g.toNat + 128 * h.toNat).testBit i = [a, b, c, d, e, f, g, h].getD i false := by decide +kernel
 unfold mk8
 rw [key _ _ _ _ _ _ _ _ i hi]
 match i, hi with
 | 0, _ | 1, _ | 2, _ | 3, _ | 4, _ | 5, _ | 6, _ | 7, _ => rfl
/-- A mask as the word that the portable code has: 0x80 in the byte of each slot. -/
def bsw (m : Nat) : Nat := word (fun i => if m.testBit i then 128 else 0)
theorem bsw_bytes (m : Nat) : Bytes (fun i => if m.testBit i then 128 else 0) := fun i _ => by dsimp only; split <;> omega
theorem bsw_lt (m : Nat) : bsw m < 2 ^ 64 := word_lt (bsw_bytes m)
theorem bsw_mk8 (q : Nat → Bool) : bsw (mk8 q) = word (fun i => if q i then 128 else 0) := word_congr fun i hi => by rw [mk8_bit q i hi]
theorem bsw_zero : ∀ m, m < 256 → (bsw m = 0 ↔ m = 0) := by decide +kernel
/-- The least slot of a set. -/
def low (m : Nat) : Nat := if m.testBit 0 then 0 else if m.testBit 1 then 1 else if m.testBit 2 then 2 else if m.testBit 3 then 3 else if m.testBit 4 then 4 else if m.testBit 5 then 5 else if m.testBit 6 then 6 else 7
theorem low_lt (m : Nat) : low m < 8 := by
 unfold low; repeat' split
 all_goals omega
theorem low_in : ∀ m, m < 256 → m ≠ 0 → m.testBit (low m) = true := by decide +kernel
theorem low_least : ∀ m, m < 256 → ∀ i, i < 8 → m.testBit i = true → low m ≤ i := by decide +kernel
/-- A set less its least slot. -/
def tl8 (m : Nat) : Nat := m &&& (m - 1)
theorem tl8_lt (m : Nat) (h : m < 256) : tl8 m < 256 := Nat.lt_of_le_of_lt Nat.and_le_left h
theorem tl8_bit : ∀ m, m < 256 → ∀ i, i < 8 → (tl8 m).testBit i = (m.testBit i && !Nat.beq i (low m)) := by decide +kernel
theorem tl8_less : ∀ m, m < 256 → m ≠ 0 → tl8 m < m := by decide +kernel
theorem bsw_tl8 : ∀ m, m < 256 → m ≠ 0 → bsw m &&& (bsw m - 1) = bsw (tl8 m) := by decide +kernel
theorem bsw_low : ∀ m, m < 256 → m ≠ 0 → bsw m &&& ((2 ^ 64 - bsw m) % 2 ^ 64) = 2 ^ (8 * low m + 7) := by decide +kernel
/-- How many slots a set has. -/
def card8 (m : Nat) : Nat := (m.testBit 0).toNat + (m.testBit 1).toNat + (m.testBit 2).toNat + (m.testBit 3).toNat + (m.testBit 4).toNat + (m.testBit 5).toNat + (m.testBit 6).toNat + (m.testBit 7).toNat
/-- A set less the slots below i. -/
def above (m i : Nat) : Nat := mk8 (fun j => m.testBit j && Nat.ble i j)
theorem bsw_above : ∀ m, m < 256 → ∀ i, i < 8 → bsw m &&& (2 ^ 64 - 1 - (2 ^ (8 * i) - 1)) = bsw (above m i) := by decide +kernel
theorem mem_ne_zero {m i : Nat} (h : m.testBit i = true) : m ≠ 0 := by rintro rfl; simp at h
theorem eq_zero_of {m : Nat} (hm : m < 256) (h : ∀ i, i < 8 → m.testBit i = false) : m = 0 := by
 apply Nat.eq_of_testBit_eq
 intro i
 by_cases hi : i < 8
 ·rw [h i hi]; simp
 ·simp only [Nat.zero_testBit]
  exact Nat.testBit_lt_two_pow (Nat.lt_of_lt_of_le hm (show 2 ^ 8 ≤ 2 ^ i from Nat.pow_le_pow_right (by omega) (by omega)))

/-! ### The matches -/
theorem byte_full : ∀ c, c < 256 → (255 - c) &&& 128 = if decide (c < 128) then 128 else 0 := by decide +kernel
theorem byte_free : ∀ c, c < 256 → c &&& 128 = if decide (128 ≤ c) then 128 else 0 := by decide +kernel
theorem match_full {c : Nat → Nat} (h : Bytes c) : (2 ^ 64 - 1 - word c) &&& 9259542123273814144 = bsw (mk8 fun i => decide (c i < 128)) := by
 rw [word_not h, msb_word, word_and (fun i _ => by omega) (fun i _ => by omega), bsw_mk8]
 exact word_congr fun i hi => byte_full _ (h i hi)
theorem match_free {c : Nat → Nat} (h : Bytes c) : word c &&& 9259542123273814144 = bsw (mk8 fun i => decide (128 ≤ c i)) := by
 rw [msb_word, word_and h (fun i _ => by omega), bsw_mk8]
 exact word_congr fun i hi => byte_free _ (h i hi)
theorem match_empty {c : Nat → Nat} (h : Bytes c) : (word c &&& (2 ^ 64 - 1 - (word c * 2 ^ 6) % 2 ^ 64)) &&& 9259542123273814144 = bsw (mk8 fun i => (c i).testBit 7 && !(c i).testBit 1) := by
 rw [bsw_mk8]
 refine word_ext (fun i _ => by split <;> omega) (Nat.lt_of_le_of_lt Nat.and_le_left (Nat.lt_of_le_of_lt Nat.and_le_left (word_lt h))) fun i j hi hj => ?_
 rw [Nat.testBit_and, Nat.testBit_and, msb_word, testBit_word' h i j hi hj, testBit_word' (fun _ _ => by omega) i j hi hj]
 have e1 : (128 : Nat).testBit j = decide (j = 7) := by
  match j, hj with
  | 0, _ | 1, _ | 2, _ | 3, _ | 4, _ | 5, _ | 6, _ | 7, _ => decide
 have e2 : (if (c i).testBit 7 && !(c i).testBit 1 then 128 else 0 : Nat).testBit j = (((c i).testBit 7 && !(c i).testBit 1) && decide (j = 7)) := by
  split <;> simp_all
 rw [e1, e2]
 by_cases hj7 : j = 7
 ·subst hj7
  have e3 : 2 ^ 64 - 1 - (word c * 2 ^ 6) % 2 ^ 64 = 2 ^ 64 - ((word c * 2 ^ 6) % 2 ^ 64 + 1) := by omega
  rw [e3, Nat.testBit_two_pow_sub_succ (Nat.mod_lt _ (by decide)), Nat.testBit_mod_two_pow, Nat.testBit_mul_two_pow]
  have e4 : 8 * i + 7 - 6 = 8 * i + 1 := by omega
  have e5 : decide (8 * i + 7 < 64) = true := decide_eq_true (by omega)
  have e6 : decide (6 ≤ 8 * i + 7) = true := decide_eq_true (by omega)
  rw [e4, testBit_word' h i 1 hi (by omega), e5, e6]
  simp
 ·simp [hj7]
/-- Subtract one from every byte, with a borrow. -/
def sb : Nat → List Nat → List Nat
 | _, [] => []
 | β, a :: l => ((a + 255 - β) % 256) :: sb (if a < 1 + β then 1 else 0) l
def sbOut : Nat → List Nat → Nat
 | β, [] => β
 | β, a :: l => sbOut (if a < 1 + β then 1 else 0) l
theorem sb_wl : ∀ (l : List Nat) (β : Nat), β ≤ 1 → (∀ a ∈ l, a < 256) → wl (sb β l) + wl (l.map fun _ => 1) + β = wl l + 256 ^ l.length * sbOut β l ∧ sbOut β l ≤ 1 ∧ (sb β l).length = l.length ∧ ∀ a ∈ sb β l, a < 256
 | [], β, hβ, _ => by simp [wl, sb, sbOut, hβ]
 | a :: l, β, hβ, h => by
  have ha := h a (List.mem_cons_self ..)
  have hβ' : (if a < 1 + β then 1 else 0) ≤ 1 := by split <;> omega
  obtain ⟨h1, h2, h3, h4⟩ := sb_wl l (if a < 1 + β then 1 else 0) hβ' (fun b hb => h b (List.mem_cons_of_mem _ hb))
  refine ⟨?_, h2, by simp [sb, h3], fun b hb => ?_⟩
  ·simp only [sb, sbOut, wl, List.map_cons, List.length_cons, Nat.pow_succ]
   have e : 256 ^ l.length * 256 * sbOut (if a < 1 + β then 1 else 0) l = 256 * (256 ^ l.length * sbOut (if a < 1 + β then 1 else 0) l) := by
    rw [Nat.mul_comm (256 ^ l.length) 256, Nat.mul_assoc]
   rw [e]
   generalize 256 ^ l.length * sbOut (if a < 1 + β then 1 else 0) l = X at *
   by_cases hlt : a < 1 + β
   ·rw [if_pos hlt] at *; omega
   ·rw [if_neg hlt] at *; omega
  ·simp only [sb, List.mem_cons] at hb
   rcases hb with rfl | hb
   ·omega
   ·exact h4 b hb
theorem sb_top : ∀ (l : List Nat) (β : Nat), β ≤ 1 → ∀ i : Nat, l[i]? = some 0 → ∃ y, (sb β l)[i]? = some y ∧ 254 ≤ y
 | [], _, _, i, h => by simp at h
 | a :: l, β, hβ, 0, h => by
  simp at h; subst h
  exact ⟨(0 + 255 - β) % 256, rfl, by omega⟩
 | a :: l, β, hβ, i + 1, h => by
  obtain ⟨y, h1, h2⟩ := sb_top l (if a < 1 + β then 1 else 0) (by split <;> omega) i (by simpa using h)
  exact ⟨y, by simpa [sb] using h1, h2⟩
/-- The match by the low bits of a hash: it holds every slot of that byte, and full slots alone. -/
theorem match_h2 {c : Nat → Nat} (h : Bytes c) (x : Nat) (hx : x < 128) :
  ∃ m, m < 256 ∧ ((((word c ^^^ (72340172838076673 * x % 2 ^ 64)) + 2 ^ 64 - 72340172838076673) % 2 ^ 64) &&& (2 ^ 64 - 1 - (word c ^^^ (72340172838076673 * x % 2 ^ 64)))) &&& 9259542123273814144 = bsw m ∧
   (∀ i, i < 8 → c i = x → m.testBit i = true) ∧ (∀ i, i < 8 → m.testBit i = true → c i < 128) := by
 have e1 : 72340172838076673 * x % 2 ^ 64 = word (fun _ => x) := by rw [lsb_mul, Nat.mod_eq_of_lt (word_lt (fun _ _ => by omega))]
 have hb : Bytes (fun i => c i ^^^ x) := fun i hi => Nat.xor_lt_two_pow (n := 8) (h i hi) (show x < 2 ^ 8 by omega)
 rw [e1, word_xor h (fun _ _ => by omega)]
 let l := [c 0 ^^^ x, c 1 ^^^ x, c 2 ^^^ x, c 3 ^^^ x, c 4 ^^^ x, c 5 ^^^ x, c 6 ^^^ x, c 7 ^^^ x]
 have hl : word (fun i => c i ^^^ x) = wl l := rfl
 obtain ⟨s1, s2, s3, s4⟩ := sb_wl l 0 (by omega) hb.mem
 let y := sb 0 l
 let d : Nat → Nat := fun i => y.getD i 0
 have hd : Bytes d := fun i hi => by
  show y.getD i 0 < 256
  rw [List.getD_eq_getElem?_getD]
  cases he : y[i]? with
  | none => simp
  | some a => exact s4 a (List.mem_of_getElem? he)
 have hy : wl y = word d := by
  have : y = [d 0, d 1, d 2, d 3, d 4, d 5, d 6, d 7] := by
   have h8 : y.length = 8 := s3
   have key : ∀ z : List Nat, z.length = 8 → z = [z.getD 0 0, z.getD 1 0, z.getD 2 0, z.getD 3 0, z.getD 4 0, z.getD 5 0, z.getD 6 0, z.getD 7 0] := fun z hz => by
    match z, hz with
    | [_, _, _, _, _, _, _, _], _ => rfl
   exact key y h8
  rw [this]; rfl
 have e2 : (word (fun i => c i ^^^ x) + 2 ^ 64 - 72340172838076673) % 2 ^ 64 = word d := by
  have w1 : wl (l.map fun _ => 1) = 72340172838076673 := by show wl [1, 1, 1, 1, 1, 1, 1, 1] = _; decide
  have w2 : (256 : Nat) ^ l.length = 2 ^ 64 := by show (256 : Nat) ^ 8 = 2 ^ 64; decide
  have w3 := word_lt hd
  rw [w1, w2] at s1
  rw [hl]
  rw [← hy] at w3 ⊢
  have : wl y + 72340172838076673 = wl l + 2 ^ 64 * sbOut 0 l := by simpa using s1
  generalize sbOut 0 l = o at *
  omega
 rw [e2, word_not hb, word_and hd (fun i _ => by omega), msb_word, word_and (bytes_and _ hd) (fun _ _ => by omega)]
 refine ⟨mk8 fun i => (d i).testBit 7 && !(c i ^^^ x).testBit 7, mk8_lt _, ?_, ?_, ?_⟩
 ·rw [bsw_mk8]
  refine word_congr fun i hi => ?_
  have k1 : ∀ a, a < 256 → a &&& 128 = if a.testBit 7 then 128 else 0 := by decide +kernel
  have k2 : ∀ b, b < 256 → (255 - b) &&& 128 = if b.testBit 7 then 0 else 128 := by decide +kernel
  have k3 : ∀ a y : Nat, (a &&& y) &&& 128 = (a &&& 128) &&& (y &&& 128) := fun a y => by
   apply Nat.eq_of_testBit_eq; intro k
   simp only [Nat.testBit_and]
   cases a.testBit k <;> cases y.testBit k <;> cases (128 : Nat).testBit k <;> rfl
  rw [k3, k1 _ (hd i hi), k2 _ (hb i hi)]
  cases (d i).testBit 7 <;> cases (c i ^^^ x).testBit 7 <;> decide
 ·intro i hi hc
  rw [mk8_bit _ i hi]
  have hz : l[i]? = some 0 := by
   have : c i ^^^ x = 0 := by rw [hc]; exact Nat.xor_self x
   match i, hi with
   | 0, _ | 1, _ | 2, _ | 3, _ | 4, _ | 5, _ | 6, _ | 7, _ => exact congrArg some this
  obtain ⟨u, h1, h2⟩ := sb_top l 0 (by omega) i hz
  have hdi : d i = u := by show y.getD i 0 = u; rw [List.getD_eq_getElem?_getD, h1]; rfl
  have hu := hd i hi
  rw [hdi, hc, Nat.xor_self]
  have key : ∀ u, u < 256 → 254 ≤ u → u.testBit 7 = true := by decide +kernel
  rw [key u (hdi ▸ hu) h2]; simp
 ·intro i hi hm
  rw [mk8_bit _ i hi] at hm
  simp only [Bool.and_eq_true, Bool.not_eq_true'] at hm
  have key : ∀ a, a < 256 → a.testBit 7 = false → a < 128 := by decide +kernel
  have hx7 : x.testBit 7 = false := Nat.testBit_lt_two_pow (i := 7) (by omega)
  refine key _ (h i hi) ?_
  have := hm.2
  rw [Nat.testBit_xor, hx7] at this
  simpa using this
section
variable {w0 w : World} {H : Heap}
theorem keep {v v' : Value} (e : v = v') (h : Mem w0 w H) : Keeps w0 H v' (.returned v) w := ⟨by rw [e], h⟩
/-! ### Words -/
theorem word_lt' {c : Nat → Nat} (h : Bytes c) : word c < 2 ^ 64 := word_lt h
theorem c130 (hM : Mem w0 w H) (g h : Nat) (hg : g < 2 ^ 64) : Calls Tryz.prog 130 [u64 g, u64 h].toArray w (Keeps w0 H (u64 ((((g ^^^ (72340172838076673 * h % 2 ^ 64)) + 2 ^ 64 - 72340172838076673) % 2 ^ 64) &&& (2 ^ 64 - 1 - (g ^^^ (72340172838076673 * h % 2 ^ 64))) &&& 9259542123273814144))) := by
 have hx : g ^^^ (72340172838076673 * h % 2 ^ 64) < 2 ^ 64 := Nat.xor_lt_two_pow hg (Nat.mod_lt _ (by decide))
 refine calls_start Tryz.func130 rfl Tryz.ntmps130 (Nat.le_of_ble_eq_true rfl) ?_
 refine rs hM ?_
 refine asg ?_
 refine rw_nil ?_; intro w hM
 refine rs hM ?_
 refine mv ?_
 refine mv ?_
 refine rw_bin rfl rfl rfl rfl (b_mul64 72340172838076673 _) ?_
 refine rw_bin rfl rfl rfl rfl (b_xor64 _ _ hg (Nat.mod_lt _ (by decide))) ?_
 refine asg ?_
 refine rw_nil ?_; intro w hM
 refine rs hM ?_
 refine mv ?_
 refine rw_bin rfl rfl rfl rfl (b_sub64 _ _ (by decide)) ?_
 refine mv ?_
 refine rw_bin rfl rfl rfl rfl (b_andNot64 _ _ (Nat.mod_lt _ (by decide)) hx) ?_
 refine rw_bin rfl rfl rfl rfl (b_and64 _ _ (Nat.lt_of_le_of_lt Nat.and_le_left (Nat.mod_lt _ (by decide))) (by decide)) ?_
 refine asg ?_
 refine rw_nil ?_; intro w hM
 refine wp_ret ?_
 exact post_tmp rfl rfl rfl (keep rfl hM)
theorem c114 (hM : Mem w0 w H) (g h : Nat) (hg : g < 2 ^ 64) : Calls Tryz.prog 114 [u64 g, u64 h].toArray w (Keeps w0 H (u64 ((((g ^^^ (72340172838076673 * h % 2 ^ 64)) + 2 ^ 64 - 72340172838076673) % 2 ^ 64) &&& (2 ^ 64 - 1 - (g ^^^ (72340172838076673 * h % 2 ^ 64))) &&& 9259542123273814144))) := by
 refine calls_start Tryz.func114 rfl Tryz.ntmps114 (Nat.le_of_ble_eq_true rfl) ?_
 refine rs hM ?_
 refine asg ?_
 refine rw_nil ?_; intro w hM
 refine rs hM ?_
 refine mv ?_
 refine mv ?_
 refine rw_callq cr130 rfl rfl (fun H' w hle hM => c130 hM _ _ hg) rfl ?_
 refine asg ?_
 refine rw_nil ?_; intro w hM
 refine wp_ret ?_
 exact post_tmp rfl rfl rfl (keep rfl hM)
/-- matchH2, over a word of bytes. -/
theorem c114w (c : Nat → Nat) (hc : Bytes c) (x : Nat) (hx : x < 128) : ∃ m, m < 256 ∧ (∀ i, i < 8 → c i = x → m.testBit i = true) ∧ (∀ i, i < 8 → m.testBit i = true → c i < 128) ∧
  ∀ {w0 w : World} {H : Heap}, Mem w0 w H → Calls Tryz.prog 114 [u64 (word c), u64 x].toArray w (Keeps w0 H (u64 (bsw m))) := by
 obtain ⟨m, h1, h2, h3, h4⟩ := match_h2 hc x hx
 exact ⟨m, h1, h3, h4, fun hM => by rw [← h2]; exact c114 hM _ _ (word_lt hc)⟩
theorem c131 (hM : Mem w0 w H) (c : Nat → Nat) (hc : Bytes c) : Calls Tryz.prog 131 [u64 (word c)].toArray w (Keeps w0 H (u64 (bsw (mk8 fun i => (c i).testBit 7 && !(c i).testBit 1)))) := by
 have hg := word_lt hc
 refine calls_start Tryz.func131 rfl Tryz.ntmps131 (Nat.le_of_ble_eq_true rfl) ?_
 refine rs hM ?_
 refine asg ?_
 refine rw_nil ?_; intro w hM
 refine rs hM ?_
 refine mv ?_
 refine asg ?_
 refine rw_nil ?_; intro w hM
 refine rs hM ?_
 refine mv ?_
 refine mv ?_
 refine rw_bin rfl rfl rfl rfl (b_shl64 _ _ (by decide)) ?_
 refine rw_bin rfl rfl rfl rfl (b_andNot64 _ _ hg (Nat.mod_lt _ (by decide))) ?_
 refine rw_bin rfl rfl rfl rfl (b_and64 _ _ (Nat.lt_of_le_of_lt Nat.and_le_left hg) (by decide)) ?_
 refine asg ?_
 refine rw_nil ?_; intro w hM
 refine wp_ret ?_
 exact post_tmp rfl rfl rfl (keep (congrArg u64 (match_empty hc)) hM)
theorem c120 (hM : Mem w0 w H) (c : Nat → Nat) (hc : Bytes c) : Calls Tryz.prog 120 [u64 (word c)].toArray w (Keeps w0 H (u64 (bsw (mk8 fun i => (c i).testBit 7 && !(c i).testBit 1)))) := by
 refine calls_start Tryz.func120 rfl Tryz.ntmps120 (Nat.le_of_ble_eq_true rfl) ?_
 refine rs hM ?_
 refine asg ?_
 refine rw_nil ?_; intro w hM
 refine rs hM ?_
 refine mv ?_
 refine rw_callq cr131 rfl rfl (fun H' w hle hM => c131 hM _ hc) rfl ?_
 refine asg ?_
 refine rw_nil ?_; intro w hM
 refine wp_ret ?_
 exact post_tmp rfl rfl rfl (keep rfl hM)
theorem c132 (hM : Mem w0 w H) (c : Nat → Nat) (hc : Bytes c) : Calls Tryz.prog 132 [u64 (word c)].toArray w (Keeps w0 H (u64 (bsw (mk8 fun i => decide (128 ≤ c i))))) := by
 have hg := word_lt hc
 refine calls_start Tryz.func132 rfl Tryz.ntmps132 (Nat.le_of_ble_eq_true rfl) ?_
 refine rs hM ?_
 refine asg ?_
 refine rw_nil ?_; intro w hM
 refine rs hM ?_
 refine mv ?_
 refine asg ?_
 refine rw_nil ?_; intro w hM
 refine rs hM ?_
 refine mv ?_
 refine rw_bin rfl rfl rfl rfl (b_and64 _ _ hg (by decide)) ?_
 refine asg ?_
 refine rw_nil ?_; intro w hM
 refine wp_ret ?_
 exact post_tmp rfl rfl rfl (keep (congrArg u64 (match_free hc)) hM)
theorem c126 (hM : Mem w0 w H) (c : Nat → Nat) (hc : Bytes c) : Calls Tryz.prog 126 [u64 (word c)].toArray w (Keeps w0 H (u64 (bsw (mk8 fun i => decide (128 ≤ c i))))) := by
 refine calls_start Tryz.func126 rfl Tryz.ntmps126 (Nat.le_of_ble_eq_true rfl) ?_
 refine rs hM ?_
 refine asg ?_
 refine rw_nil ?_; intro w hM
 refine rs hM ?_
 refine mv ?_
 refine rw_callq cr132 rfl rfl (fun H' w hle hM => c132 hM _ hc) rfl ?_
 refine asg ?_
 refine rw_nil ?_; intro w hM
 refine wp_ret ?_
 exact post_tmp rfl rfl rfl (keep rfl hM)
theorem c122 (hM : Mem w0 w H) (c : Nat → Nat) (hc : Bytes c) : Calls Tryz.prog 122 [u64 (word c)].toArray w (Keeps w0 H (u64 (bsw (mk8 fun i => decide (c i < 128))))) := by
 have hg := word_lt hc
 refine calls_start Tryz.func122 rfl Tryz.ntmps122 (Nat.le_of_ble_eq_true rfl) ?_
 refine rs hM ?_
 refine asg ?_
 refine rw_nil ?_; intro w hM
 refine rs hM ?_
 refine mv ?_
 refine asg ?_
 refine rw_nil ?_; intro w hM
 refine rs hM ?_
 refine mv ?_
 refine rw_un rfl rfl rfl (u_xor64 _ hg) ?_
 refine rw_bin rfl rfl rfl rfl (b_and64 _ _ (by omega) (by decide)) ?_
 refine asg ?_
 refine rw_nil ?_; intro w hM
 refine wp_ret ?_
 exact post_tmp rfl rfl rfl (keep (congrArg u64 (match_full hc)) hM)
theorem c101 (hM : Mem w0 w H) (c : Nat → Nat) (hc : Bytes c) : Calls Tryz.prog 101 [u64 (word c)].toArray w (Keeps w0 H (u64 (bsw (mk8 fun i => decide (c i < 128))))) := by
 refine calls_start Tryz.func101 rfl Tryz.ntmps101 (Nat.le_of_ble_eq_true rfl) ?_
 refine rs hM ?_
 refine asg ?_
 refine rw_nil ?_; intro w hM
 refine rs hM ?_
 refine mv ?_
 refine rw_callq cr122 rfl rfl (fun H' w hle hM => c122 hM _ hc) rfl ?_
 refine asg ?_
 refine rw_nil ?_; intro w hM
 refine wp_ret ?_
 exact post_tmp rfl rfl rfl (keep rfl hM)
theorem c94 (hM : Mem w0 w H) (c : Nat → Nat) (hc : Bytes c) : Calls Tryz.prog 94 [u64 (word c)].toArray w (Keeps w0 H (.bool (bsw (mk8 fun i => decide (c i < 128)) != (0 : Int)))) := by
 have hg := word_lt hc
 refine calls_start Tryz.func94 rfl Tryz.ntmps94 (Nat.le_of_ble_eq_true rfl) ?_
 refine rs hM ?_
 refine asg ?_
 refine rw_nil ?_; intro w hM
 refine rs hM ?_
 refine mv ?_
 refine rw_un rfl rfl rfl (u_xor64 _ hg) ?_
 refine rw_bin rfl rfl rfl rfl (b_and64 _ _ (by omega) (by decide)) ?_
 refine rw_bin rfl rfl rfl rfl (b_ne _ _) ?_
 refine asg ?_
 refine rw_nil ?_; intro w hM
 refine wp_ret ?_
 exact post_tmp rfl rfl rfl (keep (congrArg (fun x : Nat => Value.bool ((x : Int) != 0)) (match_full hc)) hM)
/-! ### Hashes -/
theorem c115 (hM : Mem w0 w H) (h : Nat) (hh : h < 2 ^ 64) : Calls Tryz.prog 115 [u64 h].toArray w (Keeps w0 H (u64 (h % 128))) := by
 refine calls_start Tryz.func115 rfl Tryz.ntmps115 (Nat.le_of_ble_eq_true rfl) ?_
 refine rs hM ?_
 refine asg ?_
 refine rw_nil ?_; intro w hM
 refine rs hM ?_
 refine mv ?_
 refine rw_bin rfl rfl rfl rfl (b_and64 _ _ hh (by decide)) ?_
 refine asg ?_
 refine rw_nil ?_; intro w hM
 refine wp_ret ?_
 exact post_tmp rfl rfl rfl (keep (congrArg u64 (Nat.and_two_pow_sub_one_eq_mod h 7)) hM)
theorem c118 (hM : Mem w0 w H) (h : Nat) : Calls Tryz.prog 118 [u64 h].toArray w (Keeps w0 H (u64 (h / 128))) := by
 refine calls_start Tryz.func118 rfl Tryz.ntmps118 (Nat.le_of_ble_eq_true rfl) ?_
 refine rs hM ?_
 refine asg ?_
 refine rw_nil ?_; intro w hM
 refine rs hM ?_
 refine mv ?_
 refine rw_bin rfl rfl rfl rfl (b_shr64 _ _ (by decide)) ?_
 refine asg ?_
 refine rw_nil ?_; intro w hM
 refine wp_ret ?_
 exact post_tmp rfl rfl rfl (keep rfl hM)
theorem c117 (hM : Mem w0 w H) (h m : Nat) (hh : h < 2 ^ 64) (hm : m < 2 ^ 64) : Calls Tryz.prog 117 [u64 h, u64 m].toArray w (Keeps w0 H (.agg #[u64 m, u64 (h &&& m), u64 0])) := by
 refine calls_start Tryz.func117 rfl Tryz.ntmps117 (Nat.le_of_ble_eq_true rfl) ?_
 refine rs hM ?_
 refine rw_allocN Tryz.zeroValue180 rfl rfl (fun b4 G4 n4 l4 e4 k4 => ?_)
 refine rw_nil ?_; intro w hM
 refine rs hM ?_
 refine mv ?_
 refine mv ?_
 refine mv ?_
 refine rw_bin rfl rfl rfl rfl (b_and64 _ _ hh hm) ?_
 refine rw_build (bd180_0_1_2 _ _ _) rfl rfl rfl ?_
 refine rw_store (v := .agg #[.int .u64 _, .int .u64 _, .int .u64 _]) sz180 rfl rfl rfl rfl e4 rfl rfl rfl (by nofun) (fun S1 hS1 kS1 => ?_)
 refine rw_nil ?_; intro w hM
 refine wp_ret ?_
 exact post_cell [u64 m, u64 (h &&& m), u64 0] ld180 rfl rfl hM rfl hS1 rfl (keep rfl (hM.mono (le_keep l4 n4 kS1)))
theorem c119 (hM : Mem w0 w H) (m o i : Nat) (hm : m < 2 ^ 64) : Calls Tryz.prog 119 [.agg #[u64 m, u64 o, u64 i]].toArray w (Keeps w0 H (.agg #[u64 m, u64 ((o + (i + 1) % 2 ^ 64) % 2 ^ 64 &&& m), u64 ((i + 1) % 2 ^ 64)])) := by
 refine calls_start Tryz.func119 rfl Tryz.ntmps119 (Nat.le_of_ble_eq_true rfl) ?_
 refine rs hM ?_
 refine rw_boxN (v := .agg #[.int .u64 _, .int .u64 _, .int .u64 _]) rfl rfl rfl (fun b1 G1 n1 l1 e1 k1 => ?_)
 refine rw_allocN Tryz.zeroValue180 rfl rfl (fun b2 G2 n2 l2 e2 k2 => ?_)
 refine rw_nil ?_; intro w hM
 have e1' := l2 _ _ e1
 have n12 : b2 ≠ b1 := fun e => by rw [e, e1] at n2; cases n2
 have hl := Heap.le_trans l1 l2
 refine rs hM ?_
 refine fa fr180_2 ?_
 refine lo ld22 e1' ?_
 refine rw_bin rfl rfl rfl rfl (b_add64 _ 1) ?_
 refine fa fr180_2 ?_
 refine rw_store1 (v := .int .u64 _) sz22 rfl rfl rfl rfl e1' rfl rfl (by nofun) (fun S1 hS1 kS1 => ?_)
 refine rw_nil ?_; intro w hM
 have hl := le_keep hl n1 kS1
 have e2' := (kS1 _ n12).trans e2
 refine rs hM ?_
 refine fa fr180_1 ?_
 refine lo ld22 hS1 ?_
 refine fa fr180_2 ?_
 refine lo ld22 hS1 ?_
 refine rw_bin rfl rfl rfl rfl (b_add64 _ _) ?_
 refine fa fr180_0 ?_
 refine lo ld22 hS1 ?_
 refine rw_bin rfl rfl rfl rfl (b_and64 _ _ (Nat.mod_lt _ (by decide)) hm) ?_
 refine fa fr180_1 ?_
 refine rw_store1 (v := .int .u64 _) sz22 rfl rfl rfl rfl hS1 rfl rfl (by nofun) (fun S2 hS2 kS2 => ?_)
 refine rw_nil ?_; intro w hM
 have hl := le_keep hl n1 kS2
 have e2' := (kS2 _ n12).trans e2'
 refine rs hM ?_
 refine rw_loadA [.int .u64 _, .int .u64 _, .int .u64 _] ld180 rfl rfl rfl hS2 rfl ?_
 refine rw_store (v := .agg #[.int .u64 _, .int .u64 _, .int .u64 _]) sz180 rfl rfl rfl rfl e2' rfl rfl rfl (by nofun) (fun S3 hS3 kS3 => ?_)
 refine rw_nil ?_; intro w hM
 refine wp_ret ?_
 have hl := le_keep hl (le_none l1 n2) kS3
 exact post_cell [u64 m, u64 ((o + (i + 1) % 2 ^ 64) % 2 ^ 64 &&& m), u64 ((i + 1) % 2 ^ 64)] ld180 rfl rfl hM rfl hS3 rfl (keep rfl (hM.mono hl))
end
/-- What the slots hold: a control byte, a key, an element. -/
structure Gr where
 c : Nat → Nat
 k : Nat → Nat
 e : Nat → Int
def Gr.ok (G : Gr) : Prop := (∀ s, G.c s < 256) ∧ (∀ s, G.k s < 2 ^ 64) ∧ ∀ s, -9223372036854775808 ≤ G.e s ∧ G.e s < 9223372036854775808
def Gr.setC (G : Gr) (s v : Nat) : Gr := { G with c := fun t => if t = s then v else G.c t }
def Gr.setK (G : Gr) (s v : Nat) : Gr := { G with k := fun t => if t = s then v else G.k t }
def Gr.setE (G : Gr) (s : Nat) (v : Int) : Gr := { G with e := fun t => if t = s then v else G.e t }
/-- The control bytes of group g. -/
def Gr.at (G : Gr) (g : Nat) : Nat → Nat := fun i => G.c (8 * g + i)
theorem Gr.bytes {G : Gr} (h : G.ok) (g : Nat) : Bytes (G.at g) := fun _ _ => h.1 _
def cellG (G : Gr) (j : Nat) : Value :=
 if j % 17 = 0 then u64 (word (G.at (j / 17))) else if j % 17 < 9 then u64 (G.k (8 * (j / 17) + (j % 17 - 1))) else i64 (G.e (8 * (j / 17) + (j % 17 - 9)))
def arrG (n : Nat) (G : Gr) : Array Value := Array.ofFn (n := 17 * n) fun j => cellG G j.1
def encG (n : Nat) (G : Gr) : Obj := .cells (arrG n G) 149 (0, 0)
theorem arrG_size (n : Nat) (G : Gr) : (arrG n G).size = 17 * n := by simp [arrG]
theorem encG_cell {n : Nat} {G : Gr} {j : Nat} (h : j < 17 * n) : objCell (encG n G) j = some (cellG G j) := by
 simp [encG, objCell, arrG, h]
theorem encG_ctrl {n g : Nat} {G : Gr} (h : g < n) : objCell (encG n G) (17 * g) = some (u64 (word (G.at g))) := by
 rw [encG_cell (by omega)]
 simp only [cellG, show 17 * g % 17 = 0 from by omega, show 17 * g / 17 = g from by omega, if_true]
theorem encG_key {n g i : Nat} {G : Gr} (h : g < n) (hi : i < 8) : objCell (encG n G) (17 * g + 1 + i) = some (u64 (G.k (8 * g + i))) := by
 rw [encG_cell (by omega)]
 simp only [cellG, show (17 * g + 1 + i) % 17 = 1 + i from by omega, show (17 * g + 1 + i) / 17 = g from by omega]
 rw [if_neg (by omega), if_pos (by omega), show 1 + i - 1 = i from by omega]
theorem encG_elem {n g i : Nat} {G : Gr} (h : g < n) (hi : i < 8) : objCell (encG n G) (17 * g + 9 + i) = some (i64 (G.e (8 * g + i))) := by
 rw [encG_cell (by omega)]
 simp only [cellG, show (17 * g + 9 + i) % 17 = 9 + i from by omega, show (17 * g + 9 + i) / 17 = g from by omega]
 rw [if_neg (by omega), if_neg (by omega), show 9 + i - 9 = i from by omega]
theorem arrG_ext {n : Nat} {G G' : Gr} {j : Nat} {v : Value} (hj : j < 17 * n) (hv : cellG G' j = v) (h : ∀ t, t < 17 * n → t ≠ j → cellG G' t = cellG G t) : (arrG n G).setIfInBounds j v = arrG n G' := by
 apply Array.ext
 ·simp [arrG]
 ·intro i h1 h2
  have hi : i < 17 * n := by simpa [arrG] using h2
  simp only [arrG, Array.getElem_ofFn]
  by_cases e : i = j
  ·subst e; simp [hv]
  ·rw [Array.getElem_setIfInBounds_ne (by simpa using hi) (fun x => e x.symm)]
   simp [h i hi e]
theorem arrG_setC {n g i v : Nat} {G : Gr} (hg : g < n) (hi : i < 8) : (arrG n G).setIfInBounds (17 * g) (u64 (word (fun j => if j = i then v else G.at g j))) = arrG n (G.setC (8 * g + i) v) := by
 refine arrG_ext (by omega) ?_ fun t ht hne => ?_
 ·simp only [cellG, show 17 * g % 17 = 0 from by omega, show 17 * g / 17 = g from by omega, if_true]
  congr 3
  funext j
  simp only [Gr.at, Gr.setC]
  by_cases e : j = i
  ·subst e; simp
  ·rw [if_neg e, if_neg (by omega)]
 ·simp only [cellG, Gr.setC]
  by_cases h0 : t % 17 = 0
  ·rw [if_pos h0, if_pos h0]
   refine congrArg u64 (word_congr fun j hj => ?_)
   simp only [Gr.at]
   rw [if_neg (by omega)]
  ·rw [if_neg h0, if_neg h0]
theorem arrG_setK {n g i v : Nat} {G : Gr} (hg : g < n) (hi : i < 8) : (arrG n G).setIfInBounds (17 * g + 1 + i) (u64 v) = arrG n (G.setK (8 * g + i) v) := by
 refine arrG_ext (by omega) ?_ fun t ht hne => ?_
 ·simp only [cellG, show (17 * g + 1 + i) % 17 = 1 + i from by omega, show (17 * g + 1 + i) / 17 = g from by omega, Gr.setK]
  rw [if_neg (by omega), if_pos (by omega), show 1 + i - 1 = i from by omega, if_pos rfl]
 ·simp only [cellG, Gr.setK]
  by_cases h0 : t % 17 = 0
  ·rw [if_pos h0, if_pos h0]; rfl
  ·rw [if_neg h0, if_neg h0]
   by_cases h1 : t % 17 < 9
   ·rw [if_pos h1, if_pos h1, if_neg (by omega)]
   ·rw [if_neg h1, if_neg h1]
theorem arrG_setE {n g i : Nat} {v : Int} {G : Gr} (hg : g < n) (hi : i < 8) : (arrG n G).setIfInBounds (17 * g + 9 + i) (i64 v) = arrG n (G.setE (8 * g + i) v) := by
 refine arrG_ext (by omega) ?_ fun t ht hne => ?_
 ·simp only [cellG, show (17 * g + 9 + i) % 17 = 9 + i from by omega, show (17 * g + 9 + i) / 17 = g from by omega, Gr.setE]
  rw [if_neg (by omega), if_neg (by omega), show 9 + i - 9 = i from by omega, if_pos rfl]
 ·simp only [cellG, Gr.setE]
  by_cases h0 : t % 17 = 0
  ·rw [if_pos h0, if_pos h0]; rfl
  ·rw [if_neg h0, if_neg h0]
   by_cases h1 : t % 17 < 9
   ·rw [if_pos h1, if_pos h1]
   ·rw [if_neg h1, if_neg h1, if_neg (by omega)]
/-- One byte of a word, got and set. -/
theorem word_get {c : Nat → Nat} (h : Bytes c) {i : Nat} (hi : i < 8) : word c / 2 ^ (8 * i) % 256 = c i := by
 apply Nat.eq_of_testBit_eq
 intro k
 rw [show (256 : Nat) = 2 ^ 8 from rfl, Nat.testBit_mod_two_pow, Nat.testBit_div_two_pow]
 by_cases hk : k < 8
 ·rw [decide_eq_true hk, Bool.true_and, Nat.add_comm k, testBit_word' h i k hi hk]
 ·rw [decide_eq_false hk, Bool.false_and]
  exact (Nat.testBit_lt_two_pow (Nat.lt_of_lt_of_le (h i hi) (show 2 ^ 8 ≤ 2 ^ k from Nat.pow_le_pow_right (by omega) (by omega)))).symm
theorem word_put {c : Nat → Nat} (h : Bytes c) {i v : Nat} (hi : i < 8) (hv : v < 256) :
  (word c &&& (2 ^ 64 - 1 - (255 * 2 ^ (8 * i)) % 2 ^ 64)) ||| (v * 2 ^ (8 * i)) % 2 ^ 64 = word (fun j => if j = i then v else c j) := by
 have hb : Bytes (fun j => if j = i then v else c j) := fun j hj => by dsimp only; split <;> first | exact hv | exact h j hj
 refine word_ext hb (Nat.or_lt_two_pow (Nat.lt_of_le_of_lt Nat.and_le_left (word_lt h)) (Nat.mod_lt _ (by decide))) fun a b ha hb => ?_
 have e3 : 2 ^ 64 - 1 - (255 * 2 ^ (8 * i)) % 2 ^ 64 = 2 ^ 64 - ((255 * 2 ^ (8 * i)) % 2 ^ 64 + 1) := by omega
 have e5 : decide (8 * a + b < 64) = true := decide_eq_true (by omega)
 rw [Nat.testBit_or, Nat.testBit_and, e3, Nat.testBit_two_pow_sub_succ (Nat.mod_lt _ (by decide)), Nat.testBit_mod_two_pow, Nat.testBit_mod_two_pow, Nat.testBit_mul_two_pow, Nat.testBit_mul_two_pow, e5, testBit_word' h a b ha hb]
 simp only [Bool.true_and]
 by_cases e : a = i
 ·subst e
  have e6 : decide (8 * a ≤ 8 * a + b) = true := decide_eq_true (by omega)
  have e7 : (255 : Nat).testBit b = true := by
   match b, hb with
   | 0, _ | 1, _ | 2, _ | 3, _ | 4, _ | 5, _ | 6, _ | 7, _ => decide
  rw [e6, show 8 * a + b - 8 * a = b from by omega, e7]
  simp
 ·rw [if_neg e]
  rcases Nat.lt_or_ge a i with hl | hl
  ·have e6 : decide (8 * i ≤ 8 * a + b) = false := decide_eq_false (by omega)
   rw [e6]; simp
  ·have hge : 8 ≤ 8 * a + b - 8 * i := by omega
   have t1 : (255 : Nat).testBit (8 * a + b - 8 * i) = false := Nat.testBit_lt_two_pow (Nat.lt_of_lt_of_le (show 255 < 2 ^ 8 by omega) (Nat.pow_le_pow_right (by omega) hge))
   have t2 : v.testBit (8 * a + b - 8 * i) = false := Nat.testBit_lt_two_pow (Nat.lt_of_lt_of_le hv (show 2 ^ 8 ≤ _ from Nat.pow_le_pow_right (by omega) hge))
   rw [t1, t2]; simp
end Go.Proofs.YtddpfkcofmfmpaaGreatDoor
