/-
  The operations that turn memory, and calls, one lemma each. Conditions stand in each lemma. Closed facts on the program's tables, one row each. WRITTEN BY A PROGRAM of this repository (wip/tools/genfacts.py).
  Conditions stand in each lemma.
-/
import Derived.Test.YtddpfkcofmfmpaaGreatDoorQ01
import Derived.Test.YtddpfkcofmfmpaaGreatDoorProg
namespace Go.Proofs.YtddpfkcofmfmpaaGreatDoor
open Go Go.RowKit
set_option maxRecDepth 20000
section
/-- Several cells written in a row. -/
def setMany (c : Array Value) (off : Nat) : List Value → Array Value
 | [] => c
 | v :: vs => setMany (c.setIfInBounds off v) (off + 1) vs
theorem setMany_size (c : Array Value) (off : Nat) (vs : List Value) : (setMany c off vs).size = c.size := by
 induction vs generalizing c off with
 | nil => rfl
 | cons v vs ih => simp [setMany, ih]

section
variable {P : Program} {ops : Array Oper} {sp br : List Nat} {d : Bool} {w0 : World} {K : Slots → World → Prop} {i : Nat} {rest : List Nat} {Hq H : Heap} {f : Slots}
variable {dst : Tmp} {ty : TypeId} {pos : String} {aft : Array Edge} {g : Option (Nat × Bool)}

theorem run_storeOne {w : World} {b off : Nat} {c : Array Value} {e : TypeId} {v : Value} (hM : Mem w0 w H) (hH : H b = some (.cells c e (0, 0))) (hoff : off < c.size) (hv : v.oneCell' = true) :
  (store ⟨b, off, none⟩ v).run P w = .ok () (w.setCell ⟨b, off, none⟩ v) := by
 have h1 : w.cell? ⟨b, off, none⟩ = some c[off] := hM.cell hH (by simp [objCell, hoff])
 have h2 := hM.frozen hH off
 rw [run_store P w _ v .plain hv, h1, h2]
 rfl
theorem run_storeCells (w : World) (H : Heap) (b off : Nat) (c : Array Value) (e : TypeId) (vs : List Value) (hM : Mem w0 w H) (hH : H b = some (.cells c e (0, 0))) (hoff : off + vs.length ≤ c.size) (hv : ∀ v ∈ vs, v.oneCell' = true) (k : Nat) (a : Addr) (ha : ∀ j, a.add (k + j) = ⟨b, off + j, none⟩) :
  ∃ w', (storeCells a vs k).run P w = .ok () w' ∧ Mem w0 w' (H.upd b (.cells (setMany c off vs) e (0, 0))) := by
 induction vs generalizing w H off c k with
 | nil =>
  refine ⟨w, rfl, hM.below, fun b' o' e' => ?_⟩
  by_cases hb : b' = b
  ·subst hb; rw [Heap.upd_same] at e'; cases e'; exact hM.own _ _ hH
  ·rw [Heap.upd_ne _ _ hb] at e'; exact hM.own _ _ e'
 | cons v vs ih =>
  simp only [List.length_cons] at hoff
  have h1 := run_storeOne (P := P) (v := v) hM hH (by omega : off < c.size) (hv v (List.mem_cons_self ..))
  have hM' := hM.setCell hH off v
  obtain ⟨w', h2, h3⟩ := ih (w.setCell ⟨b, off, none⟩ v) (H.upd b (.cells (c.setIfInBounds off v) e (0, 0))) (off + 1) (c.setIfInBounds off v) hM' (Heap.upd_same _ _ _) (by simp; omega) (fun u hu => hv u (List.mem_cons_of_mem _ hu)) (k + 1) (fun j => by rw [show k + 1 + j = k + (1 + j) from by omega, ha, show off + (1 + j) = off + 1 + j from by omega])
  refine ⟨w', ?_, ?_⟩
  ·have h0 : a.add k = ⟨b, off, none⟩ := ha 0
   simp only [storeCells, bind, Sem.run_bind', h0, h1, Result.andThen_ok, h2]
  ·have : (H.upd b (.cells (c.setIfInBounds off v) e (0, 0))).upd b (.cells (setMany (c.setIfInBounds off v) (off + 1) vs) e (0, 0)) = H.upd b (.cells (setMany c off (v :: vs)) e (0, 0)) := by
    funext k'; simp only [Heap.upd]; split <;> rfl
   rw [this] at h3; exact h3
/-- How many cells a variable takes. -/
def SizeRun (P : Program) (t : TypeId) (n : Nat) : Prop := ∀ w, (sizeOf t).run P w = .ok n w
theorem run_storeAt {t : TypeId} {n : Nat} (hs : SizeRun P t n) {w : World} {b off : Nat} {c : Array Value} {e : TypeId} {v : Value} (hM : Mem w0 w H) (hH : H b = some (.cells c e (0, 0))) (hn : v.cells.size = n) (hoff : off + n ≤ c.size) (hv : ∀ u ∈ v.cells.toList, u.oneCell' = true) :
  ∃ w', (Instr.storeAt t (.pointer (some ⟨b, off, none⟩)) v).run P w = .ok () w' ∧ Mem w0 w' (H.upd b (.cells (setMany c off v.cells.toList) e (0, 0))) := by
 obtain ⟨w', h1, h2⟩ := run_storeCells (P := P) w H b off c e v.cells.toList hM hH (by simpa [hn] using hoff) hv 0 ⟨b, off, none⟩ (fun j => by rw [addr_add]; simp)
 refine ⟨w', ?_, h2⟩
 simp only [Instr.storeAt, Instr.sureAddr, storeVar, bind, pure, Sem.bind, Sem.run_bind', hs w, Result.andThen_ok]
 simp only [hn, ne_eq, not_true_eq_false, if_false]
 exact h1
/-- A store; behind it the heap is read anew (in a region that draws: the store waits for all ahead of it). -/
theorem rw_storeU {t : TypeId} {x y : Operand} {n b off : Nat} {c : Array Value} {e : TypeId} {v : Value} (hs : SizeRun P t n) (ho : ops[i]? = some ⟨none, .store t x y, ty, pos, aft, g⟩) (hw : wantedS ops f ⟨none, .store t x y, ty, pos, aft, g⟩ = true)
  (hx : ev f x = .pointer (some ⟨b, off, none⟩)) (hy : ev f y = v) (hH : H b = some (.cells c e (0, 0))) (hn : v.cells.size = n) (hoff : off + n ≤ c.size) (hv : v.cells.toList.all Value.oneCell' = true) (hd : d = true → sp.contains i = true ∧ br.contains i = true)
  (h : RW P ops sp br d w0 K rest (H.upd b (.cells (setMany c off v.cells.toList) e (0, 0))) (H.upd b (.cells (setMany c off v.cells.toList) e (0, 0))) f) : RW P ops sp br d w0 K (i :: rest) Hq H f :=
 rw_s ho hw (fun e => (hd e).1) fun w hM => by
  obtain ⟨w', h1, h2⟩ := run_storeAt hs hM hH hn hoff (fun u hu => List.all_eq_true.1 hv u hu)
  simp only [execOp, hx, hy, bind, pure, Sem.run_bind', h1]
  exact ⟨_, _, fun e hb => (by rw [(hd e).2] at hb; cases hb), Heap.le_refl _, h2, h⟩
/-- .. the new heap named. -/
theorem rw_store {t : TypeId} {x y : Operand} {n b off : Nat} {c : Array Value} {e : TypeId} {v : Value} (hs : SizeRun P t n) (ho : ops[i]? = some ⟨none, .store t x y, ty, pos, aft, g⟩) (hw : wantedS ops f ⟨none, .store t x y, ty, pos, aft, g⟩ = true)
  (hx : ev f x = .pointer (some ⟨b, off, none⟩)) (hy : ev f y = v) (hH : H b = some (.cells c e (0, 0))) (hn : v.cells.size = n) (hoff : Nat.ble (off + n) c.size = true) (hv : v.cells.toList.all Value.oneCell' = true) (hd : d = true → sp.contains i = true ∧ br.contains i = true)
  (h : ∀ S : Heap, S b = some (.cells (setMany c off v.cells.toList) e (0, 0)) → (∀ k, k ≠ b → S k = H k) → RW P ops sp br d w0 K rest S S f) : RW P ops sp br d w0 K (i :: rest) Hq H f :=
 rw_storeU hs ho hw hx hy hH hn (Nat.le_of_ble_eq_true hoff) hv hd (h _ (Heap.upd_same _ _ _) fun _ hk => Heap.upd_ne _ _ hk)
/-- One cell. -/
theorem rw_store1 {t : TypeId} {x y : Operand} {b off : Nat} {c : Array Value} {e : TypeId} {v : Value} (hs : SizeRun P t 1) (ho : ops[i]? = some ⟨none, .store t x y, ty, pos, aft, g⟩) (hw : wantedS ops f ⟨none, .store t x y, ty, pos, aft, g⟩ = true)
  (hx : ev f x = .pointer (some ⟨b, off, none⟩)) (hy : ev f y = v) (hH : H b = some (.cells c e (0, 0))) (hoff : Nat.blt off c.size = true) (hv : v.oneCell' = true) (hd : d = true → sp.contains i = true ∧ br.contains i = true)
  (h : ∀ S : Heap, S b = some (.cells (c.setIfInBounds off v) e (0, 0)) → (∀ k, k ≠ b → S k = H k) → RW P ops sp br d w0 K rest S S f) : RW P ops sp br d w0 K (i :: rest) Hq H f :=
 have hc : v.cells = #[v] := by cases v <;> first | rfl | cases hv
 rw_store (n := 1) hs ho hw hx hy hH (by rw [hc]; rfl) hoff (by rw [hc]; simp [hv]) hd (by rw [hc]; exact h)
/-- One cell of a block whose cells are known by a name. -/
theorem rw_storeE {t : TypeId} {x y : Operand} {b off : Nat} {c c' : Array Value} {e : TypeId} {v : Value} (hs : SizeRun P t 1) (ho : ops[i]? = some ⟨none, .store t x y, ty, pos, aft, g⟩) (hw : wantedS ops f ⟨none, .store t x y, ty, pos, aft, g⟩ = true)
  (hx : ev f x = .pointer (some ⟨b, off, none⟩)) (hy : ev f y = v) (hH : H b = some (.cells c e (0, 0))) (hE : c.setIfInBounds off v = c') (hoff : off < c.size) (hv : v.oneCell' = true) (hd : d = true → sp.contains i = true ∧ br.contains i = true)
  (h : ∀ S : Heap, S b = some (.cells c' e (0, 0)) → (∀ k, k ≠ b → S k = H k) → RW P ops sp br d w0 K rest S S f) : RW P ops sp br d w0 K (i :: rest) Hq H f :=
 have hc : v.cells = #[v] := by cases v <;> first | rfl | cases hv
 rw_storeU (n := 1) hs ho hw hx hy hH (by rw [hc]; rfl) hoff (by rw [hc]; simp [hv]) hd (by rw [hc]; subst hE; exact h _ (Heap.upd_same _ _ _) fun _ hk => Heap.upd_ne _ _ hk)
/-- A variable's zero. -/
def ZeroRun (P : Program) (t : TypeId) (z : Value) : Prop := ∀ w, (zeroValue t).run P w = .ok z w
theorem rw_allocU {t : TypeId} {z : Value} (hz : ZeroRun P t z) (ho : ops[i]? = some ⟨some dst, .alloc t, ty, pos, aft, g⟩) (hw : wantedS ops f ⟨some dst, .alloc t, ty, pos, aft, g⟩ = true) (hd : d = true → sp.contains i = true)
  (h : ∀ (b : Nat) (G : Heap), H b = none → H.le G → G b = some (.cells z.cells t (0, 0)) → (∀ k, k ≠ b → G k = H k) → ∃ Hq', (d = true → br.contains i = false → Hq' = Hq) ∧ Hq'.le G ∧ RW P ops sp br d w0 K rest Hq' G (f.set dst (.pointer (some ⟨b, 0, none⟩)))) : RW P ops sp br d w0 K (i :: rest) Hq H f :=
 rw_s ho hw hd fun w hM => by
  simp only [execOp, Instr.alloc, newVar, newRow, bind, pure, Sem.bind, Sem.run_bind', hz w, Result.andThen_ok, newObj, Sem.run]
  obtain ⟨Hq', h1, h2, h3⟩ := h w.heap.size (H.upd w.heap.size (.cells z.cells t (0, 0))) hM.fresh (Heap.le_upd _ hM.fresh) (Heap.upd_same _ _ _) (fun _ hk => Heap.upd_ne _ _ hk)
  exact ⟨Hq', _, h1, h2, hM.alloc _, h3⟩
theorem rw_boxU {t : TypeId} {x : Operand} {v : Value} (ho : ops[i]? = some ⟨some dst, .box t x, ty, pos, aft, g⟩) (hw : wantedS ops f ⟨some dst, .box t x, ty, pos, aft, g⟩ = true) (hx : ev f x = v) (hd : d = true → sp.contains i = true)
  (h : ∀ (b : Nat) (G : Heap), H b = none → H.le G → G b = some (.cells v.cells t (0, 0)) → (∀ k, k ≠ b → G k = H k) → ∃ Hq', (d = true → br.contains i = false → Hq' = Hq) ∧ Hq'.le G ∧ RW P ops sp br d w0 K rest Hq' G (f.set dst (.pointer (some ⟨b, 0, none⟩)))) : RW P ops sp br d w0 K (i :: rest) Hq H f :=
 rw_s ho hw hd fun w hM => by
  simp only [execOp, hx, Instr.box, newVar, newRow, bind, pure, Sem.bind, newObj, Sem.run]
  obtain ⟨Hq', h1, h2, h3⟩ := h w.heap.size (H.upd w.heap.size (.cells v.cells t (0, 0))) hM.fresh (Heap.le_upd _ hM.fresh) (Heap.upd_same _ _ _) (fun _ hk => Heap.upd_ne _ _ hk)
  exact ⟨Hq', _, h1, h2, hM.alloc _, h3⟩
end
section
variable {P : Program} {ops : Array Oper} {sp br : List Nat} {d : Bool} {w0 : World} {K : Slots → World → Prop} {i : Nat} {rest : List Nat} {Hq H : Heap} {f : Slots}
variable {dst : Tmp} {ty : TypeId} {pos : String} {aft : Array Edge} {g : Option (Nat × Bool)}
/-- A new variable: in the order of the text; in a region that draws. -/
theorem rw_allocN {t : TypeId} {z : Value} (hz : ZeroRun P t z) (ho : ops[i]? = some ⟨some dst, .alloc t, ty, pos, aft, g⟩) (hw : wantedS ops f ⟨some dst, .alloc t, ty, pos, aft, g⟩ = true)
  (h : ∀ (b : Nat) (G : Heap), H b = none → H.le G → G b = some (.cells z.cells t (0, 0)) → (∀ k, k ≠ b → G k = H k) → RW P ops sp br false w0 K rest G G (f.set dst (.pointer (some ⟨b, 0, none⟩)))) : RW P ops sp br false w0 K (i :: rest) Hq H f :=
 rw_allocU hz ho hw (by nofun) fun b G h1 h2 h3 h4 => ⟨G, fun e => (by cases e), Heap.le_refl _, h b G h1 h2 h3 h4⟩
theorem rw_allocD {t : TypeId} {z : Value} (hz : ZeroRun P t z) (ho : ops[i]? = some ⟨some dst, .alloc t, ty, pos, aft, g⟩) (hw : wantedS ops f ⟨some dst, .alloc t, ty, pos, aft, g⟩ = true) (hd : sp.contains i = true) (hq : Hq.le H)
  (h : ∀ (b : Nat) (G : Heap), H b = none → H.le G → G b = some (.cells z.cells t (0, 0)) → (∀ k, k ≠ b → G k = H k) → RW P ops sp br true w0 K rest Hq G (f.set dst (.pointer (some ⟨b, 0, none⟩)))) : RW P ops sp br true w0 K (i :: rest) Hq H f :=
 rw_allocU hz ho hw (fun _ => hd) fun b G h1 h2 h3 h4 => ⟨Hq, fun _ _ => rfl, Heap.le_trans hq h2, h b G h1 h2 h3 h4⟩
theorem rw_boxN {t : TypeId} {x : Operand} {v : Value} (ho : ops[i]? = some ⟨some dst, .box t x, ty, pos, aft, g⟩) (hw : wantedS ops f ⟨some dst, .box t x, ty, pos, aft, g⟩ = true) (hx : ev f x = v)
  (h : ∀ (b : Nat) (G : Heap), H b = none → H.le G → G b = some (.cells v.cells t (0, 0)) → (∀ k, k ≠ b → G k = H k) → RW P ops sp br false w0 K rest G G (f.set dst (.pointer (some ⟨b, 0, none⟩)))) : RW P ops sp br false w0 K (i :: rest) Hq H f :=
 rw_boxU ho hw hx (by nofun) fun b G h1 h2 h3 h4 => ⟨G, fun e => (by cases e), Heap.le_refl _, h b G h1 h2 h3 h4⟩
theorem rw_boxD {t : TypeId} {x : Operand} {v : Value} (ho : ops[i]? = some ⟨some dst, .box t x, ty, pos, aft, g⟩) (hw : wantedS ops f ⟨some dst, .box t x, ty, pos, aft, g⟩ = true) (hx : ev f x = v) (hd : sp.contains i = true) (hq : Hq.le H)
  (h : ∀ (b : Nat) (G : Heap), H b = none → H.le G → G b = some (.cells v.cells t (0, 0)) → (∀ k, k ≠ b → G k = H k) → RW P ops sp br true w0 K rest Hq G (f.set dst (.pointer (some ⟨b, 0, none⟩)))) : RW P ops sp br true w0 K (i :: rest) Hq H f :=
 rw_boxU ho hw hx (fun _ => hd) fun b G h1 h2 h3 h4 => ⟨Hq, fun _ _ => rfl, Heap.le_trans hq h2, h b G h1 h2 h3 h4⟩
/-- What lies outside a fresh block stays below the heap. -/
theorem le_keep {B H S : Heap} {b : Nat} (hB : B.le H) (hn : B b = none) (hk : ∀ k, k ≠ b → S k = H k) : B.le S := fun k o e => by
 by_cases hb : k = b
 ·rw [hb, hn] at e; cases e
 ·rw [hk k hb]; exact hB k o e
theorem le_none {B H : Heap} {b : Nat} (hB : B.le H) (hn : H b = none) : B b = none := by
 cases e : B b with
 | none => rfl
 | some o => rw [hB b o e] at hn; cases hn
theorem ne_of_none {B : Heap} {b k : Nat} {o : Obj} (hn : B b = none) (e : B k = some o) : k ≠ b := fun h => by rw [h, hn] at e; cases e

/-- A function of the program that has a body. -/
def CallRun (P : Program) (k : FuncId) : Prop := ∀ args w, (callFunc k args).run P w = .ok (.enter k args) w
/-- The call hands back v and keeps the heap H. -/
def Keeps (w0 : World) (H : Heap) (v : Value) : Ending → World → Prop := fun e w' => e = .returned v ∧ Mem w0 w' H
theorem run_call {k : FuncId} (hk : CallRun P k) {x : Operand} {args : Array Operand} {ats : Array TypeId} {captured vs : List Value} (hx : ev f x = .func (.func k) #[] captured.toArray) (ha : args.toList.map (ev f) = vs) (w : World) (o : Oper) (ho : o.op = .call ⟨.value x, args, ats⟩) :
  (execOp (ev f) o).run P w = .ok (.enter k (vs ++ captured).toArray) w := by
 have e : args.map (ev f) = vs.toArray := by apply Array.toList_inj.1; rw [Array.toList_map, ha]
 simp only [execOp, ho, resolve, hx, Deferred.ofValue, e, bind, pure, Sem.bind, invoke]
 have e2 : #[] ++ vs.toArray ++ captured.toArray = (vs ++ captured).toArray := by simp
 rw [e2]
 exact hk _ _
theorem run_scall {k : FuncId} (hk : CallRun P k) {args : Array Operand} {ats : Array TypeId} {vs : List Value} (ha : args.toList.map (ev f) = vs) (w : World) (o : Oper) (ho : o.op = .call ⟨.value (.func k), args, ats⟩) :
  (execOp (ev f) o).run P w = .ok (.enter k vs.toArray) w := by
 have := run_call (captured := []) (f := f) hk rfl ha w o ho
 rw [List.append_nil] at this; exact this
/-- A call that keeps the heap. -/
theorem rw_callq {k : FuncId} {args : Array Operand} {ats : Array TypeId} {vs : List Value} {v : Value} (hk : CallRun P k) (ho : ops[i]? = some ⟨some dst, .call ⟨.value (.func k), args, ats⟩, ty, pos, aft, g⟩) (hw : wantedS ops f ⟨some dst, .call ⟨.value (.func k), args, ats⟩, ty, pos, aft, g⟩ = true)
  (hc : ∀ H' w, Hq.le H' → Mem w0 w H' → Calls P k vs.toArray w (Keeps w0 H' v)) (ha : args.toList.map (ev f) = vs) (h : RW P ops sp br d w0 K rest Hq H (f.set dst v)) : RW P ops sp br d w0 K (i :: rest) Hq H f :=
 ⟨_, ho, .inr (.inl ⟨hw, v, fun H' w hle hM => by rw [run_scall hk ha w _ rfl]; exact ⟨rfl, hc H' w hle hM⟩, h⟩)⟩
/-- .. through a function value. -/
theorem rw_callvq {k : FuncId} {x : Operand} {args : Array Operand} {ats : Array TypeId} {captured vs : List Value} {v : Value} (hk : CallRun P k) (ho : ops[i]? = some ⟨some dst, .call ⟨.value x, args, ats⟩, ty, pos, aft, g⟩) (hw : wantedS ops f ⟨some dst, .call ⟨.value x, args, ats⟩, ty, pos, aft, g⟩ = true)
  (hx : ev f x = .func (.func k) #[] captured.toArray) (hc : ∀ H' w, Hq.le H' → Mem w0 w H' → Calls P k (vs ++ captured).toArray w (Keeps w0 H' v)) (ha : args.toList.map (ev f) = vs) (h : RW P ops sp br d w0 K rest Hq H (f.set dst v)) : RW P ops sp br d w0 K (i :: rest) Hq H f :=
 ⟨_, ho, .inr (.inl ⟨hw, v, fun H' w hle hM => by rw [run_call hk hx ha w _ rfl]; exact ⟨rfl, hc H' w hle hM⟩, h⟩)⟩
/-- What follows a call that may turn memory. -/
def Then (P : Program) (ops : Array Oper) (sp br : List Nat) (d : Bool) (w0 : World) (K : Slots → World → Prop) (i : Nat) (rest : List Nat) (Hq : Heap) (o : Option Tmp) (f : Slots) : Ending → World → Prop :=
 fun e w' => ∃ v, e = .returned v ∧ ∃ Hq' H', (d = true → br.contains i = false → Hq' = Hq) ∧ Hq'.le H' ∧ Mem w0 w' H' ∧ RW P ops sp br d w0 K rest Hq' H' (f.setD o v)
theorem rw_call {k : FuncId} {args : Array Operand} {ats : Array TypeId} {vs : List Value} {o : Option Tmp} (hk : CallRun P k) (ho : ops[i]? = some ⟨o, .call ⟨.value (.func k), args, ats⟩, ty, pos, aft, g⟩) (hw : wantedS ops f ⟨o, .call ⟨.value (.func k), args, ats⟩, ty, pos, aft, g⟩ = true)
  (ha : args.toList.map (ev f) = vs) (hd : d = true → sp.contains i = true) (hc : ∀ w, Mem w0 w H → Calls P k vs.toArray w (Then P ops sp br d w0 K i rest Hq o f)) : RW P ops sp br d w0 K (i :: rest) Hq H f :=
 rw_s ho hw hd fun w hM => by rw [run_scall hk ha w _ rfl]; exact hc w hM
/-- The call hands back v and puts o into block b. -/
def Sets (w0 : World) (H : Heap) (b : Nat) (o : Obj) (v : Value) : Ending → World → Prop := fun e w' => e = .returned v ∧ ∃ S : Heap, Mem w0 w' S ∧ S b = some o ∧ ∀ k, k ≠ b → S k = H k
theorem rw_callS {k : FuncId} {args : Array Operand} {ats : Array TypeId} {vs : List Value} {dt : Option Tmp} {b : Nat} {o : Obj} {v : Value} (hk : CallRun P k) (ho : ops[i]? = some ⟨dt, .call ⟨.value (.func k), args, ats⟩, ty, pos, aft, g⟩) (hw : wantedS ops f ⟨dt, .call ⟨.value (.func k), args, ats⟩, ty, pos, aft, g⟩ = true)
  (hc : ∀ w, Mem w0 w H → Calls P k vs.toArray w (Sets w0 H b o v)) (ha : args.toList.map (ev f) = vs) (hd : d = true → sp.contains i = true ∧ br.contains i = true) (h : ∀ S : Heap, S b = some o → (∀ k, k ≠ b → S k = H k) → RW P ops sp br d w0 K rest S S (f.setD dt v)) : RW P ops sp br d w0 K (i :: rest) Hq H f :=
 rw_call hk ho hw ha (fun e => (hd e).1) fun w hM => (hc w hM).mono fun e w' ⟨he, S, h1, h2, h3⟩ => ⟨v, he, S, S, fun e hb => (by rw [(hd e).2] at hb; cases hb), Heap.le_refl _, h1, h S h2 h3⟩
theorem rw_callv {k : FuncId} {x : Operand} {args : Array Operand} {ats : Array TypeId} {captured vs : List Value} {o : Option Tmp} (hk : CallRun P k) (ho : ops[i]? = some ⟨o, .call ⟨.value x, args, ats⟩, ty, pos, aft, g⟩) (hw : wantedS ops f ⟨o, .call ⟨.value x, args, ats⟩, ty, pos, aft, g⟩ = true)
  (hx : ev f x = .func (.func k) #[] captured.toArray) (ha : args.toList.map (ev f) = vs) (hd : d = true → sp.contains i = true) (hc : ∀ w, Mem w0 w H → Calls P k (vs ++ captured).toArray w (Then P ops sp br d w0 K i rest Hq o f)) : RW P ops sp br d w0 K (i :: rest) Hq H f :=
 rw_s ho hw hd fun w hM => by rw [run_call hk hx ha w _ rfl]; exact hc w hM
end

/-! ### Code -/
theorem tmp_lt {t n : Nat} (h : Nat.blt t n = true) : ∀ t', Operand.tmp t = Operand.tmp t' → t' < n := fun t' e => by
 cases e; exact Nat.le_of_ble_eq_true h
section
variable {P : Program} {w0 w : World} {n : Nat} {Q : Exit → Act → World → Prop} {f : Slots} {H : Heap}

theorem wp_reg_seq {id : Nat} {ops : Array Oper} {y : Code} (hB : inFrame n ops = true) (hM : Mem w0 w H) (h : RW P ops [] [] false w0 (fun f w => y.wp P Q (mkAct n f) w) (List.range ops.size) H H f) : (Code.seq (.region id ops false) y).wp P Q (mkAct n f) w :=
 wp_seq (wp_reg (K := fun f w => y.wp P Q (mkAct n f) w) hB hM (fun _ _ h => h) h)
theorem wp_reg_end {id : Nat} {ops : Array Oper} (hB : inFrame n ops = true) (hM : Mem w0 w H) (h : RW P ops [] [] false w0 (fun f w => Q .normal (mkAct n f) w) (List.range ops.size) H H f) : (Code.region id ops false).wp P Q (mkAct n f) w :=
 wp_reg (K := fun f w => Q .normal (mkAct n f) w) hB hM (fun _ _ h => h) h
theorem rs {id : Nat} {ops : Array Oper} {y : Code} (hM : Mem w0 w H) (h : RW P ops [] [] false w0 (fun f w => y.wp P Q (mkAct n f) w) (List.range ops.size) H H f) (hB : inFrame n ops = true := by kernel_rfl) : (Code.seq (.region id ops false) y).wp P Q (mkAct n f) w := wp_reg_seq hB hM h
theorem re {id : Nat} {ops : Array Oper} (hM : Mem w0 w H) (h : RW P ops [] [] false w0 (fun f w => Q .normal (mkAct n f) w) (List.range ops.size) H H f) (hB : inFrame n ops = true := by kernel_rfl) : (Code.region id ops false).wp P Q (mkAct n f) w := wp_reg_end hB hM h
theorem wp_mix_seq {id : Nat} {ops : Array Oper} {y : Code} (sp br π : List Nat) (Hq : Heap) (hm : P.follows .mixedOrders = true) (hB : mixB n ops sp br π = true) (hle : Hq.le H) (hM : Mem w0 w H) (h : RW P ops sp br true w0 (fun f w => y.wp P Q (mkAct n f) w) π Hq H f) : (Code.seq (.region id ops true) y).wp P Q (mkAct n f) w :=
 wp_seq (wp_mix (K := fun f w => y.wp P Q (mkAct n f) w) sp br π hm hB hle hM (fun _ _ h => h) h)
theorem wp_mix_end {id : Nat} {ops : Array Oper} (sp br π : List Nat) (Hq : Heap) (hm : P.follows .mixedOrders = true) (hB : mixB n ops sp br π = true) (hle : Hq.le H) (hM : Mem w0 w H) (h : RW P ops sp br true w0 (fun f w => Q .normal (mkAct n f) w) π Hq H f) : (Code.region id ops true).wp P Q (mkAct n f) w :=
 wp_mix (K := fun f w => Q .normal (mkAct n f) w) sp br π hm hB hle hM (fun _ _ h => h) h
theorem wp_if {c : Operand} {x y : Code} {b : Bool} (hn : ∀ t, c = .tmp t → t < n) (hc : ev f c = .bool b) (h1 : b = true → x.wp P Q (mkAct n f) w) (h2 : b = false → y.wp P Q (mkAct n f) w) : (Code.cond c x y).wp P Q (mkAct n f) w :=
 wp_cond_split ((mkAct_eval n f c hn).trans hc) h1 h2
open Classical in
/-- A loop; k goes down in every round. -/
theorem wp_loop_s {c : Code} (J : Nat → Slots → World → Prop) (k : Nat) (h0 : J k f w) (round : ∀ k f w, J k f w → c.wp P (Exit.then (fun a' w' => ∃ k' f', a' = mkAct n f' ∧ k' < k ∧ J k' f' w') Q) (mkAct n f) w) : (Code.loop c).wp P Q (mkAct n f) w := by
 have least : ∀ (p : Nat → Prop) (k : Nat), p k → ∃ m, p m ∧ ∀ j, p j → m ≤ j := by
  intro p k
  induction k using Nat.strongRecOn with
  | _ k ih =>
   intro hk
   by_cases h : ∃ j, j < k ∧ p j
   ·obtain ⟨j, hj, hp⟩ := h; exact ih j hj hp
   ·exact ⟨k, hk, fun j hp => Nat.le_of_not_lt fun hj => h ⟨j, hj, hp⟩⟩
 let p := fun (a : Act) (w : World) (m : Nat) => ∃ g, a = mkAct n g ∧ J m g w
 let μ := fun (a : Act) (w : World) => if h : ∃ m, p a w m then Classical.choose (least (p a w) h.choose h.choose_spec) else 0
 have hμ : ∀ a w, (∃ m, p a w m) → p a w (μ a w) ∧ ∀ j, p a w j → μ a w ≤ j := by
  intro a w h
  simp only [μ, dif_pos h]
  exact Classical.choose_spec (least (p a w) h.choose h.choose_spec)
 refine wp_loop (fun a w => ∃ m, p a w m) μ ⟨k, f, rfl, h0⟩ fun a w hI => ?_
 obtain ⟨⟨g, ha, hJ⟩, _⟩ := hμ a w hI
 have hr := round _ g w hJ
 rw [← ha] at hr
 refine wp_mono hr fun e a' w' he => ?_
 cases e <;> try exact he
 obtain ⟨k', f', h1, h2, h3⟩ := he
 have hI' : ∃ m, p a' w' m := ⟨k', f', h1, h3⟩
 exact ⟨hI', Nat.lt_of_le_of_lt ((hμ a' w' hI').2 k' ⟨f', h1, h3⟩) h2⟩
/-- The slots at a function's first step. -/
def startSlots (args : List Value) : Slots := fun i => args.getD i undef
theorem calls_start {k : FuncId} {fn : Func} {c : Code} {args : List Value} {R : Ending → World → Prop} (hf : P.funcs[k]? = some fn) (hb : fn.body = some c) (hn : fn.ntmps = n) (hs : args.length ≤ n)
  (h : c.wp P (bodyPost P fn R) (mkAct n (startSlots args)) w) : Calls P k args.toArray w R := by
 refine calls_of_wp hf hb ?_
 have : ({ tmps := args.toArray ++ Array.replicate (fn.ntmps - args.toArray.size) undef, defers := [] } : Act) = mkAct n (startSlots args) := by
  simp only [mkAct, Act.mk.injEq, and_true]
  apply Array.ext
  ·simp; omega
  ·intro i h1 h2
   simp only [Array.getElem_ofFn, startSlots]
   by_cases hi : i < args.length
   ·rw [Array.getElem_append_left (by simpa using hi)]; simp [hi]
   ·rw [Array.getElem_append_right (by simpa using hi)]; simp [hi]
 rw [this]; exact h
/-- The end: a result in a slot, none, two, three; in memory. -/
theorem post_tmp {fn : Func} {t : Nat} {R : Ending → World → Prop} {v : Value} (hr : fn.results = #[.tmp t]) (ht : Nat.blt t n = true) (hv : f t = v) (h : R (.returned v) w) : bodyPost P fn R .ret (mkAct n f) w :=
 ⟨rfl, v, by have := Nat.le_of_ble_eq_true ht; rw [← hv]; simp [results, hr, mkAct, (show t < n from this)], h⟩
theorem post_none {fn : Func} {R : Ending → World → Prop} (hr : fn.results = #[]) (h : R (.returned (.tuple #[])) w) : bodyPost P fn R .normal (mkAct n f) w :=
 ⟨rfl, _, by simp [results, hr], h⟩
theorem post_none' {fn : Func} {R : Ending → World → Prop} (hr : fn.results = #[]) (h : R (.returned (.tuple #[])) w) : bodyPost P fn R .ret (mkAct n f) w :=
 ⟨rfl, _, by simp [results, hr], h⟩
theorem post_tmp2 {fn : Func} {t u : Nat} {R : Ending → World → Prop} {v v' : Value} (hr : fn.results = #[.tmp t, .tmp u]) (ht : Nat.blt t n = true) (hu : Nat.blt u n = true) (hv : f t = v) (hv' : f u = v') (h : R (.returned (.tuple #[v, v'])) w) : bodyPost P fn R .ret (mkAct n f) w :=
 ⟨rfl, _, by have ht : t < n := Nat.le_of_ble_eq_true ht; have hu : u < n := Nat.le_of_ble_eq_true hu; subst hv; subst hv'; simp [results, hr, mkAct, ht, hu], h⟩
theorem post_tmp3 {fn : Func} {t u s : Nat} {R : Ending → World → Prop} {v v' v'' : Value} (hr : fn.results = #[.tmp t, .tmp u, .tmp s]) (ht : Nat.blt t n = true) (hu : Nat.blt u n = true) (hs : Nat.blt s n = true) (hv : f t = v) (hv' : f u = v') (hv'' : f s = v'') (h : R (.returned (.tuple #[v, v', v''])) w) : bodyPost P fn R .ret (mkAct n f) w :=
 ⟨rfl, _, by have ht : t < n := Nat.le_of_ble_eq_true ht; have hu : u < n := Nat.le_of_ble_eq_true hu; have hs : s < n := Nat.le_of_ble_eq_true hs; subst hv; subst hv'; subst hv''; simp [results, hr, mkAct, ht, hu, hs], h⟩
theorem post_cell {fn : Func} {t : Nat} {u : TypeId} {R : Ending → World → Prop} {b : Nat} {o : Obj} (cs : List Value) (hu : AggRun P u cs.length) (hr : fn.results = #[.cell t u]) (ht : Nat.blt t n = true) (hM : Mem w0 w H) (hv : f t = .pointer (some ⟨b, 0, none⟩))
  (hb : H b = some o) (hc : objTake o 0 cs.length = some cs) (h : R (.returned (.agg cs.toArray)) w) : bodyPost P fn R .ret (mkAct n f) w := by
 refine ⟨rfl, .agg cs.toArray, ?_, h⟩
 have h1 := run_loadAtAgg (P := P) (t := u) (w := w) (a := ⟨b, 0, none⟩) hu (fun j v hj => by rw [addr_add]; exact hM.cell hb (objTake_cell hc j v hj))
 have h2 : (mkAct n f).tmps[t]?.getD undef = .pointer (some ⟨b, 0, none⟩) := by
  have := mkAct_getD n f t (Nat.le_of_ble_eq_true ht)
  rw [Array.getD_eq_getD_getElem?] at this; rw [this, hv]
 simp [results, hr, h2]
 exact h1
end
end
theorem fr24_0 : FieldRun Tryz.prog 24 0 0 := fun _ _ _ => by kernel_rfl
theorem fr24_1 : FieldRun Tryz.prog 24 1 1 := fun _ _ _ => by kernel_rfl
theorem fr24_2 : FieldRun Tryz.prog 24 2 2 := fun _ _ _ => by kernel_rfl
theorem fr24_3 : FieldRun Tryz.prog 24 3 3 := fun _ _ _ => by kernel_rfl
theorem fr27_0 : FieldRun Tryz.prog 27 0 0 := fun _ _ _ => by kernel_rfl
theorem fr27_1 : FieldRun Tryz.prog 27 1 1 := fun _ _ _ => by kernel_rfl
theorem fr27_2 : FieldRun Tryz.prog 27 2 2 := fun _ _ _ => by kernel_rfl
theorem fr27_3 : FieldRun Tryz.prog 27 3 6 := fun _ _ _ => by kernel_rfl
theorem fr36_0 : FieldRun Tryz.prog 36 0 0 := fun _ _ _ => by kernel_rfl
theorem fr36_1 : FieldRun Tryz.prog 36 1 1 := fun _ _ _ => by kernel_rfl
theorem fr36_2 : FieldRun Tryz.prog 36 2 2 := fun _ _ _ => by kernel_rfl
theorem fr36_3 : FieldRun Tryz.prog 36 3 3 := fun _ _ _ => by kernel_rfl
theorem fr44_0 : FieldRun Tryz.prog 44 0 0 := fun _ _ _ => by kernel_rfl
theorem fr44_1 : FieldRun Tryz.prog 44 1 1 := fun _ _ _ => by kernel_rfl
theorem fr44_2 : FieldRun Tryz.prog 44 2 2 := fun _ _ _ => by kernel_rfl
theorem fr59_0 : FieldRun Tryz.prog 59 0 0 := fun _ _ _ => by kernel_rfl
theorem fr59_1 : FieldRun Tryz.prog 59 1 1 := fun _ _ _ => by kernel_rfl
theorem fr59_2 : FieldRun Tryz.prog 59 2 2 := fun _ _ _ => by kernel_rfl
theorem fr88_0 : FieldRun Tryz.prog 88 0 0 := fun _ _ _ => by kernel_rfl
theorem fr88_1 : FieldRun Tryz.prog 88 1 1 := fun _ _ _ => by kernel_rfl
theorem fr88_2 : FieldRun Tryz.prog 88 2 2 := fun _ _ _ => by kernel_rfl
theorem fr88_3 : FieldRun Tryz.prog 88 3 3 := fun _ _ _ => by kernel_rfl
theorem fr98_0 : FieldRun Tryz.prog 98 0 0 := fun _ _ _ => by kernel_rfl
theorem fr98_1 : FieldRun Tryz.prog 98 1 1 := fun _ _ _ => by kernel_rfl
theorem fr104_0 : FieldRun Tryz.prog 104 0 0 := fun _ _ _ => by kernel_rfl
theorem fr106_0 : FieldRun Tryz.prog 106 0 0 := fun _ _ _ => by kernel_rfl
theorem fr106_1 : FieldRun Tryz.prog 106 1 1 := fun _ _ _ => by kernel_rfl
theorem fr106_2 : FieldRun Tryz.prog 106 2 2 := fun _ _ _ => by kernel_rfl
theorem fr106_3 : FieldRun Tryz.prog 106 3 3 := fun _ _ _ => by kernel_rfl
theorem fr106_4 : FieldRun Tryz.prog 106 4 4 := fun _ _ _ => by kernel_rfl
theorem fr106_5 : FieldRun Tryz.prog 106 5 5 := fun _ _ _ => by kernel_rfl
theorem fr106_6 : FieldRun Tryz.prog 106 6 6 := fun _ _ _ => by kernel_rfl
theorem fr106_7 : FieldRun Tryz.prog 106 7 7 := fun _ _ _ => by kernel_rfl
theorem fr106_8 : FieldRun Tryz.prog 106 8 8 := fun _ _ _ => by kernel_rfl
theorem fr106_9 : FieldRun Tryz.prog 106 9 9 := fun _ _ _ => by kernel_rfl
theorem fr106_10 : FieldRun Tryz.prog 106 10 10 := fun _ _ _ => by kernel_rfl
theorem fr106_11 : FieldRun Tryz.prog 106 11 11 := fun _ _ _ => by kernel_rfl
theorem fr108_0 : FieldRun Tryz.prog 108 0 0 := fun _ _ _ => by kernel_rfl
theorem fr115_0 : FieldRun Tryz.prog 115 0 0 := fun _ _ _ => by kernel_rfl
theorem fr115_1 : FieldRun Tryz.prog 115 1 1 := fun _ _ _ => by kernel_rfl
theorem fr115_2 : FieldRun Tryz.prog 115 2 2 := fun _ _ _ => by kernel_rfl
theorem fr118_0 : FieldRun Tryz.prog 118 0 0 := fun _ _ _ => by kernel_rfl
theorem fr118_1 : FieldRun Tryz.prog 118 1 1 := fun _ _ _ => by kernel_rfl
theorem fr118_2 : FieldRun Tryz.prog 118 2 2 := fun _ _ _ => by kernel_rfl
theorem fr121_0 : FieldRun Tryz.prog 121 0 0 := fun _ _ _ => by kernel_rfl
theorem fr121_1 : FieldRun Tryz.prog 121 1 1 := fun _ _ _ => by kernel_rfl
theorem fr121_2 : FieldRun Tryz.prog 121 2 2 := fun _ _ _ => by kernel_rfl
theorem fr132_0 : FieldRun Tryz.prog 132 0 0 := fun _ _ _ => by kernel_rfl
theorem fr132_1 : FieldRun Tryz.prog 132 1 1 := fun _ _ _ => by kernel_rfl
theorem fr132_2 : FieldRun Tryz.prog 132 2 2 := fun _ _ _ => by kernel_rfl
theorem fr132_3 : FieldRun Tryz.prog 132 3 3 := fun _ _ _ => by kernel_rfl
theorem fr132_4 : FieldRun Tryz.prog 132 4 4 := fun _ _ _ => by kernel_rfl
theorem fr132_5 : FieldRun Tryz.prog 132 5 5 := fun _ _ _ => by kernel_rfl
theorem fr132_6 : FieldRun Tryz.prog 132 6 6 := fun _ _ _ => by kernel_rfl
theorem fr132_7 : FieldRun Tryz.prog 132 7 7 := fun _ _ _ => by kernel_rfl
theorem fr132_8 : FieldRun Tryz.prog 132 8 8 := fun _ _ _ => by kernel_rfl
theorem fr132_9 : FieldRun Tryz.prog 132 9 9 := fun _ _ _ => by kernel_rfl
theorem fr149_0 : FieldRun Tryz.prog 149 0 0 := fun _ _ _ => by kernel_rfl
theorem fr149_1 : FieldRun Tryz.prog 149 1 1 := fun _ _ _ => by kernel_rfl
theorem fr149_2 : FieldRun Tryz.prog 149 2 9 := fun _ _ _ => by kernel_rfl
theorem fr156_0 : FieldRun Tryz.prog 156 0 0 := fun _ _ _ => by kernel_rfl
theorem fr156_1 : FieldRun Tryz.prog 156 1 1 := fun _ _ _ => by kernel_rfl
theorem fr158_0 : FieldRun Tryz.prog 158 0 0 := fun _ _ _ => by kernel_rfl
theorem fr158_1 : FieldRun Tryz.prog 158 1 1 := fun _ _ _ => by kernel_rfl
theorem fr158_2 : FieldRun Tryz.prog 158 2 2 := fun _ _ _ => by kernel_rfl
theorem fr158_3 : FieldRun Tryz.prog 158 3 3 := fun _ _ _ => by kernel_rfl
theorem fr158_4 : FieldRun Tryz.prog 158 4 4 := fun _ _ _ => by kernel_rfl
theorem fr158_5 : FieldRun Tryz.prog 158 5 5 := fun _ _ _ => by kernel_rfl
theorem fr180_0 : FieldRun Tryz.prog 180 0 0 := fun _ _ _ => by kernel_rfl
theorem fr180_1 : FieldRun Tryz.prog 180 1 1 := fun _ _ _ => by kernel_rfl
theorem fr180_2 : FieldRun Tryz.prog 180 2 2 := fun _ _ _ => by kernel_rfl
theorem ld2 : OneRun Tryz.prog 2 := fun _ => by kernel_rfl
theorem ld3 : OneRun Tryz.prog 3 := fun _ => by kernel_rfl
theorem ld4 : OneRun Tryz.prog 4 := fun _ => by kernel_rfl
theorem ld5 : OneRun Tryz.prog 5 := fun _ => by kernel_rfl
theorem ld12 : OneRun Tryz.prog 12 := fun _ => by kernel_rfl
theorem ld22 : OneRun Tryz.prog 22 := fun _ => by kernel_rfl
theorem ld24 : AggRun Tryz.prog 24 4 := fun _ => ⟨by kernel_rfl, by kernel_rfl⟩
theorem ld25 : OneRun Tryz.prog 25 := fun _ => by kernel_rfl
theorem ld27 : AggRun Tryz.prog 27 7 := fun _ => ⟨by kernel_rfl, by kernel_rfl⟩
theorem ld36 : AggRun Tryz.prog 36 4 := fun _ => ⟨by kernel_rfl, by kernel_rfl⟩
theorem ld44 : AggRun Tryz.prog 44 3 := fun _ => ⟨by kernel_rfl, by kernel_rfl⟩
theorem ld47 : OneRun Tryz.prog 47 := fun _ => by kernel_rfl
theorem ld54 : OneRun Tryz.prog 54 := fun _ => by kernel_rfl
theorem ld56 : OneRun Tryz.prog 56 := fun _ => by kernel_rfl
theorem ld68 : OneRun Tryz.prog 68 := fun _ => by kernel_rfl
theorem ld69 : OneRun Tryz.prog 69 := fun _ => by kernel_rfl
theorem ld73 : OneRun Tryz.prog 73 := fun _ => by kernel_rfl
theorem ld82 : OneRun Tryz.prog 82 := fun _ => by kernel_rfl
theorem ld83 : OneRun Tryz.prog 83 := fun _ => by kernel_rfl
theorem ld84 : OneRun Tryz.prog 84 := fun _ => by kernel_rfl
theorem ld85 : OneRun Tryz.prog 85 := fun _ => by kernel_rfl
theorem ld86 : OneRun Tryz.prog 86 := fun _ => by kernel_rfl
theorem ld96 : OneRun Tryz.prog 96 := fun _ => by kernel_rfl
theorem ld100 : OneRun Tryz.prog 100 := fun _ => by kernel_rfl
theorem ld101 : OneRun Tryz.prog 101 := fun _ => by kernel_rfl
theorem ld102 : OneRun Tryz.prog 102 := fun _ => by kernel_rfl
theorem ld104 : AggRun Tryz.prog 104 1 := fun _ => ⟨by kernel_rfl, by kernel_rfl⟩
theorem ld112 : OneRun Tryz.prog 112 := fun _ => by kernel_rfl
theorem ld113 : OneRun Tryz.prog 113 := fun _ => by kernel_rfl
theorem ld115 : AggRun Tryz.prog 115 3 := fun _ => ⟨by kernel_rfl, by kernel_rfl⟩
theorem ld121 : AggRun Tryz.prog 121 3 := fun _ => ⟨by kernel_rfl, by kernel_rfl⟩
theorem ld125 : OneRun Tryz.prog 125 := fun _ => by kernel_rfl
theorem ld130 : OneRun Tryz.prog 130 := fun _ => by kernel_rfl
theorem ld145 : OneRun Tryz.prog 145 := fun _ => by kernel_rfl
theorem ld152 : OneRun Tryz.prog 152 := fun _ => by kernel_rfl
theorem ld154 : OneRun Tryz.prog 154 := fun _ => by kernel_rfl
theorem ld156 : AggRun Tryz.prog 156 2 := fun _ => ⟨by kernel_rfl, by kernel_rfl⟩
theorem ld180 : AggRun Tryz.prog 180 3 := fun _ => ⟨by kernel_rfl, by kernel_rfl⟩
theorem ld191 : OneRun Tryz.prog 191 := fun _ => by kernel_rfl
theorem sz2 : SizeRun Tryz.prog 2 1 := fun _ => by kernel_rfl
theorem sz3 : SizeRun Tryz.prog 3 1 := fun _ => by kernel_rfl
theorem sz4 : SizeRun Tryz.prog 4 1 := fun _ => by kernel_rfl
theorem sz5 : SizeRun Tryz.prog 5 1 := fun _ => by kernel_rfl
theorem sz12 : SizeRun Tryz.prog 12 1 := fun _ => by kernel_rfl
theorem sz22 : SizeRun Tryz.prog 22 1 := fun _ => by kernel_rfl
theorem sz36 : SizeRun Tryz.prog 36 4 := fun _ => by kernel_rfl
theorem sz44 : SizeRun Tryz.prog 44 3 := fun _ => by kernel_rfl
theorem sz47 : SizeRun Tryz.prog 47 1 := fun _ => by kernel_rfl
theorem sz56 : SizeRun Tryz.prog 56 1 := fun _ => by kernel_rfl
theorem sz82 : SizeRun Tryz.prog 82 1 := fun _ => by kernel_rfl
theorem sz83 : SizeRun Tryz.prog 83 1 := fun _ => by kernel_rfl
theorem sz84 : SizeRun Tryz.prog 84 1 := fun _ => by kernel_rfl
theorem sz96 : SizeRun Tryz.prog 96 1 := fun _ => by kernel_rfl
theorem sz100 : SizeRun Tryz.prog 100 1 := fun _ => by kernel_rfl
theorem sz101 : SizeRun Tryz.prog 101 1 := fun _ => by kernel_rfl
theorem sz102 : SizeRun Tryz.prog 102 1 := fun _ => by kernel_rfl
theorem sz104 : SizeRun Tryz.prog 104 1 := fun _ => by kernel_rfl
theorem sz112 : SizeRun Tryz.prog 112 1 := fun _ => by kernel_rfl
theorem sz115 : SizeRun Tryz.prog 115 3 := fun _ => by kernel_rfl
theorem sz121 : SizeRun Tryz.prog 121 3 := fun _ => by kernel_rfl
theorem sz125 : SizeRun Tryz.prog 125 1 := fun _ => by kernel_rfl
theorem sz130 : SizeRun Tryz.prog 130 1 := fun _ => by kernel_rfl
theorem sz145 : SizeRun Tryz.prog 145 1 := fun _ => by kernel_rfl
theorem sz149 : SizeRun Tryz.prog 149 17 := fun _ => by kernel_rfl
theorem sz152 : SizeRun Tryz.prog 152 1 := fun _ => by kernel_rfl
theorem sz156 : SizeRun Tryz.prog 156 2 := fun _ => by kernel_rfl
theorem sz180 : SizeRun Tryz.prog 180 3 := fun _ => by kernel_rfl
theorem sz191 : SizeRun Tryz.prog 191 1 := fun _ => by kernel_rfl
theorem cr3 : CallRun Tryz.prog 3 := fun _ _ => by kernel_rfl
theorem cr4 : CallRun Tryz.prog 4 := fun _ _ => by kernel_rfl
theorem cr5 : CallRun Tryz.prog 5 := fun _ _ => by kernel_rfl
theorem cr6 : CallRun Tryz.prog 6 := fun _ _ => by kernel_rfl
theorem cr7 : CallRun Tryz.prog 7 := fun _ _ => by kernel_rfl
theorem cr8 : CallRun Tryz.prog 8 := fun _ _ => by kernel_rfl
theorem cr9 : CallRun Tryz.prog 9 := fun _ _ => by kernel_rfl
theorem cr10 : CallRun Tryz.prog 10 := fun _ _ => by kernel_rfl
theorem cr11 : CallRun Tryz.prog 11 := fun _ _ => by kernel_rfl
theorem cr12 : CallRun Tryz.prog 12 := fun _ _ => by kernel_rfl
theorem cr13 : CallRun Tryz.prog 13 := fun _ _ => by kernel_rfl
theorem cr14 : CallRun Tryz.prog 14 := fun _ _ => by kernel_rfl
theorem cr15 : CallRun Tryz.prog 15 := fun _ _ => by kernel_rfl
theorem cr16 : CallRun Tryz.prog 16 := fun _ _ => by kernel_rfl
theorem cr17 : CallRun Tryz.prog 17 := fun _ _ => by kernel_rfl
theorem cr18 : CallRun Tryz.prog 18 := fun _ _ => by kernel_rfl
theorem cr19 : CallRun Tryz.prog 19 := fun _ _ => by kernel_rfl
theorem cr20 : CallRun Tryz.prog 20 := fun _ _ => by kernel_rfl
theorem cr21 : CallRun Tryz.prog 21 := fun _ _ => by kernel_rfl
theorem cr22 : CallRun Tryz.prog 22 := fun _ _ => by kernel_rfl
theorem cr23 : CallRun Tryz.prog 23 := fun _ _ => by kernel_rfl
theorem cr24 : CallRun Tryz.prog 24 := fun _ _ => by kernel_rfl
theorem cr25 : CallRun Tryz.prog 25 := fun _ _ => by kernel_rfl
theorem cr26 : CallRun Tryz.prog 26 := fun _ _ => by kernel_rfl
theorem cr27 : CallRun Tryz.prog 27 := fun _ _ => by kernel_rfl
theorem cr28 : CallRun Tryz.prog 28 := fun _ _ => by kernel_rfl
theorem cr29 : CallRun Tryz.prog 29 := fun _ _ => by kernel_rfl
theorem cr30 : CallRun Tryz.prog 30 := fun _ _ => by kernel_rfl
theorem cr31 : CallRun Tryz.prog 31 := fun _ _ => by kernel_rfl
theorem cr32 : CallRun Tryz.prog 32 := fun _ _ => by kernel_rfl
theorem cr34 : CallRun Tryz.prog 34 := fun _ _ => by kernel_rfl
theorem cr35 : CallRun Tryz.prog 35 := fun _ _ => by kernel_rfl
theorem cr36 : CallRun Tryz.prog 36 := fun _ _ => by kernel_rfl
theorem cr37 : CallRun Tryz.prog 37 := fun _ _ => by kernel_rfl
theorem cr38 : CallRun Tryz.prog 38 := fun _ _ => by kernel_rfl
theorem cr39 : CallRun Tryz.prog 39 := fun _ _ => by kernel_rfl
theorem cr40 : CallRun Tryz.prog 40 := fun _ _ => by kernel_rfl
theorem cr41 : CallRun Tryz.prog 41 := fun _ _ => by kernel_rfl
theorem cr42 : CallRun Tryz.prog 42 := fun _ _ => by kernel_rfl
theorem cr43 : CallRun Tryz.prog 43 := fun _ _ => by kernel_rfl
theorem cr44 : CallRun Tryz.prog 44 := fun _ _ => by kernel_rfl
theorem cr45 : CallRun Tryz.prog 45 := fun _ _ => by kernel_rfl
theorem cr46 : CallRun Tryz.prog 46 := fun _ _ => by kernel_rfl
theorem cr47 : CallRun Tryz.prog 47 := fun _ _ => by kernel_rfl
theorem cr48 : CallRun Tryz.prog 48 := fun _ _ => by kernel_rfl
theorem cr49 : CallRun Tryz.prog 49 := fun _ _ => by kernel_rfl
theorem cr50 : CallRun Tryz.prog 50 := fun _ _ => by kernel_rfl
theorem cr51 : CallRun Tryz.prog 51 := fun _ _ => by kernel_rfl
theorem cr52 : CallRun Tryz.prog 52 := fun _ _ => by kernel_rfl
theorem cr53 : CallRun Tryz.prog 53 := fun _ _ => by kernel_rfl
theorem cr54 : CallRun Tryz.prog 54 := fun _ _ => by kernel_rfl
theorem cr56 : CallRun Tryz.prog 56 := fun _ _ => by kernel_rfl
theorem cr57 : CallRun Tryz.prog 57 := fun _ _ => by kernel_rfl
theorem cr58 : CallRun Tryz.prog 58 := fun _ _ => by kernel_rfl
theorem cr59 : CallRun Tryz.prog 59 := fun _ _ => by kernel_rfl
theorem cr60 : CallRun Tryz.prog 60 := fun _ _ => by kernel_rfl
theorem cr61 : CallRun Tryz.prog 61 := fun _ _ => by kernel_rfl
theorem cr62 : CallRun Tryz.prog 62 := fun _ _ => by kernel_rfl
theorem cr63 : CallRun Tryz.prog 63 := fun _ _ => by kernel_rfl
theorem cr64 : CallRun Tryz.prog 64 := fun _ _ => by kernel_rfl
theorem cr65 : CallRun Tryz.prog 65 := fun _ _ => by kernel_rfl
theorem cr66 : CallRun Tryz.prog 66 := fun _ _ => by kernel_rfl
theorem cr67 : CallRun Tryz.prog 67 := fun _ _ => by kernel_rfl
theorem cr68 : CallRun Tryz.prog 68 := fun _ _ => by kernel_rfl
theorem cr69 : CallRun Tryz.prog 69 := fun _ _ => by kernel_rfl
theorem cr70 : CallRun Tryz.prog 70 := fun _ _ => by kernel_rfl
theorem cr71 : CallRun Tryz.prog 71 := fun _ _ => by kernel_rfl
theorem cr72 : CallRun Tryz.prog 72 := fun _ _ => by kernel_rfl
theorem cr73 : CallRun Tryz.prog 73 := fun _ _ => by kernel_rfl
theorem cr74 : CallRun Tryz.prog 74 := fun _ _ => by kernel_rfl
theorem cr75 : CallRun Tryz.prog 75 := fun _ _ => by kernel_rfl
theorem cr76 : CallRun Tryz.prog 76 := fun _ _ => by kernel_rfl
theorem cr77 : CallRun Tryz.prog 77 := fun _ _ => by kernel_rfl
theorem cr78 : CallRun Tryz.prog 78 := fun _ _ => by kernel_rfl
theorem cr79 : CallRun Tryz.prog 79 := fun _ _ => by kernel_rfl
theorem cr80 : CallRun Tryz.prog 80 := fun _ _ => by kernel_rfl
theorem cr81 : CallRun Tryz.prog 81 := fun _ _ => by kernel_rfl
theorem cr82 : CallRun Tryz.prog 82 := fun _ _ => by kernel_rfl
theorem cr83 : CallRun Tryz.prog 83 := fun _ _ => by kernel_rfl
theorem cr84 : CallRun Tryz.prog 84 := fun _ _ => by kernel_rfl
theorem cr85 : CallRun Tryz.prog 85 := fun _ _ => by kernel_rfl
theorem cr86 : CallRun Tryz.prog 86 := fun _ _ => by kernel_rfl
theorem cr87 : CallRun Tryz.prog 87 := fun _ _ => by kernel_rfl
theorem cr88 : CallRun Tryz.prog 88 := fun _ _ => by kernel_rfl
theorem cr89 : CallRun Tryz.prog 89 := fun _ _ => by kernel_rfl
theorem cr90 : CallRun Tryz.prog 90 := fun _ _ => by kernel_rfl
theorem cr91 : CallRun Tryz.prog 91 := fun _ _ => by kernel_rfl
theorem cr92 : CallRun Tryz.prog 92 := fun _ _ => by kernel_rfl
theorem cr93 : CallRun Tryz.prog 93 := fun _ _ => by kernel_rfl
theorem cr94 : CallRun Tryz.prog 94 := fun _ _ => by kernel_rfl
theorem cr95 : CallRun Tryz.prog 95 := fun _ _ => by kernel_rfl
theorem cr96 : CallRun Tryz.prog 96 := fun _ _ => by kernel_rfl
theorem cr97 : CallRun Tryz.prog 97 := fun _ _ => by kernel_rfl
theorem cr98 : CallRun Tryz.prog 98 := fun _ _ => by kernel_rfl
theorem cr99 : CallRun Tryz.prog 99 := fun _ _ => by kernel_rfl
theorem cr100 : CallRun Tryz.prog 100 := fun _ _ => by kernel_rfl
theorem cr101 : CallRun Tryz.prog 101 := fun _ _ => by kernel_rfl
theorem cr102 : CallRun Tryz.prog 102 := fun _ _ => by kernel_rfl
theorem cr103 : CallRun Tryz.prog 103 := fun _ _ => by kernel_rfl
theorem cr104 : CallRun Tryz.prog 104 := fun _ _ => by kernel_rfl
theorem cr105 : CallRun Tryz.prog 105 := fun _ _ => by kernel_rfl
theorem cr106 : CallRun Tryz.prog 106 := fun _ _ => by kernel_rfl
theorem cr107 : CallRun Tryz.prog 107 := fun _ _ => by kernel_rfl
theorem cr108 : CallRun Tryz.prog 108 := fun _ _ => by kernel_rfl
theorem cr109 : CallRun Tryz.prog 109 := fun _ _ => by kernel_rfl
theorem cr110 : CallRun Tryz.prog 110 := fun _ _ => by kernel_rfl
theorem cr111 : CallRun Tryz.prog 111 := fun _ _ => by kernel_rfl
theorem cr112 : CallRun Tryz.prog 112 := fun _ _ => by kernel_rfl
theorem cr113 : CallRun Tryz.prog 113 := fun _ _ => by kernel_rfl
theorem cr114 : CallRun Tryz.prog 114 := fun _ _ => by kernel_rfl
theorem cr115 : CallRun Tryz.prog 115 := fun _ _ => by kernel_rfl
theorem cr116 : CallRun Tryz.prog 116 := fun _ _ => by kernel_rfl
theorem cr117 : CallRun Tryz.prog 117 := fun _ _ => by kernel_rfl
theorem cr118 : CallRun Tryz.prog 118 := fun _ _ => by kernel_rfl
theorem cr119 : CallRun Tryz.prog 119 := fun _ _ => by kernel_rfl
theorem cr120 : CallRun Tryz.prog 120 := fun _ _ => by kernel_rfl
theorem cr121 : CallRun Tryz.prog 121 := fun _ _ => by kernel_rfl
theorem cr122 : CallRun Tryz.prog 122 := fun _ _ => by kernel_rfl
theorem cr123 : CallRun Tryz.prog 123 := fun _ _ => by kernel_rfl
theorem cr124 : CallRun Tryz.prog 124 := fun _ _ => by kernel_rfl
theorem cr125 : CallRun Tryz.prog 125 := fun _ _ => by kernel_rfl
theorem cr126 : CallRun Tryz.prog 126 := fun _ _ => by kernel_rfl
theorem cr127 : CallRun Tryz.prog 127 := fun _ _ => by kernel_rfl
theorem cr128 : CallRun Tryz.prog 128 := fun _ _ => by kernel_rfl
theorem cr129 : CallRun Tryz.prog 129 := fun _ _ => by kernel_rfl
theorem cr130 : CallRun Tryz.prog 130 := fun _ _ => by kernel_rfl
theorem cr131 : CallRun Tryz.prog 131 := fun _ _ => by kernel_rfl
theorem cr132 : CallRun Tryz.prog 132 := fun _ _ => by kernel_rfl
theorem cr133 : CallRun Tryz.prog 133 := fun _ _ => by kernel_rfl
theorem cr134 : CallRun Tryz.prog 134 := fun _ _ => by kernel_rfl
theorem cr135 : CallRun Tryz.prog 135 := fun _ _ => by kernel_rfl
theorem cr136 : CallRun Tryz.prog 136 := fun _ _ => by kernel_rfl
theorem cr137 : CallRun Tryz.prog 137 := fun _ _ => by kernel_rfl
theorem cr138 : CallRun Tryz.prog 138 := fun _ _ => by kernel_rfl
theorem cr139 : CallRun Tryz.prog 139 := fun _ _ => by kernel_rfl
theorem cr140 : CallRun Tryz.prog 140 := fun _ _ => by kernel_rfl
theorem cr141 : CallRun Tryz.prog 141 := fun _ _ => by kernel_rfl
theorem bd36_0 (x0 : Int) : BuildRun Tryz.prog 36 [(0, (.int .i64 x0))].toArray (.agg #[(.int .i64 x0), (.int .i64 0), (.int .u64 0), (.int .i64 0)]) := fun _ => by kernel_rfl
theorem bd36_0_1 (x0 : Int) (x1 : Int) : BuildRun Tryz.prog 36 [(0, (.int .i64 x0)), (1, (.int .i64 x1))].toArray (.agg #[(.int .i64 x0), (.int .i64 x1), (.int .u64 0), (.int .i64 0)]) := fun _ => by kernel_rfl
theorem bd36_0_2_3 (x0 : Int) (x2 : Int) (x3 : Int) : BuildRun Tryz.prog 36 [(0, (.int .i64 x0)), (2, (.int .u64 x2)), (3, (.int .i64 x3))].toArray (.agg #[(.int .i64 x0), (.int .i64 0), (.int .u64 x2), (.int .i64 x3)]) := fun _ => by kernel_rfl
theorem bd36_0_2 (x0 : Int) (x2 : Int) : BuildRun Tryz.prog 36 [(0, (.int .i64 x0)), (2, (.int .u64 x2))].toArray (.agg #[(.int .i64 x0), (.int .i64 0), (.int .u64 x2), (.int .i64 0)]) := fun _ => by kernel_rfl
theorem bd24_1_2 (x1 : Int) (x2 : Int) : BuildRun Tryz.prog 24 [(1, (.int .u64 x1)), (2, (.int .u64 x2))].toArray (.agg #[(.int .u64 0), (.int .u64 x1), (.int .u64 x2), (.int .i64 0)]) := fun _ => by kernel_rfl
theorem bd27_2 (y2_0 : Int) (y2_1 : Int) (y2_2 : Int) (y2_3 : Int) : BuildRun Tryz.prog 27 [(2, .agg #[.int .u64 y2_0, .int .u64 y2_1, .int .u64 y2_2, .int .i64 y2_3])].toArray (.agg #[(.bool false), (.int .i64 0), (.int .u64 y2_0), (.int .u64 y2_1), (.int .u64 y2_2), (.int .i64 y2_3), (.slice none 0 0)]) := fun _ => by kernel_rfl
theorem bd59_0_1 (x0 : Option Addr) (x1 : Bool) : BuildRun Tryz.prog 59 [(0, (.pointer x0)), (1, (.bool x1))].toArray (.agg #[(.pointer x0), (.bool x1), (.pointer none), (.pointer none), (.pointer none), (.pointer none), (.pointer none), (.pointer none), (.pointer none), (.pointer none)]) := fun _ => by kernel_rfl
theorem bd44_2 (x2 : Int) : BuildRun Tryz.prog 44 [(2, (.int .i64 x2))].toArray (.agg #[(.bool false), (.int .u64 0), (.int .i64 x2)]) := fun _ => by kernel_rfl
theorem bd44_  : BuildRun Tryz.prog 44 [].toArray (.agg #[(.bool false), (.int .u64 0), (.int .i64 0)]) := fun _ => by kernel_rfl
theorem bd88_0_1_2_3 (x0 : Fn) (x0f x0c : Array Value) (x1 : Fn) (x1f x1c : Array Value) (x2 : Bool) (x3 : Fn) (x3f x3c : Array Value) : BuildRun Tryz.prog 88 [(0, (.func x0 x0f x0c)), (1, (.func x1 x1f x1c)), (2, (.bool x2)), (3, (.func x3 x3f x3c))].toArray (.agg #[(.func x0 x0f x0c), (.func x1 x1f x1c), (.bool x2), (.func x3 x3f x3c)]) := fun _ => by kernel_rfl
theorem bd88_0_1_3 (x0 : Fn) (x0f x0c : Array Value) (x1 : Fn) (x1f x1c : Array Value) (x3 : Fn) (x3f x3c : Array Value) : BuildRun Tryz.prog 88 [(0, (.func x0 x0f x0c)), (1, (.func x1 x1f x1c)), (3, (.func x3 x3f x3c))].toArray (.agg #[(.func x0 x0f x0c), (.func x1 x1f x1c), (.bool false), (.func x3 x3f x3c)]) := fun _ => by kernel_rfl
theorem bd44_0_2 (x0 : Bool) (x2 : Int) : BuildRun Tryz.prog 44 [(0, (.bool x0)), (2, (.int .i64 x2))].toArray (.agg #[(.bool x0), (.int .u64 0), (.int .i64 x2)]) := fun _ => by kernel_rfl
theorem bd108_  : BuildRun Tryz.prog 108 [].toArray (.agg #[(.pointer none), (.pointer none), (.pointer none), (.pointer none), (.int .u64 0), (.int .u64 0), (.int .u64 0), (.int .u8 0), (.int .i64 0), (.pointer none), (.pointer none), (.int .u64 0)]) := fun _ => by kernel_rfl
theorem bd44_0_1_2 (x0 : Bool) (x1 : Int) (x2 : Int) : BuildRun Tryz.prog 44 [(0, (.bool x0)), (1, (.int .u64 x1)), (2, (.int .i64 x2))].toArray (.agg #[(.bool x0), (.int .u64 x1), (.int .i64 x2)]) := fun _ => by kernel_rfl
theorem bd118_0 (x0 : Bool) : BuildRun Tryz.prog 118 [(0, (.bool x0))].toArray (.agg #[(.bool x0), (.slice none 0 0), (.bool false), (.slice none 0 0), (.map none), (.bool false), (.slice none 0 0), (.map none), (.bool false), (.slice none 0 0), (.map none), (.bool false), (.slice none 0 0), (.map none), (.bool false), (.slice none 0 0), (.map none), (.bool false), (.slice none 0 0), (.map none), (.bool false), (.slice none 0 0), (.map none), (.bool false), (.slice none 0 0), (.map none)]) := fun _ => by kernel_rfl
theorem bd121_0_1 (x0 : Int) (x1 : Int) : BuildRun Tryz.prog 121 [(0, (.int .u64 x0)), (1, (.int .i64 x1))].toArray (.agg #[(.int .u64 x0), (.int .i64 x1), (.bool false)]) := fun _ => by kernel_rfl
theorem bd115_0_2 (x0 : Bool) (x2 : Option Nat) : BuildRun Tryz.prog 115 [(0, (.bool x0)), (2, (.map x2))].toArray (.agg #[(.bool x0), (.slice none 0 0), (.map x2)]) := fun _ => by kernel_rfl
theorem bd98_0_1 (x0 : Option Addr) (x1 : Option Addr) : BuildRun Tryz.prog 98 [(0, (.pointer x0)), (1, (.pointer x1))].toArray (.agg #[(.pointer x0), (.pointer x1)]) := fun _ => by kernel_rfl
theorem bd104_0 (x0 : Option Addr) : BuildRun Tryz.prog 104 [(0, (.pointer x0))].toArray (.agg #[(.pointer x0)]) := fun _ => by kernel_rfl
theorem bd149_  : BuildRun Tryz.prog 149 [].toArray (.agg #[(.int .u64 0), (.int .u64 0), (.int .u64 0), (.int .u64 0), (.int .u64 0), (.int .u64 0), (.int .u64 0), (.int .u64 0), (.int .u64 0), (.int .i64 0), (.int .i64 0), (.int .i64 0), (.int .i64 0), (.int .i64 0), (.int .i64 0), (.int .i64 0), (.int .i64 0)]) := fun _ => by kernel_rfl
theorem bd158_4_3 (x4 : Int) (x3 : Int) : BuildRun Tryz.prog 158 [(4, (.int .i64 x4)), (3, (.int .u8 x3))].toArray (.agg #[(.int .u16 0), (.int .u16 0), (.int .u16 0), (.int .u8 x3), (.int .i64 x4), (.slice none 0 0), (.int .u64 0)]) := fun _ => by kernel_rfl
theorem bd104_  : BuildRun Tryz.prog 104 [].toArray (.agg #[(.pointer none)]) := fun _ => by kernel_rfl
theorem bd180_0_1_2 (x0 : Int) (x1 : Int) (x2 : Int) : BuildRun Tryz.prog 180 [(0, (.int .u64 x0)), (1, (.int .u64 x1)), (2, (.int .u64 x2))].toArray (.agg #[(.int .u64 x0), (.int .u64 x1), (.int .u64 x2)]) := fun _ => by kernel_rfl
theorem bd156_0_1 (x0 : Option Addr) (x0l x0c : Nat) (x1 : Int) : BuildRun Tryz.prog 156 [(0, (.slice x0 x0l x0c)), (1, (.int .u64 x1))].toArray (.agg #[(.slice x0 x0l x0c), (.int .u64 x1)]) := fun _ => by kernel_rfl
theorem mixed : Tryz.prog.follows .mixedOrders = true := by kernel_rfl
end Go.Proofs.YtddpfkcofmfmpaaGreatDoor
