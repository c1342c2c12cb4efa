/-
  The base of the walks: frames as functions of slots, memory that is known by a partial heap, and regions (drawn or not) walked once. A region that draws its order: one walk, the quiet operations ahead of the others, serves every order. The operations of a region, one lemma each. Conditions stand in each lemma.
  Conditions stand in each lemma.
-/
import Derived.Orders
import Derived.Below
import Derived.KernelRfl
import Derived.Laws.Sem
import Derived.Laws.Cells
namespace Go.Proofs.YtddpfkcofmfmpaaGreatDoor
open Go Go.RowKit
set_option maxRecDepth 20000
section
/-! ### Slots -/
abbrev Slots := Nat → Value
def Slots.set (f : Slots) (i : Nat) (v : Value) : Slots := fun j => match Nat.beq j i with | true => v | false => f j
def Slots.setD (f : Slots) (d : Option Tmp) (v : Value) : Slots := match d with | some d => f.set d v | none => f
theorem Slots.set_eq (f : Slots) (i j : Nat) (v : Value) : f.set i v j = if j = i then v else f j := by
 unfold Slots.set
 by_cases h : j = i
 ·subst h; simp
 ·have : Nat.beq j i = false := by
   cases hb : Nat.beq j i
   ·rfl
   ·exact absurd (Nat.eq_of_beq_eq_true hb) h
  rw [this, if_neg h]
theorem Slots.set_same {f : Slots} {i : Nat} {v : Value} (h : f i = v) : f.set i v = f := by
 funext j; rw [Slots.set_eq]; split
 ·subst j; exact h.symm
 ·rfl
theorem Slots.set_comm (f : Slots) {i j : Nat} (u v : Value) (h : i ≠ j) : (f.set i u).set j v = (f.set j v).set i u := by
 funext k; simp only [Slots.set_eq]; repeat' split
 all_goals first | rfl | omega
theorem Slots.setD_comm (f : Slots) {i j : Option Tmp} (u v : Value) (h : ∀ d, i = some d → j ≠ some d) : (f.setD i u).setD j v = (f.setD j v).setD i u := by
 cases i <;> cases j <;> simp only [Slots.setD]
 rename_i a b
 exact Slots.set_comm f u v fun e => h a rfl (e ▸ rfl)

/-- What an operand is. -/
def ev (f : Slots) : Operand → Value
 | .tmp t => f t
 | .const v => v
 | .global g => .pointer (some ⟨g, 0, none⟩)
 | .func g => .func (.func g) #[] #[]
def mkAct (n : Nat) (f : Slots) : Act := ⟨Array.ofFn (n := n) fun i => f i.1, []⟩
theorem mkAct_put (n : Nat) (f : Slots) (d : Option Tmp) (v : Value) : (mkAct n f).put d v = mkAct n (f.setD d v) := by
 cases d with
 | none => rfl
 | some d =>
  simp only [Act.put, mkAct, Slots.setD, Act.mk.injEq, and_true]
  apply Array.ext
  ·simp
  ·intro i h1 h2
   have h3 : i < n := by simpa using h1
   simp only [Array.getElem_ofFn, Slots.set_eq]
   by_cases e : i = d
   ·subst e; simp
   ·rw [if_neg e, Array.getElem_setIfInBounds_ne (by simpa using h3) (fun h => e h.symm)]; simp
theorem mkAct_eval (n : Nat) (f : Slots) (x : Operand) (h : ∀ t, x = .tmp t → t < n) : (mkAct n f).eval x = ev f x := by
 cases x with
 | tmp t =>
  have ht := h t rfl
  simp [Act.eval, ev, mkAct, ht]
 | _ => rfl
theorem mkAct_getD (n : Nat) (f : Slots) (t : Nat) (h : t < n) : (mkAct n f).tmps.getD t undef = f t := by simp [mkAct, h]

/-! ### Memory -/
abbrev Heap := Nat → Option Obj
def Heap.upd (H : Heap) (b : Nat) (o : Obj) : Heap := fun k => if k = b then some o else H k
def Heap.le (H K : Heap) : Prop := ∀ b o, H b = some o → K b = some o
theorem Heap.le_refl (H : Heap) : H.le H := fun _ _ h => h
theorem Heap.le_trans {H K L : Heap} (h : H.le K) (k : K.le L) : H.le L := fun b o e => k b o (h b o e)
theorem Heap.upd_same (H : Heap) (b : Nat) (o : Obj) : H.upd b o b = some o := by simp [Heap.upd]
theorem Heap.upd_ne (H : Heap) {b k : Nat} (o : Obj) (h : k ≠ b) : H.upd b o k = H k := by simp [Heap.upd, h]
theorem Heap.le_upd {H : Heap} {b : Nat} (o : Obj) (h : H b = none) : H.le (H.upd b o) := fun k u e => by
 rw [Heap.upd_ne _ _ (fun hk => by rw [hk, h] at e; cases e)]; exact e
/-- Below the first world's blocks all is as it was; the blocks that H names are what H says, and new. -/
structure Mem (w0 w : World) (H : Heap) : Prop where
 below : Below w0.heap.size w0 w
 own : ∀ b o, H b = some o → w0.heap.size ≤ b ∧ w.heap[b]? = some o
theorem Mem.mono {w0 w : World} {H K : Heap} (h : Mem w0 w K) (l : H.le K) : Mem w0 w H := ⟨h.below, fun b o e => h.own b o (l b o e)⟩
theorem Mem.drew {w0 w : World} {H : Heap} (h : Mem w0 w H) : Mem w0 w.drew H := ⟨h.below.drew, h.own⟩
theorem Mem.lt {w0 w : World} {H : Heap} (h : Mem w0 w H) {b : Nat} {o : Obj} (e : H b = some o) : b < w.heap.size := by
 have := (h.own b o e).2
 rcases Nat.lt_or_ge b w.heap.size with h' | h'
 ·exact h'
 ·simp [Array.getElem?_eq_none h'] at this
theorem Mem.fresh {w0 w : World} {H : Heap} (h : Mem w0 w H) : H w.heap.size = none := by
 cases e : H w.heap.size with
 | none => rfl
 | some o => exact absurd (h.lt e) (Nat.lt_irrefl _)
theorem Mem.alloc {w0 w : World} {H : Heap} (h : Mem w0 w H) (o : Obj) : Mem w0 (w.alloc o) (H.upd w.heap.size o) := by
 have hs := h.below.size
 refine ⟨h.below.alloc hs o, fun b u e => ?_⟩
 by_cases hb : b = w.heap.size
 ·subst hb; rw [Heap.upd_same] at e; cases e
  refine ⟨hs, ?_⟩
  show (w.heap.push o)[w.heap.size]? = some o
  simp
 ·rw [Heap.upd_ne _ _ hb] at e
  have hl := h.lt e
  refine ⟨(h.own b u e).1, ?_⟩
  rw [Below.heap_alloc _ _ _ hl]; exact (h.own b u e).2
theorem Mem.setBlock {w0 w w' : World} {H : Heap} (h : Mem w0 w H) {b : Nat} {o o' : Obj} (e : H b = some o) (hb : Below w0.heap.size w w') (h1 : w'.heap[b]? = some o') (h2 : ∀ k, k ≠ b → w'.heap[k]? = w.heap[k]?) : Mem w0 w' (H.upd b o') := by
 refine ⟨h.below.trans hb, fun k u ek => ?_⟩
 by_cases hk : k = b
 ·subst hk; rw [Heap.upd_same] at ek; cases ek; exact ⟨(h.own _ _ e).1, h1⟩
 ·rw [Heap.upd_ne _ _ hk] at ek; exact ⟨(h.own k u ek).1, by rw [h2 k hk]; exact (h.own k u ek).2⟩
theorem Mem.setCell {w0 w : World} {H : Heap} (h : Mem w0 w H) {b : Nat} {c : Array Value} {ty : TypeId} {fr : Nat × Nat} (e : H b = some (.cells c ty fr)) (off : Nat) (v : Value) :
  Mem w0 (w.setCell ⟨b, off, none⟩ v) (H.upd b (.cells (c.setIfInBounds off v) ty fr)) := by
 refine h.setBlock e ((Below.refl _ _).setCell (h.own _ _ e).1 v) ?_ (fun k hk => Below.heap_setCell _ _ _ _ hk)
 simp [World.setCell, Array.getElem?_modify, (h.own _ _ e).2]
theorem Heap.upd_upd (H : Heap) (b : Nat) (o o' : Obj) : (H.upd b o).upd b o' = H.upd b o' := by
 funext k; simp only [Heap.upd]; split <;> rfl
/-- A new block is forgotten. -/
theorem Mem.back {w0 w : World} {H : Heap} {b : Nat} {o : Obj} (h : Mem w0 w (H.upd b o)) (hb : H b = none) : Mem w0 w H := h.mono (Heap.le_upd o hb)
theorem Mem.back2 {w0 w : World} {H : Heap} {b : Nat} {o o' : Obj} (h : Mem w0 w ((H.upd b o).upd b o')) (hb : H b = none) : Mem w0 w H := by
 rw [Heap.upd_upd] at h; exact h.back hb
/-- A cell of a block of cells. -/
def objCell : Obj → Nat → Option Value
 | .cells c _ _, i => c[i]?
 | _, _ => none
theorem cell_of_block {w : World} {b : Nat} {o : Obj} (h : w.heap[b]? = some o) (off : Nat) {v : Value} (hv : objCell o off = some v) : w.cell? ⟨b, off, none⟩ = some v := by
 unfold World.cell?
 simp only [h]
 cases o <;> simp_all [objCell]
theorem Mem.cell {w0 w : World} {H : Heap} (h : Mem w0 w H) {b : Nat} {o : Obj} (e : H b = some o) {off : Nat} {v : Value} (hv : objCell o off = some v) : w.cell? ⟨b, off, none⟩ = some v :=
 cell_of_block (h.own b o e).2 off hv
theorem Mem.old {w0 w : World} {H : Heap} (h : Mem w0 w H) {a : Addr} {v : Value} (hv : w0.cell? a = some v) : w.cell? a = some v := by
 rw [h.below.cell (World.block_lt_of_cell? w0 a hv)]; exact hv
theorem Mem.frozen {w0 w : World} {H : Heap} (h : Mem w0 w H) {b : Nat} {c : Array Value} {ty : TypeId} (e : H b = some (.cells c ty (0, 0))) (off : Nat) : w.frozen? ⟨b, off, none⟩ = false := by
 simp [World.frozen?, (h.own _ _ e).2]

/-! ### Regions -/
def yieldedS (ops : Array Oper) (f : Slots) (j : Nat) : Option Bool :=
 match (ops[j]?).bind (·.dst) with
 | some d => (match f d with | .bool b => some b | _ => none)
 | none => none
def wantedS (ops : Array Oper) (f : Slots) (o : Oper) : Bool :=
 match o.guard with
 | none => true
 | some (j, want) => yieldedS ops f j == some want
/-- Every slot that the operations name is one of the frame's n. -/
def inFrame (n : Nat) (ops : Array Oper) : Bool :=
 ops.toList.all fun o => (o.op.operands.toList.all fun x => match x with | .tmp t => Nat.blt t n | _ => true) &&
  (match o.dst with | some d => Nat.blt d n | none => true) && (match o.op with | .select .. => false | _ => true)
theorem inFrame_of {n : Nat} {ops : Array Oper} (h : inFrame n ops = true) {i : Nat} {o : Oper} (ho : ops[i]? = some o) :
  (∀ x ∈ o.op.operands, ∀ t, x = .tmp t → t < n) ∧ (∀ d, o.dst = some d → d < n) ∧ ∀ cs b, o.op ≠ .select cs b := by
 have hm : o ∈ ops.toList := by
  obtain ⟨hi, rfl⟩ := Array.getElem?_eq_some_iff.1 ho
  exact Array.mem_toList_iff.2 (Array.getElem_mem hi)
 have h1 := List.all_eq_true.1 h o hm
 simp only [Bool.and_eq_true] at h1
 obtain ⟨⟨h1, h2⟩, h3⟩ := h1
 refine ⟨fun x hx t ht => ?_, fun d hd => ?_, fun cs b e => ?_⟩
 ·have := List.all_eq_true.1 h1 x (Array.mem_toList_iff.2 hx)
  subst ht
  exact Nat.le_of_ble_eq_true this
 ·rw [hd] at h2; exact Nat.le_of_ble_eq_true h2
 ·rw [e] at h3; cases h3
theorem exec_slots {n : Nat} {ops : Array Oper} (h : inFrame n ops = true) {i : Nat} {o : Oper} (ho : ops[i]? = some o) (f : Slots) : execOp (mkAct n f).eval o = execOp (ev f) o :=
 execOp_congr o (inFrame_of h ho).2.2 fun x hx => mkAct_eval n f x ((inFrame_of h ho).1 x hx)
theorem yielded_slots {n : Nat} {ops : Array Oper} (h : inFrame n ops = true) (f : Slots) (j : Nat) : yielded ops (mkAct n f).tmps j = yieldedS ops f j := by
 unfold yielded yieldedS
 cases hj : ops[j]? with
 | none => simp
 | some o =>
  simp only [Option.bind_some]
  cases hd : o.dst with
  | none => rfl
  | some d =>
   have hlt := (inFrame_of h hj).2.1 d hd
   have : (mkAct n f).tmps[d]? = some (f d) := by simp [mkAct, hlt]
   simp only [Option.bind_some, this]
   cases f d <;> rfl
theorem wanted_slots {n : Nat} {ops : Array Oper} (h : inFrame n ops = true) (f : Slots) (o : Oper) : Region.wanted o (yielded ops (mkAct n f).tmps) = wantedS ops f o := by
 unfold Region.wanted wantedS
 cases o.guard with
 | none => rfl
 | some g => obtain ⟨j, want⟩ := g; simp only [yielded_slots h]

/-- What a quiet operation leaves: the value v, the world as it was; or a call that hands back v and keeps the heap. -/
def QuietR (P : Program) (w0 : World) (H : Heap) (w : World) (v : Value) : Result Next → Prop
 | .ok (.value u) w' => w' = w ∧ u = v
 | .ok .skip w' => w' = w ∧ undef = v
 | .ok (.enter g args) w' => w' = w ∧ Calls P g args w (fun e w'' => e = .returned v ∧ Mem w0 w'' H)
 | _ => False
def UponR (P : Program) (K : Value → World → Prop) : Result Next → Prop
 | .ok (.value u) w' => K u w'
 | .ok .skip w' => K undef w'
 | .ok (.enter g args) w' => Calls P g args w' (fun e w'' => ∃ v, e = .returned v ∧ K v w'')
 | _ => False
theorem UponR.mono {P : Program} {K K' : Value → World → Prop} {r : Result Next} (h : ∀ v w, K v w → K' v w) (hr : UponR P K r) : UponR P K' r := by
 cases r with
 | halt x w => exact hr
 | ok n w =>
  cases n <;> simp only [UponR] at hr ⊢ <;> first | exact h _ _ hr | exact hr.mono fun e w' ⟨v, e1, e2⟩ => ⟨v, e1, h _ _ e2⟩
/-- A walk of the operations with the numbers 'l'. 'd': the region draws its order. 'sp': the operations that may turn memory; 'br': those of them that wait for all ahead of them. Hq: what the quiet operations look at. -/
def RW (P : Program) (ops : Array Oper) (sp br : List Nat) (d : Bool) (w0 : World) (K : Slots → World → Prop) : List Nat → Heap → Heap → Slots → Prop
 | [], _, H, f => ∀ w, Mem w0 w H → K f w
 | i :: rest, Hq, H, f => ∃ o, ops[i]? = some o ∧
   ((wantedS ops f o = false ∧ RW P ops sp br d w0 K rest Hq H (f.setD o.dst undef)) ∨
    (wantedS ops f o = true ∧ ∃ v, (∀ H' w, Hq.le H' → Mem w0 w H' → QuietR P w0 H' w v ((execOp (ev f) o).run P w)) ∧ RW P ops sp br d w0 K rest Hq H (f.setD o.dst v)) ∨
    (wantedS ops f o = true ∧ (d = true → sp.contains i = true) ∧ ∀ w, Mem w0 w H → UponR P (fun v w' => ∃ Hq' H', (d = true → br.contains i = false → Hq' = Hq) ∧ Hq'.le H' ∧ Mem w0 w' H' ∧ RW P ops sp br d w0 K rest Hq' H' (f.setD o.dst v)) ((execOp (ev f) o).run P w)))

section
variable {P : Program} {ops : Array Oper} {sp br : List Nat} {d : Bool} {w0 : World} {n : Nat} {Q : Exit → Act → World → Prop} {K : Slots → World → Prop}

theorem wp_of_quiet {o : Oper} {f : Slots} {w : World} {H : Heap} {v : Value} {next : Act → World → Prop} (hx : execOp (mkAct n f).eval o = execOp (ev f) o) (hM : Mem w0 w H)
  (h : QuietR P w0 H w v ((execOp (ev f) o).run P w)) (hn : ∀ w', Mem w0 w' H → next (mkAct n (f.setD o.dst v)) w') : o.wp P (mkAct n f) w next Q := by
 unfold Oper.wp
 rw [hx]
 generalize (execOp (ev f) o).run P w = r at h
 cases r with
 | halt x w' => exact h.elim
 | ok m w' =>
  cases m <;> simp only [QuietR] at h <;> simp only [Oper.upon]
  case value u => obtain ⟨rfl, rfl⟩ := h; rw [mkAct_put]; exact hn _ hM
  case skip => obtain ⟨rfl, rfl⟩ := h; rw [mkAct_put]; exact hn _ hM
  case enter g args =>
   obtain ⟨rfl, hc⟩ := h
   exact hc.mono fun e w'' ⟨he, hm⟩ => by subst he; simp only [mkAct_put]; exact hn _ hm
theorem wp_of_upon {o : Oper} {f : Slots} {w : World} {next : Act → World → Prop} {K : Value → World → Prop} (hx : execOp (mkAct n f).eval o = execOp (ev f) o)
  (h : UponR P K ((execOp (ev f) o).run P w)) (hn : ∀ v w', K v w' → next (mkAct n (f.setD o.dst v)) w') : o.wp P (mkAct n f) w next Q := by
 unfold Oper.wp
 rw [hx]
 generalize (execOp (ev f) o).run P w = r at h
 cases r with
 | halt x w' => exact h.elim
 | ok m w' =>
  cases m <;> simp only [UponR] at h <;> simp only [Oper.upon]
  case value u => rw [mkAct_put]; exact hn _ _ h
  case skip => rw [mkAct_put]; exact hn _ _ h
  case enter g args => exact h.mono fun e w'' ⟨v, he, hm⟩ => by subst he; simp only [mkAct_put]; exact hn _ _ hm

/-- A region in the order of the text. -/
theorem wpOps_of_RW (hB : inFrame n ops = true) (hK : ∀ f w, K f w → Q .normal (mkAct n f) w) : ∀ (l : List Nat) (Hq H : Heap) (f : Slots) (w : World), Hq.le H → Mem w0 w H → RW P ops sp br false w0 K l Hq H f → wpOps P ops Q l (mkAct n f) w
 | [], _, _, _, _, _, hM, h => hK _ _ (h _ hM)
 | i :: rest, Hq, H, f, w, hle, hM, h => by
  obtain ⟨o, ho, h⟩ := h
  simp only [wpOps, ho, wanted_slots hB]
  rcases h with ⟨hw, h⟩ | ⟨hw, v, hq, h⟩ | ⟨hw, _, h⟩
  ·rw [hw, if_neg (by simp), mkAct_put]
   exact wpOps_of_RW hB hK rest Hq H _ w hle hM h
  ·rw [hw, if_pos rfl]
   exact .inl (wp_of_quiet (exec_slots hB ho f) hM (hq H w hle hM) fun w' hM' => wpOps_of_RW hB hK rest Hq H _ w' hle hM' h)
  ·rw [hw, if_pos rfl]
   refine .inl (wp_of_upon (exec_slots hB ho f) (h w hM) fun v w' ⟨Hq', H', _, hle', hM', h'⟩ => wpOps_of_RW hB hK rest Hq' H' _ w' hle' hM' h')

theorem wp_reg {id : Nat} {H : Heap} {f : Slots} {w : World} (hB : inFrame n ops = true) (hM : Mem w0 w H) (hK : ∀ f w, K f w → Q .normal (mkAct n f) w) (h : RW P ops [] [] false w0 K (List.range ops.size) H H f) :
  (Code.region id ops false).wp P Q (mkAct n f) w :=
 wp_region (wpOps_of_RW hB hK _ _ _ _ _ (Heap.le_refl _) hM h)
end
end
section
def depB (ops : Array Oper) (h j : Nat) : Bool :=
 match ops[h]? with
 | some o => o.after.toList.any fun e => Region.binds .any e && Nat.beq e.on j
 | none => false
def blocksB (ops : Array Oper) : Nat → Nat → Nat → Bool
 | 0, _, _ => false
 | k + 1, h, j => match ops[j]? with
  | some o => o.after.toList.any fun e => Region.binds .any e && (Nat.beq e.on h || (match e.ground with | .data => blocksB ops k h e.on | .chain => blocksB ops k h e.on | _ => false))
  | none => false
def slotsOf (ops : Array Oper) (o : Oper) : List Tmp :=
 (o.op.operands.toList.filterMap fun | .tmp t => some t | _ => none) ++ (match o.guard with | some (g, _) => ((ops[g]?).bind (·.dst)).toList | none => [])
def freeB (ops : Array Oper) (x y : Nat) : Bool :=
 match ops[x]?, ops[y]? with
 | some ox, some oy =>
  (match ox.dst with | some d => (slotsOf ops oy).all (fun t => !Nat.beq t d) && (match oy.dst with | some e => !Nat.beq e d | none => true) | none => true) &&
  (match oy.dst with | some d => (slotsOf ops ox).all (fun t => !Nat.beq t d) | none => true)
 | _, _ => false
def blocksT (ops : Array Oper) (h j : Nat) : Bool :=
 blocksB ops 12 h j || (match ops[j]? with
  | some o => o.after.toList.any fun e => Region.binds .any e && (match e.ground with | .phase => blocksB ops 12 h e.on | _ => false)
  | none => false)
def pureB (ops : Array Oper) (h : Nat) : Bool := match ops[h]? with
 | some o => (match o.op with | .move _ => true | _ => false)
 | none => false
def relB (ops : Array Oper) (sp br : List Nat) (h j : Nat) : Bool :=
 !Nat.beq h j && !depB ops h j && (blocksT ops h j || (freeB ops h j && sp.all (fun s => !Nat.beq s h) && (br.all (fun s => !Nat.beq s j) || pureB ops h)))
def pairB (r : Nat → Nat → Bool) : List Nat → Bool
 | [] => true
 | x :: l => l.all (r x) && pairB r l
def edgesB (ops : Array Oper) : Bool :=
 (List.range ops.size).all fun i => match ops[i]? with
  | some o => o.after.toList.all fun e => !Region.binds .any e || (!Nat.beq e.on i && Nat.blt e.on ops.size)
  | none => true
def mixB (n : Nat) (ops : Array Oper) (sp br π : List Nat) : Bool :=
 inFrame n ops && edgesB ops && pairB (relB ops sp br) π && π.all (fun i => Nat.blt i ops.size) && (List.range ops.size).all (fun i => π.any (Nat.beq i)) && Nat.beq π.length ops.size

theorem nat_beq {a b : Nat} : Nat.beq a b = true ↔ a = b := ⟨Nat.eq_of_beq_eq_true, fun h => by subst h; simp⟩
theorem nat_beq_f {a b : Nat} : Nat.beq a b = false ↔ a ≠ b := by
 cases h : Nat.beq a b
 ·exact ⟨fun _ e => (by rw [nat_beq.2 e] at h; cases h), fun _ => rfl⟩
 ·exact ⟨fun e => by simp at e, fun e => absurd (nat_beq.1 h) e⟩
theorem pairB_iff {r : Nat → Nat → Bool} : ∀ {l : List Nat}, pairB r l = true → l.Pairwise (fun a b => r a b = true)
 | [], _ => .nil
 | x :: l, h => by
  simp only [pairB, Bool.and_eq_true, List.all_eq_true] at h
  exact .cons h.1 (pairB_iff h.2)

section
variable {P : Program} {ops : Array Oper} {sp br : List Nat} {w0 : World} {n : Nat} {Q : Exit → Act → World → Prop} {K : Slots → World → Prop}

theorem slots_exec {x y : Oper} {f : Slots} {v : Value} (hs : ∀ cs b, y.op ≠ .select cs b) (h : ∀ d, x.dst = some d → d ∉ slotsOf ops y) : execOp (ev (f.setD x.dst v)) y = execOp (ev f) y := by
 refine execOp_congr y hs fun z hz => ?_
 cases z with
 | tmp t =>
  cases hd : x.dst with
  | none => rfl
  | some d =>
   simp only [ev, Slots.setD, Slots.set_eq]
   rw [if_neg]
   rintro rfl
   exact h t hd (List.mem_append_left _ (List.mem_filterMap.2 ⟨.tmp t, Array.mem_toList_iff.2 hz, rfl⟩))
 | _ => rfl
theorem slots_wanted {x y : Oper} {f : Slots} {v : Value} (h : ∀ d, x.dst = some d → d ∉ slotsOf ops y) : wantedS ops (f.setD x.dst v) y = wantedS ops f y := by
 unfold wantedS
 cases hg : y.guard with
 | none => rfl
 | some g =>
  obtain ⟨j, want⟩ := g
  simp only [yieldedS]
  cases hj : (ops[j]?).bind (·.dst) with
  | none => rfl
  | some e =>
   have : f.setD x.dst v e = f e := by
    cases hd : x.dst with
    | none => rfl
    | some d =>
     simp only [Slots.setD, Slots.set_eq]
     rw [if_neg]
     rintro rfl
     exact h e hd (List.mem_append_right _ (by rw [hg]; simp [hj]))
   simp only [this]
theorem freeB_spec {x y : Nat} {ox oy : Oper} (hx : ops[x]? = some ox) (hy : ops[y]? = some oy) (h : freeB ops x y = true) :
  (∀ d, ox.dst = some d → d ∉ slotsOf ops oy) ∧ (∀ d, ox.dst = some d → oy.dst ≠ some d) ∧ (∀ d, oy.dst = some d → d ∉ slotsOf ops ox) := by
 simp only [freeB, hx, hy, Bool.and_eq_true] at h
 obtain ⟨h1, h2⟩ := h
 refine ⟨fun d hd hm => ?_, fun d hd he => ?_, fun d hd hm => ?_⟩
 ·rw [hd] at h1
  simp only [Bool.and_eq_true, List.all_eq_true] at h1
  have := h1.1 d hm
  simp at this
 ·rw [hd] at h1
  simp only [he, Bool.and_eq_true] at h1
  have := h1.2
  simp at this
 ·rw [hd] at h2
  have := List.all_eq_true.1 h2 d hm
  simp at this

/-- What is listed holds all that it waits for. -/
def Down (ops : Array Oper) (listed : Array Bool) : Prop := ∀ j oj, ops[j]? = some oj → listed.getD j false = true → ∀ e ∈ oj.after, Region.binds .any e = true → listed.getD e.on false = true
theorem blocks_listed {listed : Array Bool} (hd : Down ops listed) : ∀ (k h j : Nat), blocksB ops k h j = true → ∀ oj, ops[j]? = some oj → (∀ e ∈ oj.after, Region.binds .any e = true → listed.getD e.on false = true) → listed.getD h false = true
 | 0, _, _, hb, _, _, _ => by simp [blocksB] at hb
 | k + 1, h, j, hb, oj, hj, hall => by
  simp only [blocksB, hj] at hb
  obtain ⟨e, he, hb⟩ := List.any_eq_true.1 hb
  simp only [Bool.and_eq_true, Bool.or_eq_true] at hb
  obtain ⟨hbi, hb⟩ := hb
  have hl := hall e (Array.mem_toList_iff.1 he) hbi
  rcases hb with hb | hb
  ·rw [← nat_beq.1 hb]; exact hl
  ·have hb' : blocksB ops k h e.on = true := by
    split at hb
    ·exact hb
    ·exact hb
    ·cases hb
   cases ho : ops[e.on]? with
   | none =>
    cases k with
    | zero => simp [blocksB] at hb'
    | succ k => simp [blocksB, ho] at hb'
   | some oe => exact blocks_listed hd k h e.on hb' oe ho (hd e.on oe ho hl)
theorem blocksT_listed {listed : Array Bool} (hd : Down ops listed) {h j : Nat} (hb : blocksT ops h j = true) {oj : Oper} (hj : ops[j]? = some oj) (hall : ∀ e ∈ oj.after, Region.binds .any e = true → listed.getD e.on false = true) : listed.getD h false = true := by
 unfold blocksT at hb
 rw [Bool.or_eq_true] at hb
 rcases hb with hb | hb
 ·exact blocks_listed hd 12 h j hb oj hj hall
 ·simp only [hj] at hb
  obtain ⟨e, he, hb⟩ := List.any_eq_true.1 hb
  rw [Bool.and_eq_true] at hb
  obtain ⟨hbi, hb⟩ := hb
  have hl := hall e (Array.mem_toList_iff.1 he) hbi
  have hb' : blocksB ops 12 h e.on = true := by
   split at hb
   ·exact hb
   ·cases hb
  cases ho : ops[e.on]? with
  | none => simp [blocksB, ho] at hb'
  | some oe => exact blocks_listed hd 12 h e.on hb' oe ho (hd e.on oe ho hl)
theorem pure_quiet {P : Program} {oh : Oper} {h : Nat} (ho : ops[h]? = some oh) (hp : pureB ops h = true) {f : Slots} {u : Value} {w0 w w' : World} {H H' : Heap} (hq : QuietR P w0 H w u ((execOp (ev f) oh).run P w)) : QuietR P w0 H' w' u ((execOp (ev f) oh).run P w') := by
 simp only [pureB, ho] at hp
 obtain ⟨dst, op, ty, pos, aft, g⟩ := oh
 cases op with
 | move x =>
  obtain ⟨_, e⟩ := hq
  exact ⟨rfl, e⟩
 | _ => cases hp

/-- The operation j, ready, may be taken first. -/
theorem RW_take (hsel : ∀ (i : Nat) (o : Oper) cs b, ops[i]? = some o → o.op ≠ .select cs b) {listed : Array Bool} (hd : Down ops listed) {j : Nat} (hr : j ∈ Region.ready .any ops listed) {oj : Oper} (hj : ops[j]? = some oj) :
  ∀ (l : List Nat) (Hq H : Heap) (f : Slots), Hq.le H → l.Pairwise (fun a b => relB ops sp br a b = true) → (∀ i ∈ l, listed.getD i false = false) → j ∈ l → RW P ops sp br true w0 K l Hq H f →
   (wantedS ops f oj = false ∧ RW P ops sp br true w0 K (l.erase j) Hq H (f.setD oj.dst undef)) ∨
   (wantedS ops f oj = true ∧ ∃ v, (∀ H' w, Hq.le H' → Mem w0 w H' → QuietR P w0 H' w v ((execOp (ev f) oj).run P w)) ∧ RW P ops sp br true w0 K (l.erase j) Hq H (f.setD oj.dst v)) ∨
   (wantedS ops f oj = true ∧ ∀ w, Mem w0 w H → UponR P (fun v w' => ∃ Hq' H', (br.contains j = false → Hq' = Hq) ∧ Hq'.le H' ∧ Mem w0 w' H' ∧ RW P ops sp br true w0 K (l.erase j) Hq' H' (f.setD oj.dst v)) ((execOp (ev f) oj).run P w))
 | [], _, _, _, _, _, _, hm, _ => by cases hm
 | h :: rest, Hq, H, f, hqle, hp, hun, hm, hw => by
  obtain ⟨oh, hoh, hw⟩ := hw
  by_cases hjh : h = j
  ·subst hjh
   have : oh = oj := Option.some.inj (hoh.symm.trans hj)
   subst this
   rw [List.erase_cons_head]
   rcases hw with hw | hw | ⟨hwa, _, hw⟩
   ·exact .inl hw
   ·exact .inr (.inl hw)
   ·exact .inr (.inr ⟨hwa, fun w hM => (hw w hM).mono fun v w' ⟨Hq', H', e, hle, hM', h'⟩ => ⟨Hq', H', e rfl, hle, hM', h'⟩⟩)
  ·have hjr : j ∈ rest := by
    rcases List.mem_cons.1 hm with e | e
    ·exact absurd e.symm hjh
    ·exact e
   have hrel : relB ops sp br h j = true := (List.pairwise_cons.1 hp).1 j hjr
   simp only [relB, Bool.and_eq_true, Bool.or_eq_true] at hrel
   obtain ⟨⟨_, _⟩, hrel⟩ := hrel
   obtain ⟨_, oj', hoj', hall⟩ := mem_ready.1 hr
   have : oj' = oj := Option.some.inj (hoj'.symm.trans hj)
   subst this
   have hnb : blocksT ops h j = false := by
    cases hb : blocksT ops h j with
    | false => rfl
    | true =>
     have := blocksT_listed hd hb hj hall
     rw [hun h (List.mem_cons_self ..)] at this; cases this
   rw [hnb] at hrel
   simp only [Bool.false_eq_true, false_or, List.all_eq_true] at hrel
   obtain ⟨⟨hfree, hns⟩, hnbr⟩ := hrel
   have hjbr : br.contains j = false ∨ pureB ops h = true := by
    rcases hnbr with hnbr | hnbr
    ·left
     cases hc : br.contains j with
     | false => rfl
     | true => have := hnbr j (List.contains_iff_mem.1 hc); simp at this
    ·exact .inr hnbr
   obtain ⟨f1, f2, f3⟩ := freeB_spec hoh hj hfree
   have hsj := fun cs b => hsel j oj' cs b hj
   have hsh := fun cs b => hsel h oh cs b hoh
   have ih := fun g hw' => RW_take hsel hd hr hj rest Hq H g hqle (List.pairwise_cons.1 hp).2 (fun i hi => hun i (List.mem_cons_of_mem _ hi)) hjr hw'
   rw [List.erase_cons_tail (by simpa using hjh)]
   -- what the head does, it does behind j too
   have behind : ∀ (u : Value) (Hq' H' : Heap) (v : Value), (wantedS ops f oh = false ∧ u = undef ∨ wantedS ops f oh = true ∧ ∀ H' w, Hq'.le H' → Mem w0 w H' → QuietR P w0 H' w u ((execOp (ev f) oh).run P w)) →
     RW P ops sp br true w0 K (rest.erase j) Hq' H' ((f.setD oh.dst u).setD oj'.dst v) → RW P ops sp br true w0 K (h :: rest.erase j) Hq' H' (f.setD oj'.dst v) := by
    intro u Hq' H' v hq h'
    refine ⟨oh, hoh, ?_⟩
    have ec := Slots.setD_comm f u v f2
    rcases hq with ⟨hwa, rfl⟩ | ⟨hwa, hq⟩
    ·refine .inl ⟨(slots_wanted f3).trans hwa, ?_⟩
     rw [← ec]; exact h'
    ·refine .inr (.inl ⟨(slots_wanted f3).trans hwa, u, fun H'' w hle hM => ?_, ?_⟩)
     ·rw [slots_exec hsh f3]; exact hq H'' w hle hM
     ·rw [← ec]; exact h'
   have fin : ∀ (u : Value), (wantedS ops f oh = false ∧ u = undef ∨ wantedS ops f oh = true ∧ ∀ H' w, Hq.le H' → Mem w0 w H' → QuietR P w0 H' w u ((execOp (ev f) oh).run P w)) → RW P ops sp br true w0 K rest Hq H (f.setD oh.dst u) →
     (wantedS ops f oj' = false ∧ RW P ops sp br true w0 K (h :: rest.erase j) Hq H (f.setD oj'.dst undef)) ∨
     (wantedS ops f oj' = true ∧ ∃ v, (∀ H' w, Hq.le H' → Mem w0 w H' → QuietR P w0 H' w v ((execOp (ev f) oj').run P w)) ∧ RW P ops sp br true w0 K (h :: rest.erase j) Hq H (f.setD oj'.dst v)) ∨
     (wantedS ops f oj' = true ∧ ∀ w, Mem w0 w H → UponR P (fun v w' => ∃ Hq' H', (br.contains j = false → Hq' = Hq) ∧ Hq'.le H' ∧ Mem w0 w' H' ∧ RW P ops sp br true w0 K (h :: rest.erase j) Hq' H' (f.setD oj'.dst v)) ((execOp (ev f) oj').run P w)) := by
    intro u hq h'
    rcases ih _ h' with ⟨a, b⟩ | ⟨a, v, b, c⟩ | ⟨a, b⟩
    ·exact .inl ⟨(slots_wanted f1).symm.trans a, behind u Hq H undef hq b⟩
    ·refine .inr (.inl ⟨(slots_wanted f1).symm.trans a, v, fun H' w hle hM => ?_, behind u Hq H v hq c⟩)
     rw [← slots_exec (f := f) (v := u) hsj f1]; exact b H' w hle hM
    ·refine .inr (.inr ⟨(slots_wanted f1).symm.trans a, fun w hM => ?_⟩)
     have := b w hM
     rw [slots_exec hsj f1] at this
     exact this.mono fun v w' ⟨Hq', H', e0, e1, e2, e3⟩ => by
      rcases hjbr with hjbr | hpu
      ·have := e0 hjbr
       subst this
       exact ⟨_, H', fun _ => rfl, e1, e2, behind u _ H' v hq e3⟩
      ·refine ⟨Hq', H', e0, e1, e2, behind u _ H' v ?_ e3⟩
       exact hq.imp (fun h => h) fun h => ⟨h.1, fun H'' w'' _ _ => pure_quiet hoh hpu (h.2 H w hqle hM)⟩
   rcases hw with ⟨hwa, hw⟩ | ⟨hwa, u, hq, hw⟩ | ⟨hwa, hsp, hw⟩
   ·exact fin undef (.inl ⟨hwa, rfl⟩) hw
   ·exact fin u (.inr ⟨hwa, hq⟩) hw
   ·exfalso
    have hc := hsp rfl
    have := hns h (List.contains_iff_mem.1 hc)
    simp at this

theorem wpAny_of_RW (hB : inFrame n ops = true) (hE : edgesB ops = true) (hK : ∀ f w, K f w → Q .normal (mkAct n f) w) : ∀ (l : List Nat) (listed : Array Bool) (Hq H : Heap) (f : Slots) (w : World), l.Pairwise (fun a b => relB ops sp br a b = true) →
  Down ops listed → listed.size = ops.size → (∀ i ∈ l, i < ops.size) → (∀ i, i < ops.size → (listed.getD i false = false ↔ i ∈ l)) → Hq.le H → Mem w0 w H → RW P ops sp br true w0 K l Hq H f → wpAny P .any ops Q l.length listed (mkAct n f) w := by
 intro l
 induction hl : l.length generalizing l with
 | zero =>
  intro listed Hq H f w _ _ hs _ hmem _ hM h
  have : l = [] := List.length_eq_zero_iff.1 hl
  subst this
  refine ⟨?_, hK _ _ (h w hM)⟩
  cases hr : Region.ready .any ops listed with
  | nil => rfl
  | cons j _ =>
   have hj : j ∈ Region.ready .any ops listed := by rw [hr]; exact List.mem_cons_self ..
   obtain ⟨h0, o, ho, _⟩ := mem_ready.1 hj
   have hlt : j < ops.size := (Array.getElem?_eq_some_iff.1 ho).1
   have h0' : listed.getD j false = false := by simpa [hs, hlt] using h0
   have := (hmem j hlt).1 h0'
   cases this
 | succ m ih =>
  intro listed Hq H f w hp hd hs hlt hmem hle hM h
  have hsel : ∀ (i : Nat) (o : Oper) cs b, ops[i]? = some o → o.op ≠ .select cs b := fun i o cs b ho => (inFrame_of hB ho).2.2 cs b
  refine ⟨fun hr => ?_, fun j hj => ?_⟩
  ·-- the first of the list is ready
   exfalso
   match l, hl with
   | i :: rest, _ =>
    have hi := hlt i (List.mem_cons_self ..)
    obtain ⟨o, ho⟩ : ∃ o, ops[i]? = some o := ⟨ops[i], by simp [hi]⟩
    have : i ∈ Region.ready .any ops listed := by
     refine mem_ready.2 ⟨?_, o, ho, fun e he hb => ?_⟩
     ·have := (hmem i hi).2 (List.mem_cons_self ..)
      simpa [hs, hi] using this
     ·have hedge := List.all_eq_true.1 hE i (List.mem_range.2 hi)
      simp only [ho] at hedge
      have hedge := List.all_eq_true.1 hedge e (Array.mem_toList_iff.2 he)
      simp only [hb, Bool.not_true, Bool.false_or, Bool.and_eq_true, Bool.not_eq_true'] at hedge
      have hne : e.on ≠ i := nat_beq_f.1 hedge.1
      have hel : e.on < ops.size := Nat.le_of_ble_eq_true hedge.2
      cases hl' : listed.getD e.on false with
      | true => rfl
      | false =>
       have hin := (hmem e.on hel).1 hl'
       rcases List.mem_cons.1 hin with e1 | e1
       ·exact absurd e1 hne
       ·have hrel : relB ops sp br i e.on = true := (List.pairwise_cons.1 hp).1 e.on e1
        simp only [relB, Bool.and_eq_true, Bool.not_eq_true'] at hrel
        have : depB ops i e.on = true := by
         simp only [depB, ho]
         exact List.any_eq_true.2 ⟨e, Array.mem_toList_iff.2 he, by simp [hb]⟩
        rw [hrel.1.2] at this; cases this
    rw [hr] at this; cases this
  ·obtain ⟨h0, oj, hoj, hall⟩ := mem_ready.1 hj
   have hjlt : j < ops.size := (Array.getElem?_eq_some_iff.1 hoj).1
   have h0' : listed.getD j false = false := by simpa [hs, hjlt] using h0
   have hjl := (hmem j hjlt).1 h0'
   have hnd : l.Nodup := List.Pairwise.imp (fun {a b} hab => by
    simp only [relB, Bool.and_eq_true, Bool.not_eq_true'] at hab
    exact nat_beq_f.1 hab.1.1) hp
   have hlen : (l.erase j).length = m := by rw [List.length_erase_of_mem hjl, hl]; rfl
   have hp' : (l.erase j).Pairwise (fun a b => relB ops sp br a b = true) := hp.sublist List.erase_sublist
   have hd' : Down ops (listed.setIfInBounds j true) := by
    intro k ok hk hkl e he hb
    by_cases hkj : j = k
    ·subst hkj
     have : ok = oj := Option.some.inj (hk.symm.trans hoj)
     subst this
     exact getD_set_true (hall e he hb)
    ·rw [getD_set_ne false hkj] at hkl
     exact getD_set_true (hd k ok hk hkl e he hb)
   have hs' : (listed.setIfInBounds j true).size = ops.size := by simp [hs]
   have hlt' : ∀ i ∈ l.erase j, i < ops.size := fun i hi => hlt i (List.mem_of_mem_erase hi)
   have hmem' : ∀ i, i < ops.size → ((listed.setIfInBounds j true).getD i false = false ↔ i ∈ l.erase j) := by
    intro i hi
    rw [hnd.mem_erase_iff]
    by_cases hij : j = i
    ·subst hij
     simp [hs, hi]
    ·rw [getD_set_ne false hij, hmem i hi]
     exact ⟨fun h => ⟨fun e => hij e.symm, h⟩, fun h => h.2⟩
   have hun : ∀ i ∈ l, listed.getD i false = false := fun i hi => (hmem i (hlt i hi)).2 hi
   unfold wpOp
   simp only [hoj, wanted_slots hB]
   rcases RW_take hsel hd hj hoj l Hq H f hle hp hun hjl h with ⟨a, b⟩ | ⟨a, v, b, c⟩ | ⟨a, b⟩
   ·rw [a, if_neg (by simp), mkAct_put]
    exact ih (l.erase j) hlen _ Hq H _ w hp' hd' hs' hlt' hmem' hle hM b
   ·rw [a, if_pos rfl]
    exact .inl (wp_of_quiet (exec_slots hB hoj f) hM (b H w hle hM) fun w' hM' => ih (l.erase j) hlen _ Hq H _ w' hp' hd' hs' hlt' hmem' hle hM' c)
   ·rw [a, if_pos rfl]
    exact .inl (wp_of_upon (exec_slots hB hoj f) (b w hM) fun v w' ⟨Hq', H', _, hle', hM', h'⟩ => ih (l.erase j) hlen _ Hq' H' _ w' hp' hd' hs' hlt' hmem' hle' hM' h')

/-- **A REGION THAT DRAWS**: sp: the operations that are not quiet; br: those of sp that wait for all that stands ahead of them in π; π: an order that the edges allow, each of sp ahead of those alone that wait for it. -/
theorem wp_mix {id : Nat} {Hq H : Heap} {f : Slots} {w : World} (sp br π : List Nat) (hm : P.follows .mixedOrders = true) (hB : mixB n ops sp br π = true) (hle : Hq.le H) (hM : Mem w0 w H) (hK : ∀ f w, K f w → Q .normal (mkAct n f) w)
  (h : RW P ops sp br true w0 K π Hq H f) : (Code.region id ops true).wp P Q (mkAct n f) w := by
 simp only [mixB, Bool.and_eq_true, List.all_eq_true] at hB
 obtain ⟨⟨⟨⟨⟨h1, h2⟩, h3⟩, h4⟩, h5⟩, h6⟩ := hB
 refine wp_region_any hm ?_
 rw [← nat_beq.1 h6]
 refine wpAny_of_RW h1 h2 hK π _ Hq H f _ (pairB_iff h3) ?_ (by simp [nat_beq.1 h6]) (fun i hi => Nat.le_of_ble_eq_true (h4 i hi)) ?_ hle hM.drew h
 ·intro j oj _ hl
  rw [Array.getD_eq_getD_getElem?] at hl
  by_cases hj : j < π.length
  ·simp [hj] at hl
  ·simp [hj] at hl
 ·intro i hi
  refine ⟨fun _ => ?_, fun _ => ?_⟩
  ·obtain ⟨k, hk, e⟩ := List.any_eq_true.1 (h5 i (List.mem_range.2 hi))
   rw [nat_beq.1 e]; exact hk
  ·rw [Array.getD_eq_getD_getElem?]
   by_cases hj : i < π.length <;> simp [hj]
end
end
section
section
variable {P : Program} {ops : Array Oper} {sp br : List Nat} {d : Bool} {w0 : World} {K : Slots → World → Prop} {i : Nat} {rest : List Nat} {Hq H : Heap} {f : Slots}
variable {dst : Tmp} {ty : TypeId} {pos : String} {aft : Array Edge} {g : Option (Nat × Bool)}

/-- A quiet operation. -/
theorem rw_q {o : Oper} {v : Value} (ho : ops[i]? = some o) (hw : wantedS ops f o = true) (hq : ∀ H' w, Hq.le H' → Mem w0 w H' → (execOp (ev f) o).run P w = .ok (.value v) w)
  (h : RW P ops sp br d w0 K rest Hq H (f.setD o.dst v)) : RW P ops sp br d w0 K (i :: rest) Hq H f :=
 ⟨o, ho, .inr (.inl ⟨hw, v, fun H' w hle hM => by rw [hq H' w hle hM]; exact ⟨rfl, rfl⟩, h⟩)⟩
theorem rw_skip {o : Oper} (ho : ops[i]? = some o) (hw : wantedS ops f o = false) (h : RW P ops sp br d w0 K rest Hq H (f.setD o.dst undef)) : RW P ops sp br d w0 K (i :: rest) Hq H f :=
 ⟨o, ho, .inl ⟨hw, h⟩⟩
/-- An operation that may turn memory. -/
theorem rw_s {o : Oper} (ho : ops[i]? = some o) (hw : wantedS ops f o = true) (hd : d = true → sp.contains i = true)
  (h : ∀ w, Mem w0 w H → UponR P (fun v w' => ∃ Hq' H', (d = true → br.contains i = false → Hq' = Hq) ∧ Hq'.le H' ∧ Mem w0 w' H' ∧ RW P ops sp br d w0 K rest Hq' H' (f.setD o.dst v)) ((execOp (ev f) o).run P w)) : RW P ops sp br d w0 K (i :: rest) Hq H f :=
 ⟨o, ho, .inr (.inr ⟨hw, hd, h⟩)⟩
theorem rw_nil (h : ∀ w, Mem w0 w H → K f w) : RW P ops sp br d w0 K [] Hq H f := h

theorem rw_move {x : Operand} {v : Value} (ho : ops[i]? = some ⟨some dst, .move x, ty, pos, aft, g⟩) (hw : wantedS ops f ⟨some dst, .move x, ty, pos, aft, g⟩ = true) (hx : ev f x = v)
  (h : RW P ops sp br d w0 K rest Hq H (f.set dst v)) : RW P ops sp br d w0 K (i :: rest) Hq H f :=
 rw_q ho hw (v := v) (fun _ _ _ _ => by rw [← hx]; rfl) h
theorem rw_assign {x : Operand} {v : Value} (ho : ops[i]? = some ⟨some dst, .assign x, ty, pos, aft, g⟩) (hw : wantedS ops f ⟨some dst, .assign x, ty, pos, aft, g⟩ = true) (hx : ev f x = v)
  (h : RW P ops sp br d w0 K rest Hq H (f.set dst v)) : RW P ops sp br d w0 K (i :: rest) Hq H f :=
 rw_q ho hw (v := v) (fun _ _ _ _ => by rw [← hx]; rfl) h
theorem mv {x : Operand} {v : Value} (h : RW P ops sp br d w0 K rest Hq H (f.set dst v)) (ho : ops[i]? = some ⟨some dst, .move x, ty, pos, aft, g⟩ := by exact rfl) (hw : wantedS ops f ⟨some dst, .move x, ty, pos, aft, g⟩ = true := by exact rfl) (hx : ev f x = v := by conv => lhs; whnf) : RW P ops sp br d w0 K (i :: rest) Hq H f := rw_move ho hw hx h
theorem asg {x : Operand} {v : Value} (h : RW P ops sp br d w0 K rest Hq H (f.set dst v)) (ho : ops[i]? = some ⟨some dst, .assign x, ty, pos, aft, g⟩ := by exact rfl) (hw : wantedS ops f ⟨some dst, .assign x, ty, pos, aft, g⟩ = true := by exact rfl) (hx : ev f x = v := by conv => lhs; whnf) : RW P ops sp br d w0 K (i :: rest) Hq H f := rw_assign ho hw hx h
theorem rw_pick {c x y : Operand} {b : Bool} {v u : Value} (ho : ops[i]? = some ⟨some dst, .pick c x y, ty, pos, aft, g⟩) (hw : wantedS ops f ⟨some dst, .pick c x y, ty, pos, aft, g⟩ = true) (hc : ev f c = .bool b) (hx : ev f x = v) (hy : ev f y = u)
  (h : RW P ops sp br d w0 K rest Hq H (f.set dst (if b then v else u))) : RW P ops sp br d w0 K (i :: rest) Hq H f :=
 rw_q ho hw (v := if b then v else u) (fun _ _ _ _ => by simp only [execOp, hc, hx, hy, asBool]; cases b <;> rfl) h
theorem rw_nilCheck {x : Operand} {a : Addr} (ho : ops[i]? = some ⟨some dst, .nilCheck x, ty, pos, aft, g⟩) (hw : wantedS ops f ⟨some dst, .nilCheck x, ty, pos, aft, g⟩ = true) (hx : ev f x = .pointer (some a))
  (h : RW P ops sp br d w0 K rest Hq H (f.set dst (.pointer (some a)))) : RW P ops sp br d w0 K (i :: rest) Hq H f :=
 rw_q ho hw (v := .pointer (some a)) (fun _ _ _ _ => by simp only [execOp, hx]; rfl) h
theorem nck {x : Operand} {a : Addr} (h : RW P ops sp br d w0 K rest Hq H (f.set dst (.pointer (some a)))) (ho : ops[i]? = some ⟨some dst, .nilCheck x, ty, pos, aft, g⟩ := by exact rfl) (hw : wantedS ops f ⟨some dst, .nilCheck x, ty, pos, aft, g⟩ = true := by exact rfl) (hx : ev f x = .pointer (some a) := by exact rfl) : RW P ops sp br d w0 K (i :: rest) Hq H f := rw_nilCheck ho hw hx h
/-- The place of a struct's field. -/
def FieldRun (P : Program) (s : TypeId) (k off : Nat) : Prop := ∀ (b o : Nat) (w : World), (Instr.fieldAt s (.pointer (some ⟨b, o, none⟩)) k).run P w = .ok (.pointer (some ⟨b, o + off, none⟩)) w
theorem rw_fieldAddr {s : TypeId} {x : Operand} {k off b o : Nat} (hf : FieldRun P s k off) (ho : ops[i]? = some ⟨some dst, .fieldAddr s x k, ty, pos, aft, g⟩) (hw : wantedS ops f ⟨some dst, .fieldAddr s x k, ty, pos, aft, g⟩ = true) (hx : ev f x = .pointer (some ⟨b, o, none⟩))
  (h : RW P ops sp br d w0 K rest Hq H (f.set dst (.pointer (some ⟨b, o + off, none⟩)))) : RW P ops sp br d w0 K (i :: rest) Hq H f :=
 rw_q ho hw (v := .pointer (some ⟨b, o + off, none⟩)) (fun _ w _ _ => by simp only [execOp, hx, bind, pure, Sem.run_bind', hf b o w]; rfl) h
/-- A variable of one cell. -/
def OneRun (P : Program) (t : TypeId) : Prop := ∀ w, (isAgg t).run P w = .ok false w
theorem run_loadAt {t : TypeId} (ht : OneRun P t) {a : Addr} {v : Value} {w : World} (hv : w.cell? a = some v) : (Instr.loadAt t (.pointer (some a))).run P w = .ok v w := by
 simp only [Instr.loadAt, Instr.sureAddr, loadVar, bind, pure, Sem.bind, Sem.run_bind', ht w, Result.andThen_ok]
 simp [load, Sem.run, hv]
theorem rw_load {t : TypeId} {x : Operand} {b off : Nat} {o : Obj} {v : Value} (ht : OneRun P t) (ho : ops[i]? = some ⟨some dst, .load t x, ty, pos, aft, g⟩) (hw : wantedS ops f ⟨some dst, .load t x, ty, pos, aft, g⟩ = true) (hx : ev f x = .pointer (some ⟨b, off, none⟩))
  (hH : Hq b = some o) (hv : objCell o off = some v) (h : RW P ops sp br d w0 K rest Hq H (f.set dst v)) : RW P ops sp br d w0 K (i :: rest) Hq H f :=
 rw_q ho hw (v := v) (fun H' w hle hM => by simp only [execOp, hx, bind, pure, Sem.run_bind', run_loadAt ht (hM.cell (hle _ _ hH) hv)]; rfl) h
theorem fa {s : TypeId} {x : Operand} {k off b o : Nat} (hf : FieldRun P s k off) (h : RW P ops sp br d w0 K rest Hq H (f.set dst (.pointer (some ⟨b, o + off, none⟩)))) (ho : ops[i]? = some ⟨some dst, .fieldAddr s x k, ty, pos, aft, g⟩ := by exact rfl) (hw : wantedS ops f ⟨some dst, .fieldAddr s x k, ty, pos, aft, g⟩ = true := by exact rfl) (hx : ev f x = .pointer (some ⟨b, o, none⟩) := by exact rfl) : RW P ops sp br d w0 K (i :: rest) Hq H f := rw_fieldAddr hf ho hw hx h
theorem lo {t : TypeId} {x : Operand} {b off : Nat} {o : Obj} {v : Value} (ht : OneRun P t) (hH : Hq b = some o) (h : RW P ops sp br d w0 K rest Hq H (f.set dst v)) (ho : ops[i]? = some ⟨some dst, .load t x, ty, pos, aft, g⟩ := by exact rfl) (hw : wantedS ops f ⟨some dst, .load t x, ty, pos, aft, g⟩ = true := by exact rfl) (hx : ev f x = .pointer (some ⟨b, off, none⟩) := by exact rfl) (hv : objCell o off = some v := by exact rfl) : RW P ops sp br d w0 K (i :: rest) Hq H f := rw_load ht ho hw hx hH hv h
/-- .. of the memory that was there at the beginning. -/
theorem rw_load_old {t : TypeId} {x : Operand} {a : Addr} {v : Value} (ht : OneRun P t) (ho : ops[i]? = some ⟨some dst, .load t x, ty, pos, aft, g⟩) (hw : wantedS ops f ⟨some dst, .load t x, ty, pos, aft, g⟩ = true) (hx : ev f x = .pointer (some a))
  (hv : w0.cell? a = some v) (h : RW P ops sp br d w0 K rest Hq H (f.set dst v)) : RW P ops sp br d w0 K (i :: rest) Hq H f :=
 rw_q ho hw (v := v) (fun H' w hle hM => by simp only [execOp, hx, bind, pure, Sem.run_bind', run_loadAt ht (hM.old hv)]; rfl) h
/-- A variable of several cells. -/
def AggRun (P : Program) (t : TypeId) (n : Nat) : Prop := ∀ w, (isAgg t).run P w = .ok true w ∧ (sizeOf t).run P w = .ok n w
theorem run_loadAtAgg {t : TypeId} {cs : List Value} (ht : AggRun P t cs.length) {a : Addr} {w : World} (hv : ∀ j v, cs[j]? = some v → w.cell? (a.add j) = some v) : (Instr.loadAt t (.pointer (some a))).run P w = .ok (.agg cs.toArray) w := by
 have := run_loadCells_list (P := P) (w := w) a cs hv
 simp only [Instr.loadAt, Instr.sureAddr, loadVar, bind, pure, Sem.bind, Sem.run_bind', (ht w).1, (ht w).2, Result.andThen_ok, if_true, this]
 rfl
theorem addr_add (b off j : Nat) : (Addr.add ⟨b, off, none⟩ j) = ⟨b, off + j, none⟩ := by
 unfold Addr.add; split
 ·subst j; rfl
 ·rfl
/-- n cells in a row. -/
def objTake (o : Obj) (off n : Nat) : Option (List Value) :=
 match o with
 | .cells c _ _ => some ((c.toList.drop off).take n)
 | _ => none
theorem objTake_cell {o : Obj} {off : Nat} {cs : List Value} (h : objTake o off cs.length = some cs) : ∀ j v, cs[j]? = some v → objCell o (off + j) = some v := by
 intro j v hj
 cases o <;> simp only [objTake, reduceCtorEq, Option.some.injEq] at h
 rename_i c _ _
 have hl : j < cs.length := (List.getElem?_eq_some_iff.1 hj).1
 rw [← h, List.getElem?_take_of_lt hl, List.getElem?_drop] at hj
 simpa [objCell] using hj
theorem rw_loadA {t : TypeId} {x : Operand} {b off : Nat} {o : Obj} (cs : List Value) (ht : AggRun P t cs.length) (ho : ops[i]? = some ⟨some dst, .load t x, ty, pos, aft, g⟩) (hw : wantedS ops f ⟨some dst, .load t x, ty, pos, aft, g⟩ = true) (hx : ev f x = .pointer (some ⟨b, off, none⟩))
  (hH : Hq b = some o) (hv : objTake o off cs.length = some cs) (h : RW P ops sp br d w0 K rest Hq H (f.set dst (.agg cs.toArray))) : RW P ops sp br d w0 K (i :: rest) Hq H f :=
 rw_q ho hw (v := .agg cs.toArray) (fun H' w hle hM => by
  have := run_loadAtAgg (P := P) (t := t) (w := w) (a := ⟨b, off, none⟩) ht (fun j v hj => by rw [addr_add]; exact hM.cell (hle _ _ hH) (objTake_cell hv j v hj))
  simp only [execOp, hx, bind, pure, Sem.run_bind', this]; rfl) h
theorem rw_loadA_old {t : TypeId} {x : Operand} {b off : Nat} (cs : List Value) (ht : AggRun P t cs.length) (ho : ops[i]? = some ⟨some dst, .load t x, ty, pos, aft, g⟩) (hw : wantedS ops f ⟨some dst, .load t x, ty, pos, aft, g⟩ = true) (hx : ev f x = .pointer (some ⟨b, off, none⟩))
  (hv : ∀ j v, cs[j]? = some v → w0.cell? ⟨b, off + j, none⟩ = some v) (h : RW P ops sp br d w0 K rest Hq H (f.set dst (.agg cs.toArray))) : RW P ops sp br d w0 K (i :: rest) Hq H f :=
 rw_q ho hw (v := .agg cs.toArray) (fun H' w hle hM => by
  have := run_loadAtAgg (P := P) (t := t) (w := w) (a := ⟨b, off, none⟩) ht (fun j v hj => by rw [addr_add]; exact hM.old (hv j v hj))
  simp only [execOp, hx, bind, pure, Sem.run_bind', this]; rfl) h

/-- Arithmetic and comparisons. -/
def BinRun (P : Program) (op : BinOp) (t : TypeId) (a b v : Value) : Prop := ∀ (w : World) (X Y : Operand), (do eqGuard op t X Y a b; binOp op t a b : Sem Value).run P w = .ok v w
theorem rw_bin {op : BinOp} {t u : TypeId} {x y : Operand} {a b v : Value} (ho : ops[i]? = some ⟨some dst, .binOp op t x y u, ty, pos, aft, g⟩) (hw : wantedS ops f ⟨some dst, .binOp op t x y u, ty, pos, aft, g⟩ = true) (hx : ev f x = a) (hy : ev f y = b) (hr : BinRun P op t a b v)
  (h : RW P ops sp br d w0 K rest Hq H (f.set dst v)) : RW P ops sp br d w0 K (i :: rest) Hq H f :=
 rw_q ho hw (v := v) (fun _ w _ _ => by
  have := hr w x y
  simp only [execOp, hx, hy]
  show Sem.run P (Sem.bind _ _) w = _
  rw [Sem.run_bind', this]; rfl) h
def UnRun (P : Program) (op : UnOp) (a v : Value) : Prop := ∀ w : World, (Op.unary op a).run P w = .ok v w
theorem rw_un {op : UnOp} {t : TypeId} {x : Operand} {a v : Value} (ho : ops[i]? = some ⟨some dst, .unOp op t x, ty, pos, aft, g⟩) (hw : wantedS ops f ⟨some dst, .unOp op t x, ty, pos, aft, g⟩ = true) (hx : ev f x = a) (hr : UnRun P op a v)
  (h : RW P ops sp br d w0 K rest Hq H (f.set dst v)) : RW P ops sp br d w0 K (i :: rest) Hq H f :=
 rw_q ho hw (v := v) (fun _ w _ _ => by
  simp only [execOp, hx]
  show Sem.run P (Sem.bind _ _) w = _
  rw [Sem.run_bind', hr w]; rfl) h
def ConvRun (P : Program) (s t : TypeId) (a v : Value) : Prop := ∀ w : World, (convert s t a).run P w = .ok v w
theorem rw_conv {s t : TypeId} {x : Operand} {a v : Value} (ho : ops[i]? = some ⟨some dst, .convert s t x, ty, pos, aft, g⟩) (hw : wantedS ops f ⟨some dst, .convert s t x, ty, pos, aft, g⟩ = true) (hx : ev f x = a) (hr : ConvRun P s t a v)
  (h : RW P ops sp br d w0 K rest Hq H (f.set dst v)) : RW P ops sp br d w0 K (i :: rest) Hq H f :=
 rw_q ho hw (v := v) (fun _ w _ _ => by
  simp only [execOp, hx]
  show Sem.run P (Sem.bind _ _) w = _
  rw [Sem.run_bind', hr w]; rfl) h
/-- The place of an element. -/
def IndexRun (P : Program) (t : TypeId) (x y v : Value) : Prop := ∀ w : World, (Instr.indexAt t x y).run P w = .ok v w
theorem rw_indexAddr {t : TypeId} {x y : Operand} {a b v : Value} (ho : ops[i]? = some ⟨some dst, .indexAddr t x y, ty, pos, aft, g⟩) (hw : wantedS ops f ⟨some dst, .indexAddr t x y, ty, pos, aft, g⟩ = true) (hx : ev f x = a) (hy : ev f y = b) (hr : IndexRun P t a b v)
  (h : RW P ops sp br d w0 K rest Hq H (f.set dst v)) : RW P ops sp br d w0 K (i :: rest) Hq H f :=
 rw_q ho hw (v := v) (fun _ w _ _ => by
  simp only [execOp, hx, hy]
  show Sem.run P (Sem.bind _ _) w = _
  rw [Sem.run_bind', hr w]; rfl) h
def BuildRun (P : Program) (t : TypeId) (parts : Array (Nat × Value)) (v : Value) : Prop := ∀ w : World, (Instr.build t parts).run P w = .ok v w
theorem rw_build {t : TypeId} {parts : Array (Nat × Operand)} {pl : List (Nat × Value)} {v : Value} (hr : BuildRun P t pl.toArray v) (ho : ops[i]? = some ⟨some dst, .build t parts, ty, pos, aft, g⟩) (hw : wantedS ops f ⟨some dst, .build t parts, ty, pos, aft, g⟩ = true)
  (hx : parts.toList.map (fun p => (p.1, ev f p.2)) = pl) (h : RW P ops sp br d w0 K rest Hq H (f.set dst v)) : RW P ops sp br d w0 K (i :: rest) Hq H f :=
 rw_q ho hw (v := v) (fun _ w _ _ => by
  have e : parts.map (fun (i, x) => (i, ev f x)) = pl.toArray := by apply Array.toList_inj.1; rw [Array.toList_map]; exact hx
  simp only [execOp, e]
  show Sem.run P (Sem.bind _ _) w = _
  rw [Sem.run_bind', hr w]; rfl) h
theorem rw_extract {x : Operand} {k : Nat} {vs : Array Value} {v : Value} (ho : ops[i]? = some ⟨some dst, .extract x k, ty, pos, aft, g⟩) (hw : wantedS ops f ⟨some dst, .extract x k, ty, pos, aft, g⟩ = true) (hx : ev f x = .tuple vs) (hv : vs[k]? = some v)
  (h : RW P ops sp br d w0 K rest Hq H (f.set dst v)) : RW P ops sp br d w0 K (i :: rest) Hq H f :=
 rw_q ho hw (v := v) (fun _ w _ _ => by simp [execOp, hx, Instr.extract, hv]) h
end
end
end Go.Proofs.YtddpfkcofmfmpaaGreatDoor
