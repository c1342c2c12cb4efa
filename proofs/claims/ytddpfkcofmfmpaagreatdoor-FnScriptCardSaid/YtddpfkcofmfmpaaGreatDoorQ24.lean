/-
  Plain law: what the guard's spread says of the entries. Conditions stand in each lemma. More operations: rows that the call owns, append, rows of given parts, rows that can be read. Conditions stand in each lemma. Closed facts of the types of rows. No conditions. A script is played. Conditions stand in the contract. More operations: maps with whole numbers for keys; a part of a row. Conditions stand in each lemma.
  Conditions stand in each lemma.
-/
import Derived.Test.YtddpfkcofmfmpaaGreatDoorQ23
import Derived.Maps.AppendAt
import Derived.Maps.Keyed
import Derived.Laws.Slices
namespace Go.Proofs.YtddpfkcofmfmpaaGreatDoor
open Go Go.RowKit
set_option maxRecDepth 20000
/-- Step p puts a key that counts: one that is equal to none, or one that was not put before. -/
def Counts (K : KT) (l : List Stp) (p : Nat) : Bool := match l[p]? with | some s => decide (s.kind = 0) && (K.nan s.key || (l.take p).all fun s' => !(decide (s'.kind = 0) && s'.key == s.key)) | none => false
def cls12 (K : KT) (l : List Stp) (c p : Nat) : Bool := match l[p]? with | some s => Nat.beq (K.hash s.key / 2 ^ 52) c | none => false
/-- At most 800 of the keys that are put have hashes with the same twelve highest bits. -/
def SpreadP (K : KT) (l : List Stp) : Prop := ∀ c, cnt (fun p => Counts K l p && cls12 K l c p) l.length ≤ 800
def clsE (K : KT) (all : List Ent) (c i : Nat) : Bool := match all[i]? with | some a => !a.gone && Nat.beq (K.hash a.key / 2 ^ 52) c | none => false
def ModelCls (K : KT) (all : List Ent) : Prop := ∀ c, cnt (clsE K all c) all.length ≤ 800
theorem clsE_iff {K : KT} {all : List Ent} {c i : Nat} : clsE K all c i = true ↔ ∃ a, all[i]? = some a ∧ a.gone = false ∧ K.hash a.key / 2 ^ 52 = c := by
 unfold clsE
 cases h : all[i]? with
 | none => simp
 | some a => simp
/-- Where the entries come from. -/
structure From (K : KT) (l : List Stp) (all : List Ent) (cr : Nat → Nat) : Prop where
 at_ : ∀ i a, all[i]? = some a → ∃ s, l[cr i]? = some s ∧ s.kind = 0 ∧ s.key = a.key
 inj : ∀ i j, i < all.length → j < all.length → cr i = cr j → i = j
 uni : Uni K all
theorem From.snoc {K : KT} {l : List Stp} {all : List Ent} {cr : Nat → Nat} (h : From K l all cr) (s : Stp) : From K (l ++ [s]) all cr :=
 ⟨fun i a ha => by
  obtain ⟨s', h1, h2⟩ := h.at_ i a ha
  exact ⟨s', by rw [List.getElem?_append_left (List.getElem?_eq_some_iff.1 h1).1]; exact h1, h2⟩, h.inj, h.uni⟩
theorem From.same {K : KT} {l : List Stp} {all all' : List Ent} {cr : Nat → Nat} (h : From K l all cr) (hl : all'.length = all.length) (hk : ∀ (i : Nat) (a : Ent), all'[i]? = some a → ∃ b, all[i]? = some b ∧ b.key = a.key ∧ (a.gone = false → b.gone = false)) : From K l all' cr :=
 ⟨fun i a ha => by
  obtain ⟨b, b1, b2, _⟩ := hk i a ha
  rw [← b2]; exact h.at_ i b b1, fun i j hi hj => h.inj i j (hl ▸ hi) (hl ▸ hj), fun i j a b ha hb h1 h2 h3 => by
  obtain ⟨a', a1, a2, a3⟩ := hk i a ha
  obtain ⟨b', b1, b2, b3⟩ := hk j b hb
  exact h.uni i j a' b' a1 b1 (a3 h1) (b3 h2) (by rw [a2, b2]; exact h3)⟩
theorem From.put {K : KT} {l : List Stp} {all : List Ent} {cr : Nat → Nat} (h : From K l all cr) {s : Stp} (hs : s.kind = 0) : ∃ cr', From K (l ++ [s]) (putE K all s.key s.elem) cr' := by
 unfold putE
 cases hf : findE K all s.key with
 | some i =>
  refine ⟨cr, (h.snoc s).same (by simp [setElem]) fun j a ha => ?_⟩
  rw [get_setElem] at ha
  cases hj : all[j]? with
  | none => rw [hj] at ha; cases ha
  | some b =>
   rw [hj] at ha
   simp only [Option.map_some, Option.some.injEq] at ha
   subst ha
   refine ⟨b, rfl, ?_, fun hg => ?_⟩
   ·split <;> rfl
   ·split at hg <;> exact hg
 | none =>
  have hcr : ∀ i, i < all.length → cr i < l.length := fun i hi => by
   obtain ⟨s', h1, _⟩ := h.at_ i all[i] (List.getElem?_eq_getElem hi)
   exact (List.getElem?_eq_some_iff.1 h1).1
  refine ⟨fun i => if i < all.length then cr i else l.length, fun i a ha => ?_, fun i j hi hj e => ?_, fun i j a b ha hb h1 h2 h3 => ?_⟩
  ·by_cases hi : i < all.length
   ·rw [if_pos hi]
    rw [List.getElem?_append_left hi] at ha
    exact (h.snoc s).at_ i a ha
   ·rw [if_neg hi]
    have hl := (List.getElem?_eq_some_iff.1 ha).1
    simp only [List.length_append, List.length_singleton] at hl
    have : i = all.length := by omega
    subst this
    simp only [List.getElem?_concat_length, Option.some.injEq] at ha
    subst ha
    exact ⟨s, by simp, hs, rfl⟩
  ·simp only [List.length_append, List.length_singleton] at hi hj
   by_cases h1 : i < all.length <;> by_cases h2 : j < all.length
   ·rw [if_pos h1, if_pos h2] at e; exact h.inj i j h1 h2 e
   ·rw [if_pos h1, if_neg h2] at e; have := hcr i h1; omega
   ·rw [if_neg h1, if_pos h2] at e; have := hcr j h2; omega
   ·omega
  ·have get : ∀ (i : Nat) (a : Ent), (all ++ [⟨s.key, s.elem, false⟩])[i]? = some a → (i < all.length ∧ all[i]? = some a) ∨ (i = all.length ∧ a.key = s.key) := fun i a ha => by
    by_cases hi : i < all.length
    ·rw [List.getElem?_append_left hi] at ha; exact .inl ⟨hi, ha⟩
    ·have hl := (List.getElem?_eq_some_iff.1 ha).1
     simp only [List.length_append, List.length_singleton] at hl
     have e1 : i = all.length := by omega
     subst e1
     simp only [List.getElem?_concat_length, Option.some.injEq] at ha
     subst ha
     exact .inr ⟨rfl, rfl⟩
   rcases get i a ha with ⟨_, g1⟩ | ⟨g1, g2⟩ <;> rcases get j b hb with ⟨_, g3⟩ | ⟨g3, g4⟩
   ·exact h.uni i j a b g1 g3 h1 h2 h3
   ·rw [g4, findE_none hf i a g1 h1] at h3; cases h3
   ·have := K.symm _ _ h3
    rw [g2, findE_none hf j b g3 h2] at this; cases this
   ·omega
theorem From.all {K : KT} {M0 M : Mdl} {l : List Stp} {r : List Ans} (h : AccAll K M0 l r M) (h0 : M0.all = []) : ∃ cr, From K l M.all cr := by
 induction h with
 | nil => exact ⟨fun i => i, by rw [h0]; exact ⟨fun i a h => by simp at h, fun i j h => by simp at h, fun i j a b h => by simp at h⟩⟩
 | @snoc M1 M2 l r s a hl hs ih =>
  obtain ⟨cr, hcr⟩ := ih
  cases hs with
  | put hk => exact hcr.put hk
  | get _ => exact ⟨cr, hcr.snoc s⟩
  | del _ =>
   refine ⟨cr, ?_⟩
   show From K _ (delE K _ _) cr
   unfold delE
   split
   ·rename_i i hf
    refine (hcr.snoc s).same (by simp [goneAt]) fun j a ha => ?_
    rw [get_goneAt] at ha
    cases hj : M1.all[j]? with
    | none => rw [hj] at ha; cases ha
    | some b =>
     rw [hj] at ha
     simp only [Option.map_some, Option.some.injEq] at ha
     subst ha
     refine ⟨b, rfl, ?_, fun hg => ?_⟩
     ·split <;> rfl
     ·split at hg
      ·cases hg
      ·exact hg
   ·exact hcr.snoc s
  | clear _ =>
   refine ⟨cr, (hcr.snoc s).same (by simp [goneAll]) fun j a ha => ?_⟩
   rw [get_goneAll] at ha
   cases hj : M1.all[j]? with
   | none => rw [hj] at ha; cases ha
   | some b =>
    rw [hj] at ha
    simp only [Option.map_some, Option.some.injEq] at ha
    subst ha
    exact ⟨b, rfl, rfl, fun hg => by cases hg⟩
  | len _ => exact ⟨cr, hcr.snoc s⟩
  | start _ => exact ⟨cr, hcr.snoc s⟩
  | next _ _ => exact ⟨cr, hcr.snoc s⟩
/-- The first step that puts these bits. -/
theorem first_put (l : List Stp) (k : Nat) {q : Nat} {s : Stp} (h : l[q]? = some s) (h0 : s.kind = 0) (h1 : s.key = k) : ∃ p s', l[p]? = some s' ∧ s'.kind = 0 ∧ s'.key = k ∧ ∀ (j : Nat) (s'' : Stp), j < p → l[j]? = some s'' → ¬(s''.kind = 0 ∧ s''.key = k) := by
 obtain ⟨p, _, hp, hmin⟩ := least_of (p := fun j => match l[j]? with | some s => decide (s.kind = 0) && decide (s.key = k) | none => false) (n := q) (by simp [h, h0, h1])
 cases hs : l[p]? with
 | none => rw [hs] at hp; cases hp
 | some s' =>
  rw [hs] at hp
  simp only [Bool.and_eq_true, decide_eq_true_eq] at hp
  refine ⟨p, s', hs, hp.1, hp.2, fun j s'' hj hs'' hc => ?_⟩
  have := hmin j hj
  simp [hs'', hc.1, hc.2] at this
theorem From.cls {K : KT} {l : List Stp} {all : List Ent} {cr : Nat → Nat} (h : From K l all cr) (hS : SpreadP K l) : ModelCls K all := by
 intro c
 -- the step that stands for an entry
 have key : ∀ i, clsE K all c i = true → ∃ p s a, all[i]? = some a ∧ a.gone = false ∧ l[p]? = some s ∧ s.kind = 0 ∧ s.key = a.key ∧ K.hash a.key / 2 ^ 52 = c ∧ ((K.nan a.key = true ∧ p = cr i) ∨ (K.nan a.key = false ∧ ∀ (j : Nat) (s' : Stp), j < p → l[j]? = some s' → ¬(s'.kind = 0 ∧ s'.key = a.key))) := fun i hi => by
  obtain ⟨a, a1, a2, a3⟩ := clsE_iff.1 hi
  obtain ⟨s, s1, s2, s3⟩ := h.at_ i a a1
  cases hn : K.nan a.key with
  | true => exact ⟨cr i, s, a, a1, a2, s1, s2, s3, a3, .inl ⟨hn, rfl⟩⟩
  | false =>
   obtain ⟨p, s', p1, p2, p3, p4⟩ := first_put l a.key s1 s2 s3
   exact ⟨p, s', a, a1, a2, p1, p2, p3, a3, .inr ⟨hn, p4⟩⟩
 have hex : ∃ f : Nat → Nat, ∀ i, clsE K all c i = true → ∃ s a, all[i]? = some a ∧ a.gone = false ∧ l[f i]? = some s ∧ s.kind = 0 ∧ s.key = a.key ∧ K.hash a.key / 2 ^ 52 = c ∧ ((K.nan a.key = true ∧ f i = cr i) ∨ (K.nan a.key = false ∧ ∀ (j : Nat) (s' : Stp), j < f i → l[j]? = some s' → ¬(s'.kind = 0 ∧ s'.key = a.key))) :=
  ⟨fun i => if hi : clsE K all c i = true then Classical.choose (key i hi) else 0, fun i hi => by simp only [dif_pos hi]; exact Classical.choose_spec (key i hi)⟩
 obtain ⟨f, hf⟩ := hex
 refine Nat.le_trans (cnt_inj f (r := fun p => Counts K l p && cls12 K l c p) (m := l.length) (fun i _ hi => ?_) fun i j hi hj h1 h2 e => ?_) (hS c)
 ·obtain ⟨s, a, a1, a2, s1, s2, s3, s4, s5⟩ := hf i hi
  refine ⟨(List.getElem?_eq_some_iff.1 s1).1, ?_⟩
  have e1 : cls12 K l c (f i) = true := by unfold cls12; rw [s1]; simp only; rw [s3, s4]; simp
  rw [e1, Bool.and_true]
  unfold Counts; rw [s1]
  simp only [s2, decide_true, Bool.true_and, Bool.or_eq_true, List.all_eq_true, Bool.not_eq_true', Bool.and_eq_false_iff]
  rcases s5 with ⟨n1, _⟩ | ⟨_, n2⟩
  ·exact .inl (by rw [s3]; exact n1)
  ·right
   intro x hx
   obtain ⟨j, hj, hjx⟩ := List.mem_iff_getElem.1 hx
   have hj' : j < f i := by simp at hj; omega
   have hx' : l[j]? = some x := by rw [List.getElem?_eq_some_iff]; exact ⟨by simp at hj; omega, by rw [← hjx]; simp⟩
   have := n2 j x hj' hx'
   rw [s3]
   by_cases hk : x.kind = 0
   ·right
    cases hb : x.key == a.key with
    | false => rfl
    | true => exact absurd ⟨hk, beq_iff_eq.1 hb⟩ this
   ·left; simp [hk]
 ·obtain ⟨s, a, a1, a2, s1, s2, s3, _, s5⟩ := hf i h1
  obtain ⟨s', b, b1, b2, t1, t2, t3, _, t5⟩ := hf j h2
  rw [e, t1] at s1; cases s1
  have hk : a.key = b.key := s3.symm.trans t3
  cases hn : K.nan a.key with
  | true =>
   have e1 : f i = cr i := by
    rcases s5 with ⟨_, h⟩ | ⟨h, _⟩
    ·exact h
    ·rw [hn] at h; cases h
   have e2 : f j = cr j := by
    rcases t5 with ⟨_, h⟩ | ⟨h, _⟩
    ·exact h
    ·rw [← hk, hn] at h; cases h
   exact h.inj i j hi hj (by rw [← e1, ← e2, e])
  | false =>
   refine h.uni i j a b a1 b1 a2 b2 ?_
   rw [← hk]
   simpa [KT.nan] using hn
/-- The classes of a part of the steps. -/
theorem SpreadP.take {K : KT} {l : List Stp} (h : SpreadP K l) (q : Nat) : SpreadP K (l.take q) := by
 intro c
 refine Nat.le_trans (cnt_inj (fun p => p) (r := fun p => Counts K l p && cls12 K l c p) (m := l.length) (fun p hp hq => ?_) fun _ _ _ _ _ _ e => e) (h c)
 have hl : p < q ∧ p < l.length := by simp at hp; omega
 have e1 : (l.take q)[p]? = l[p]? := by rw [List.getElem?_take_of_lt hl.1]
 have e2 : (l.take q).take p = l.take p := by rw [List.take_take, Nat.min_eq_left (by omega)]
 refine ⟨hl.2, ?_⟩
 unfold Counts cls12 at hq ⊢
 rw [e1, e2] at hq; exact hq
/-- .. are those of the map. -/
theorem Sim.cls {K : KT} {V : Mv} {id : Nat → Nat → Nat} {all : List Ent} (h : Sim K V id all) (hC : ModelCls K all) : V.Cls K := by
 cases V with
 | nil => trivial
 | small _ _ => trivial
 | big db D =>
  intro i c hi
  have live : ∀ s, s < 8 * (D.tab i).n → isFull (D.tab i).G s = true → (Mv.big db D).live (D.tab i).gb s ((D.tab i).G.k s) ((D.tab i).G.e s) := fun s hs hf => row_live (V := .big db D) (n := (D.tab i).n) ⟨i, hi, rfl, rfl, rfl⟩ hs (by simpa [isFull] using hf)
  refine Nat.le_trans (cnt_inj (fun s => id (D.tab i).gb s) (r := clsE K all c) (m := all.length) (fun s hs hq => ?_) fun s u hs hu hq hq' e => ?_) (hC c)
  ·obtain ⟨h1, h2⟩ := Bool.and_eq_true_iff.1 hq
   obtain ⟨a, a1, a2, _, a4⟩ := h.live _ _ _ _ (live s hs h1)
   refine ⟨(List.getElem?_eq_some_iff.1 a1).1, clsE_iff.2 ⟨a, a1, a2, ?_⟩⟩
   rw [← Nat.eq_of_beq_eq_true h2]
   rcases a4 with a4 | a4
   ·rw [K.hash_eq _ _ a4]
   ·rw [a4]
  ·exact (h.inj _ _ _ _ _ _ _ _ (live s hs (Bool.and_eq_true_iff.1 hq).1) (live u hu (Bool.and_eq_true_iff.1 hq').1) e).2
section
/-- A row of the call's own: n elements of so many cells each. -/
def Sl (H : Heap) (e size : Nat) (v : Value) (n : Nat) (cs : List Value) : Prop :=
 cs.length = n * size ∧ ((v = .slice none 0 0 ∧ n = 0) ∨ ∃ g cap cur, v = .slice (some ⟨g, 0, none⟩) n cap ∧ H g = some (.cells cur e (0, 0)) ∧ n ≤ cap ∧ cap ≤ maxLen ∧ cur.size = cap * size ∧ cur.toList.take (n * size) = cs)
/-- A row that can be read. -/
def Rd (w0 : World) (H : Heap) (size : Nat) (v : Value) (n : Nat) (cs : List Value) : Prop :=
 cs.length = n * size ∧ ((n = 0 ∧ ∃ ao cap, v = .slice ao 0 cap) ∨ ∃ b o cap, v = .slice (some ⟨b, o, none⟩) n cap ∧ ∀ H' w, H.le H' → Mem w0 w H' → ∀ j u, cs[j]? = some u → w.cell? ⟨b, o + j, none⟩ = some u)
theorem Sl.nil (H : Heap) (e size : Nat) : Sl H e size (.slice none 0 0) 0 [] := ⟨by simp, .inl ⟨rfl, rfl⟩⟩
theorem Rd.mono {w0 : World} {H S : Heap} {size n : Nat} {v : Value} {cs : List Value} (h : Rd w0 H size v n cs) (hle : H.le S) : Rd w0 S size v n cs :=
 ⟨h.1, h.2.imp (fun h => h) fun ⟨b, o, cap, h1, h2⟩ => ⟨b, o, cap, h1, fun H' w hl => h2 H' w (Heap.le_trans hle hl)⟩⟩
theorem Sl.rd {w0 : World} {H : Heap} {e size n : Nat} {v : Value} {cs : List Value} (h : Sl H e size v n cs) : Rd w0 H size v n cs := by
 refine ⟨h.1, ?_⟩
 rcases h.2 with ⟨rfl, rfl⟩ | ⟨g, cap, cur, rfl, h1, _, _, h4, h5⟩
 ·exact .inl ⟨rfl, _, _, rfl⟩
 ·refine .inr ⟨g, 0, cap, rfl, fun H' w hle hM j u hj => ?_⟩
  refine hM.cell (hle _ _ h1) ?_
  show cur[0 + j]? = some u
  rw [← h5, List.getElem?_take] at hj
  split at hj
  ·rw [Nat.zero_add]; simpa using hj
  ·cases hj
/-- What was there at the beginning. -/
theorem Rd.old {w0 : World} {b o cap size n : Nat} {cs : List Value} (hl : cs.length = n * size) (h : ∀ j u, cs[j]? = some u → w0.cell? ⟨b, o + j, none⟩ = some u) (H : Heap) : Rd w0 H size (.slice (some ⟨b, o, none⟩) n cap) n cs :=
 ⟨hl, .inr ⟨b, o, cap, rfl, fun _ _ _ hM j u hj => hM.old (h j u hj)⟩⟩
theorem Rd.some {w0 : World} {H : Heap} {size n : Nat} {v : Value} {cs : List Value} (h : Rd w0 H size v n cs) (hn : 0 < n) : ∃ b o cap, v = .slice (some ⟨b, o, none⟩) n cap ∧ ∀ H' w, H.le H' → Mem w0 w H' → ∀ j u, cs[j]? = some u → w.cell? ⟨b, o + j, none⟩ = some u := by
 rcases h.2 with ⟨e, _⟩ | h
 ·omega
 ·exact h
theorem Rd.shape {w0 : World} {H : Heap} {size n : Nat} {v : Value} {cs : List Value} (h : Rd w0 H size v n cs) : ∃ ao cap, v = .slice ao n cap := by
 rcases h.2 with ⟨e, ao, cap, rfl⟩ | ⟨b, o, cap, rfl, _⟩
 ·subst e; exact ⟨ao, cap, rfl⟩
 ·exact ⟨_, cap, rfl⟩
theorem Sl.shape {H : Heap} {e size n : Nat} {v : Value} {cs : List Value} (h : Sl H e size v n cs) : ∃ ao cap, v = .slice ao n cap := by
 rcases h.2 with ⟨rfl, rfl⟩ | ⟨g, cap, cur, rfl, _⟩
 ·exact ⟨_, _, rfl⟩
 ·exact ⟨_, cap, rfl⟩
theorem Sl.move {H S : Heap} {e size n : Nat} {v : Value} {cs : List Value} (h : Sl H e size v n cs) (hk : ∀ x u, H x = Option.some u → v.ownBlock = Option.some x → S x = Option.some u) : Sl S e size v n cs := by
 refine ⟨h.1, h.2.imp (fun h => h) fun ⟨g, cap, cur, h1, h2, h3⟩ => ⟨g, cap, cur, h1, hk g _ h2 (by rw [h1]; rfl), h3⟩⟩
theorem Sl.mono {H S : Heap} {e size n : Nat} {v : Value} {cs : List Value} (h : Sl H e size v n cs) (hle : H.le S) : Sl S e size v n cs := h.move fun x u hx _ => hle x u hx
/-- The row's block. -/
theorem Sl.blk {H : Heap} {e size n : Nat} {v : Value} {cs : List Value} (h : Sl H e size v n cs) {x : Nat} (hx : v.ownBlock = Option.some x) : ∃ cur, H x = Option.some (.cells cur e (0, 0)) := by
 rcases h.2 with ⟨rfl, rfl⟩ | ⟨g, cap, cur, rfl, h1, _⟩
 ·cases hx
 ·cases hx; exact ⟨cur, h1⟩
/-- What append asks of the types. -/
def AppRun (P : Program) (t e size bytes : Nat) : Prop := ∃ i z, P.underlying t = some (.slice e) ∧ P.info? e = some i ∧ i.zero = some z ∧ i.size = size ∧ i.bytes = bytes ∧ z.cells.size = size ∧ 0 < size
theorem run_append_heap {P : Program} {t e size bytes : Nat} (A : AppRun P t e size bytes) {w0 w : World} {H : Heap} (hM : Mem w0 w H) {v u : Value} {n m : Nat} {cs news : List Value} (hv : Sl H e size v n cs) (hu : Rd w0 H size u m news) (h1 : ∀ x ∈ news, x.oneCell' = true) (hb : (n + m) * (bytes + 1) ≤ 140737488355328) (ty : TypeId) :
  ∃ v' w' S, (Builtin.append_ #[t, t] ty #[v, u]).run P w = .ok v' w' ∧ Mem w0 w' S ∧ Sl S e size v' (n + m) (cs ++ news) ∧ (∀ x o, H x = some o → v.ownBlock ≠ some x → S x = some o) ∧ (v'.ownBlock = v.ownBlock ∨ ∃ b, v'.ownBlock = some b ∧ H b = none) := by
 obtain ⟨i, z, a1, a2, a3, a4, a5, a6, a7⟩ := A
 have hn1 : (n + m) * bytes ≤ 140737488355328 := Nat.le_trans (Nat.mul_le_mul_left _ (Nat.le_succ _)) hb
 have hn2 : n + m ≤ maxLen := by
  have : (n + m) * 1 ≤ (n + m) * (bytes + 1) := Nat.mul_le_mul_left _ (by omega)
  simp only [maxLen]; omega
 have own : w.ownsRow w0.heap.size e size v n cs := by
  refine ⟨hv.1, hv.2.imp (fun h => h) fun ⟨g, cap, cur, h1, h2, h3⟩ => ⟨g, cap, cur, h1, (hM.own _ _ h2).1, (hM.own _ _ h2).2, h3⟩⟩
 have hbase : w0.heap.size ≤ w.heap.size := hM.below.size
 rcases hu.2 with ⟨rfl, ao, cap, rfl⟩ | ⟨b, o, cap, rfl, hrd⟩
 ·-- nothing more
  have hnews : news = [] := List.eq_nil_of_length_eq_zero (by simpa using hu.1)
  subst hnews
  have run : (Builtin.append_ #[t, t] ty #[v, .slice ao 0 cap]).run P w = .ok v w := by
   rcases hv.2 with ⟨rfl, rfl⟩ | ⟨g, cap', cur, rfl, h2, h3, _⟩
   ·cases ao <;> simp [Builtin.append_, run_underlying a1, sizeOf, typeInfo, a2, Builtin.lenOf, Builtin.firstCells, loadCells, loadCellsFrom]
   ·cases ao <;> simp [Builtin.append_, run_underlying a1, sizeOf, typeInfo, a2, Builtin.lenOf, Builtin.firstCells, loadCells, loadCellsFrom, h3, storeCells]
  refine ⟨v, w, H, run, hM, ?_, fun _ _ h _ => h, .inl rfl⟩
  rw [List.append_nil]; exact hv
 ·obtain ⟨v', w', r1, r2, r3, _, r5⟩ := run_append_own_at (P := P) w w0.heap.size t ty e i z size bytes a1 a2 a3 a4 a5 a6 a7 v n cs own ⟨b, o, none⟩ m cap news hu.1 (fun j x hj => by rw [addr_add]; exact hrd H w (Heap.le_refl _) hM j x hj) h1 hn2 hn1 hbase
  refine ⟨v', w', fun x => if v'.ownBlock = some x then w'.heap[x]? else if v.ownBlock = some x then none else H x, r1, ⟨hM.below.grown r3 hbase fun k hk => (own.lt k hk).1, fun x ob hx => ?_⟩, ?_, fun x ob hx hne => ?_, ?_⟩
  ·split at hx
   ·rename_i e1; exact ⟨(r2.lt x e1).1, hx⟩
   ·split at hx
    ·cases hx
    ·rename_i e1 e2
     refine ⟨(hM.own _ _ hx).1, ?_⟩
     rw [r3.block x (hM.lt hx) (fun e3 => e2 e3.symm)]; exact (hM.own _ _ hx).2
  ·refine ⟨r2.1, r2.2.imp (fun h => h) fun ⟨g, cap, cur, h1, _, h2, h3⟩ => ⟨g, cap, cur, h1, ?_, h3⟩⟩
   simp only; rw [if_pos (by rw [h1]; rfl)]; exact h2
  ·simp only
   split
   ·rename_i e1
    rcases r5 with r5 | r5
    ·exact absurd (r5 ▸ e1) hne
    ·rw [r5] at e1; cases e1
     rw [hM.fresh] at hx; cases hx
   ·exact hx
  ·rcases r5 with r5 | r5
   ·exact .inl r5
   ·exact .inr ⟨_, r5, hM.fresh⟩
section
variable {P : Program} {ops : Array Oper} {sp br : List Nat} {d : Bool} {w0 : World} {K : Slots → World → Prop} {i : Nat} {rest : List Nat} {Hq H : Heap} {f : Slots}
variable {dst : Tmp} {ty : TypeId} {pos : String} {aft : Array Edge} {g : Option (Nat × Bool)}
theorem rw_appendU {t e size bytes : Nat} (A : AppRun P t e size bytes) {x y : Operand} {v u : Value} {n m : Nat} {cs news : List Value} (ho : ops[i]? = some ⟨some dst, .call ⟨.builtin .append, #[x, y], #[t, t]⟩, ty, pos, aft, g⟩) (hw : wantedS ops f ⟨some dst, .call ⟨.builtin .append, #[x, y], #[t, t]⟩, ty, pos, aft, g⟩ = true) (hx : ev f x = v) (hy : ev f y = u)
  (hv : Sl H e size v n cs) (hu : Rd w0 H size u m news) (h1 : ∀ x ∈ news, x.oneCell' = true) (hb : (n + m) * (bytes + 1) ≤ 140737488355328) (hd : d = true → sp.contains i = true)
  (h : ∀ (v' : Value) (S : Heap), Sl S e size v' (n + m) (cs ++ news) → (∀ x o, H x = some o → v.ownBlock ≠ some x → S x = some o) → (v'.ownBlock = v.ownBlock ∨ ∃ b, v'.ownBlock = some b ∧ H b = none) → ∃ Hq', (d = true → br.contains i = false → Hq' = Hq) ∧ Hq'.le S ∧ RW P ops sp br d w0 K rest Hq' S (f.set dst v')) : RW P ops sp br d w0 K (i :: rest) Hq H f :=
 rw_s ho hw hd fun w hM => by
  obtain ⟨v', w', S, r1, r2, r3, r4, r5⟩ := run_append_heap A hM hv hu h1 hb ty
  obtain ⟨Hq', b1, b2, b3⟩ := h v' S r3 r4 r5
  have hr : (execOp (ev f) ⟨some dst, .call ⟨.builtin .append, #[x, y], #[t, t]⟩, ty, pos, aft, g⟩).run P w = .ok (.value v') w' := by
   simp only [execOp, resolve, invoke, builtin, List.map_toArray, List.map_cons, List.map_nil, hx, hy, bind, pure, Sem.bind, Sem.run_bind', r1]
   rfl
  rw [hr]
  exact ⟨Hq', S, b1, b2, r2, b3⟩
theorem rw_appendN {t e size bytes : Nat} (A : AppRun P t e size bytes) {x y : Operand} {v u : Value} {n m : Nat} {cs news : List Value} (ho : ops[i]? = some ⟨some dst, .call ⟨.builtin .append, #[x, y], #[t, t]⟩, ty, pos, aft, g⟩) (hw : wantedS ops f ⟨some dst, .call ⟨.builtin .append, #[x, y], #[t, t]⟩, ty, pos, aft, g⟩ = true) (hx : ev f x = v) (hy : ev f y = u)
  (hv : Sl H e size v n cs) (hu : Rd w0 H size u m news) (h1 : ∀ x ∈ news, x.oneCell' = true) (hb : (n + m) * (bytes + 1) ≤ 140737488355328)
  (h : ∀ (v' : Value) (S : Heap), Sl S e size v' (n + m) (cs ++ news) → (∀ x o, H x = some o → v.ownBlock ≠ some x → S x = some o) → (v'.ownBlock = v.ownBlock ∨ ∃ b, v'.ownBlock = some b ∧ H b = none) → RW P ops sp br false w0 K rest S S (f.set dst v')) : RW P ops sp br false w0 K (i :: rest) Hq H f :=
 rw_appendU A ho hw hx hy hv hu h1 hb (by nofun) fun v' S a b c => ⟨S, fun e => (by cases e), Heap.le_refl _, h v' S a b c⟩
theorem rw_appendD {t e size bytes : Nat} (A : AppRun P t e size bytes) {x y : Operand} {v u : Value} {n m : Nat} {cs news : List Value} (ho : ops[i]? = some ⟨some dst, .call ⟨.builtin .append, #[x, y], #[t, t]⟩, ty, pos, aft, g⟩) (hw : wantedS ops f ⟨some dst, .call ⟨.builtin .append, #[x, y], #[t, t]⟩, ty, pos, aft, g⟩ = true) (hx : ev f x = v) (hy : ev f y = u)
  (hv : Sl H e size v n cs) (hu : Rd w0 H size u m news) (h1 : ∀ x ∈ news, x.oneCell' = true) (hb : (n + m) * (bytes + 1) ≤ 140737488355328) (hd : sp.contains i = true)
  (h : ∀ (v' : Value) (S : Heap), Sl S e size v' (n + m) (cs ++ news) → (∀ x o, H x = some o → v.ownBlock ≠ some x → S x = some o) → (v'.ownBlock = v.ownBlock ∨ ∃ b, v'.ownBlock = some b ∧ H b = none) → Hq.le S ∧ RW P ops sp br true w0 K rest Hq S (f.set dst v')) : RW P ops sp br true w0 K (i :: rest) Hq H f :=
 rw_appendU A ho hw hx hy hv hu h1 hb (fun _ => hd) fun v' S a b c => ⟨Hq, fun _ _ => rfl, h v' S a b c⟩
/-- A row of given parts. -/
def BSlRun (P : Program) (t e len : Nat) (parts : Array (Nat × Value)) (cells : List Value) : Prop := ∀ w : World, (Instr.buildSlice t len parts).run P w = .ok (.slice (some ⟨w.heap.size, 0, none⟩) len len) (w.alloc (.cells cells.toArray e (0, 0)))
theorem rw_buildSlU {t e len : Nat} {parts : Array (Nat × Operand)} {pl : List (Nat × Value)} {cells : List Value} (hr : BSlRun P t e len pl.toArray cells) (ho : ops[i]? = some ⟨some dst, .buildSlice t len parts, ty, pos, aft, g⟩) (hw : wantedS ops f ⟨some dst, .buildSlice t len parts, ty, pos, aft, g⟩ = true)
  (hx : parts.toList.map (fun p => (p.1, ev f p.2)) = pl) (hd : d = true → sp.contains i = true)
  (h : ∀ (b : Nat) (G : Heap), H b = none → H.le G → G b = some (.cells cells.toArray e (0, 0)) → (∀ k, k ≠ b → G k = H k) → ∃ Hq', (d = true → br.contains i = false → Hq' = Hq) ∧ Hq'.le G ∧ RW P ops sp br d w0 K rest Hq' G (f.set dst (.slice (some ⟨b, 0, none⟩) len len))) : RW P ops sp br d w0 K (i :: rest) Hq H f :=
 rw_s ho hw hd fun w hM => by
  have e1 : parts.map (fun p => (p.1, ev f p.2)) = pl.toArray := by apply Array.toList_inj.1; rw [Array.toList_map, hx]
  have hr' : (execOp (ev f) ⟨some dst, .buildSlice t len parts, ty, pos, aft, g⟩).run P w = .ok (.value (.slice (some ⟨w.heap.size, 0, none⟩) len len)) (w.alloc (.cells cells.toArray e (0, 0))) := by
   simp only [execOp]
   show Sem.run P (Sem.bind _ _) w = _
   rw [Sem.run_bind']
   have : (parts.map fun x => match x with | (i, x) => (i, ev f x)) = pl.toArray := e1
   rw [this, hr w]; rfl
  rw [hr']
  obtain ⟨Hq', a, b, c⟩ := h w.heap.size (H.upd w.heap.size (.cells cells.toArray e (0, 0))) hM.fresh (Heap.le_upd _ hM.fresh) (Heap.upd_same _ _ _) (fun _ hk => Heap.upd_ne _ _ hk)
  exact ⟨Hq', _, a, b, hM.alloc _, c⟩
theorem rw_buildSlN {t e len : Nat} {parts : Array (Nat × Operand)} {pl : List (Nat × Value)} {cells : List Value} (hr : BSlRun P t e len pl.toArray cells) (ho : ops[i]? = some ⟨some dst, .buildSlice t len parts, ty, pos, aft, g⟩) (hw : wantedS ops f ⟨some dst, .buildSlice t len parts, ty, pos, aft, g⟩ = true)
  (hx : parts.toList.map (fun p => (p.1, ev f p.2)) = pl)
  (h : ∀ (b : Nat) (G : Heap), H b = none → H.le G → G b = some (.cells cells.toArray e (0, 0)) → (∀ k, k ≠ b → G k = H k) → RW P ops sp br false w0 K rest G G (f.set dst (.slice (some ⟨b, 0, none⟩) len len))) : RW P ops sp br false w0 K (i :: rest) Hq H f :=
 rw_buildSlU hr ho hw hx (by nofun) fun b G a1 a2 a3 a4 => ⟨G, fun e => (by cases e), Heap.le_refl _, h b G a1 a2 a3 a4⟩
theorem rw_buildSlD {t e len : Nat} {parts : Array (Nat × Operand)} {pl : List (Nat × Value)} {cells : List Value} (hr : BSlRun P t e len pl.toArray cells) (ho : ops[i]? = some ⟨some dst, .buildSlice t len parts, ty, pos, aft, g⟩) (hw : wantedS ops f ⟨some dst, .buildSlice t len parts, ty, pos, aft, g⟩ = true)
  (hx : parts.toList.map (fun p => (p.1, ev f p.2)) = pl) (hd : sp.contains i = true) (hq : Hq.le H)
  (h : ∀ (b : Nat) (G : Heap), H b = none → H.le G → G b = some (.cells cells.toArray e (0, 0)) → (∀ k, k ≠ b → G k = H k) → RW P ops sp br true w0 K rest Hq G (f.set dst (.slice (some ⟨b, 0, none⟩) len len))) : RW P ops sp br true w0 K (i :: rest) Hq H f :=
 rw_buildSlU hr ho hw hx (fun _ => hd) fun b G a1 a2 a3 a4 => ⟨Hq, fun _ _ => rfl, Heap.le_trans hq a2, h b G a1 a2 a3 a4⟩
/-- What is known to be there is loaded. -/
theorem rw_loadG {t : TypeId} {x : Operand} {a : Addr} {v : Value} (ht : OneRun P t) (ho : ops[i]? = some ⟨some dst, .load t x, ty, pos, aft, g⟩) (hw : wantedS ops f ⟨some dst, .load t x, ty, pos, aft, g⟩ = true) (hx : ev f x = .pointer (some a))
  (hv : ∀ H' w, Hq.le H' → Mem w0 w H' → w.cell? a = some v) (h : RW P ops sp br d w0 K rest Hq H (f.set dst v)) : RW P ops sp br d w0 K (i :: rest) Hq H f :=
 rw_q ho hw (v := v) (fun H' w hle hM => by simp only [execOp, hx, bind, pure, Sem.run_bind', run_loadAt ht (hv H' w hle hM)]; rfl) h
theorem rw_loadAG {t : TypeId} {x : Operand} {b off : Nat} (cs : List Value) (ht : AggRun P t cs.length) (ho : ops[i]? = some ⟨some dst, .load t x, ty, pos, aft, g⟩) (hw : wantedS ops f ⟨some dst, .load t x, ty, pos, aft, g⟩ = true) (hx : ev f x = .pointer (some ⟨b, off, none⟩))
  (hv : ∀ H' w, Hq.le H' → Mem w0 w H' → ∀ j v, cs[j]? = some v → w.cell? ⟨b, off + j, none⟩ = some v) (h : RW P ops sp br d w0 K rest Hq H (f.set dst (.agg cs.toArray))) : RW P ops sp br d w0 K (i :: rest) Hq H f :=
 rw_q ho hw (v := .agg cs.toArray) (fun H' w hle hM => by
  have := run_loadAtAgg (P := P) (t := t) (w := w) (a := ⟨b, off, none⟩) ht (fun j v hj => by rw [addr_add]; exact hv H' w hle hM j v hj)
  simp only [execOp, hx, bind, pure, Sem.run_bind', this]; rfl) h
end
end
theorem ap30 : AppRun Tryz.prog 30 36 4 32 := ⟨_, _, Tryz.underlying30, rfl, rfl, rfl, rfl, rfl, by decide⟩
theorem ap41 : AppRun Tryz.prog 41 44 3 24 := ⟨_, _, Tryz.underlying41, rfl, rfl, rfl, rfl, rfl, by decide⟩
theorem ap112 : AppRun Tryz.prog 112 121 3 24 := ⟨_, _, Tryz.underlying112, rfl, rfl, rfl, rfl, rfl, by decide⟩
theorem ap47 : AppRun Tryz.prog 47 3 1 8 := ⟨_, _, Tryz.underlying47, rfl, rfl, rfl, rfl, rfl, by decide⟩
theorem bs41 (a : Bool) (b c : Int) : BSlRun Tryz.prog 41 44 1 [(0, .agg #[.bool a, .int .u64 b, .int .i64 c])].toArray [.bool a, .int .u64 b, .int .i64 c] := fun _ => by kernel_rfl
theorem bs112 (a b : Int) (c : Bool) : BSlRun Tryz.prog 112 121 1 [(0, .agg #[.int .u64 a, .int .i64 b, .bool c])].toArray [.int .u64 a, .int .i64 b, .bool c] := fun _ => by kernel_rfl
theorem bs47 (a : Int) : BSlRun Tryz.prog 47 3 1 [(0, .int .i64 a)].toArray [.int .i64 a] := fun _ => by kernel_rfl
abbrev st4 (a b c d : Int) : List Value := [.int .i64 a, .int .i64 b, .int .u64 c, .int .i64 d]
theorem bs30_1 (a b c d : Int) : BSlRun Tryz.prog 30 36 1 [(0, .agg (st4 a b c d).toArray)].toArray (st4 a b c d) := fun _ => by kernel_rfl
theorem bs30_2 (a b c d a1 b1 c1 d1 : Int) : BSlRun Tryz.prog 30 36 2 [(0, .agg (st4 a b c d).toArray), (1, .agg (st4 a1 b1 c1 d1).toArray)].toArray (st4 a b c d ++ st4 a1 b1 c1 d1) := fun _ => by kernel_rfl
theorem bs30_3 (a b c d a1 b1 c1 d1 a2 b2 c2 d2 : Int) : BSlRun Tryz.prog 30 36 3 [(0, .agg (st4 a b c d).toArray), (1, .agg (st4 a1 b1 c1 d1).toArray), (2, .agg (st4 a2 b2 c2 d2).toArray)].toArray (st4 a b c d ++ st4 a1 b1 c1 d1 ++ st4 a2 b2 c2 d2) := fun _ => by kernel_rfl
theorem bs30_4 (a b c d a1 b1 c1 d1 a2 b2 c2 d2 a3 b3 c3 d3 : Int) : BSlRun Tryz.prog 30 36 4 [(0, .agg (st4 a b c d).toArray), (1, .agg (st4 a1 b1 c1 d1).toArray), (2, .agg (st4 a2 b2 c2 d2).toArray), (3, .agg (st4 a3 b3 c3 d3).toArray)].toArray (st4 a b c d ++ st4 a1 b1 c1 d1 ++ st4 a2 b2 c2 d2 ++ st4 a3 b3 c3 d3) := fun _ => by kernel_rfl
theorem bs30_5 (a b c d a1 b1 c1 d1 a2 b2 c2 d2 a3 b3 c3 d3 a4 b4 c4 d4 : Int) : BSlRun Tryz.prog 30 36 5 [(0, .agg (st4 a b c d).toArray), (1, .agg (st4 a1 b1 c1 d1).toArray), (2, .agg (st4 a2 b2 c2 d2).toArray), (3, .agg (st4 a3 b3 c3 d3).toArray), (4, .agg (st4 a4 b4 c4 d4).toArray)].toArray (st4 a b c d ++ st4 a1 b1 c1 d1 ++ st4 a2 b2 c2 d2 ++ st4 a3 b3 c3 d3 ++ st4 a4 b4 c4 d4) := fun _ => by kernel_rfl
theorem bs30_6 (a b c d a1 b1 c1 d1 a2 b2 c2 d2 a3 b3 c3 d3 a4 b4 c4 d4 a5 b5 c5 d5 : Int) : BSlRun Tryz.prog 30 36 6 [(0, .agg (st4 a b c d).toArray), (1, .agg (st4 a1 b1 c1 d1).toArray), (2, .agg (st4 a2 b2 c2 d2).toArray), (3, .agg (st4 a3 b3 c3 d3).toArray), (4, .agg (st4 a4 b4 c4 d4).toArray), (5, .agg (st4 a5 b5 c5 d5).toArray)].toArray (st4 a b c d ++ st4 a1 b1 c1 d1 ++ st4 a2 b2 c2 d2 ++ st4 a3 b3 c3 d3 ++ st4 a4 b4 c4 d4 ++ st4 a5 b5 c5 d5) := fun _ => by kernel_rfl
section
variable {w0 w : World} {H : Heap}
theorem flat_len {α β : Type} {f : α → List β} {n : Nat} (hf : ∀ a, (f a).length = n) : ∀ l : List α, (l.flatMap f).length = l.length * n
 | [] => by simp
 | a :: l => by simp only [List.flatMap_cons, List.length_append, List.length_cons, hf, flat_len hf l, Nat.add_mul, Nat.one_mul]; omega
theorem flat_get {α β : Type} {f : α → List β} {n : Nat} (hf : ∀ a, (f a).length = n) : ∀ {l : List α} {i j : Nat} {a : α}, l[i]? = some a → j < n → (l.flatMap f)[i * n + j]? = (f a)[j]?
 | [], i, j, a, h, _ => by simp at h
 | b :: l, 0, j, a, h, hj => by
  simp only [List.getElem?_cons_zero, Option.some.injEq] at h
  subst h
  rw [List.flatMap_cons, Nat.zero_mul, Nat.zero_add, List.getElem?_append_left (by rw [hf]; exact hj)]
 | b :: l, i + 1, j, a, h, hj => by
  simp only [List.getElem?_cons_succ] at h
  rw [List.flatMap_cons, List.getElem?_append_right (by rw [hf, Nat.add_mul]; omega), hf]
  have : (i + 1) * n + j - n = i * n + j := by rw [Nat.add_mul]; omega
  rw [this]; exact flat_get hf h hj
theorem stepC_len (s : Stp) : (stepC s).length = 4 := rfl
theorem ansC_len (a : Ans) : (ansC a).length = 3 := rfl
/-- Steps, as a row holds them. -/
def encS (l : List Stp) : List Value := l.flatMap stepC
def encA (l : List Ans) : List Value := l.flatMap ansC
/-- A step is one of which is spoken. -/
structure StpOK (s : Stp) : Prop where
 k0 : 0 ≤ s.kind
 k6 : s.kind ≤ 6
 i0 : 0 ≤ s.iter
 i7 : s.iter ≤ 7
 key : s.key < 2 ^ 64
 elem : InI64 s.elem
def offIt : Nat → Itr := fun _ => ⟨false, [], fun _ => false⟩
/-- A step of a row is read. -/
theorem rd_step {size : Nat} {α : Type} {f : α → List Value} (hf : ∀ a, (f a).length = size) {l : List α} {i b o : Nat} {a : α} {H : Heap} (hr : ∀ H' w, H.le H' → Mem w0 w H' → ∀ j u, (l.flatMap f)[j]? = some u → w.cell? ⟨b, o + j, none⟩ = some u) (hi : l[i]? = some a) {Hq : Heap} (hq : H.le Hq) : ∀ H' w, Hq.le H' → Mem w0 w H' → ∀ j v, (f a)[j]? = some v → w.cell? ⟨b, o + i * size + j, none⟩ = some v := fun H' w hle hM j v hj => by
 have hjl : j < size := by rw [← hf a]; exact (List.getElem?_eq_some_iff.1 hj).1
 have := hr H' w (Heap.le_trans hq hle) hM (i * size + j) v (by rw [flat_get hf hi hjl]; exact hj)
 rw [← Nat.add_assoc] at this; exact this
theorem take_get {α : Type} {l : List α} {q : Nat} {s : α} (h : l[q]? = some s) : l.take (q + 1) = l.take q ++ [s] := by
 obtain ⟨h1, h2⟩ := List.getElem?_eq_some_iff.1 h
 rw [List.take_succ_eq_append_getElem h1, h2]
theorem AccAll.len {K : KT} {M0 M : Mdl} {l : List Stp} {r : List Ans} (h : AccAll K M0 l r M) : r.length = l.length := by
 induction h with
 | nil => rfl
 | snoc _ _ ih => simp [ih]
theorem oneC_ans (a : Ans) : ∀ x ∈ ansC a, x.oneCell' = true := fun x hx => by
 simp only [ansC, List.mem_cons, List.not_mem_nil, or_false] at hx
 rcases hx with rfl | rfl | rfl <;> rfl
theorem c26 (hM : Mem w0 w H) (hDb : HasDb w0) {t : TabV} (ht : t.OK) (hO : OffOK w0 t) (hh : t.hint ≤ 5000) {l : List Stp} (hv : ∀ s ∈ l, StpOK s) (hlen : l.length ≤ 6000) (hS : SpreadP (ktOf t) l) {v : Value} (hl : Rd w0 H 4 v l.length (encS l)) (hPl : ∀ x u, H x = some u → Plain u ∧ objTy u ≠ 108) :
  Calls Tryz.prog 26 [.agg t.cells.toArray, v].toArray w (Gives w0 fun v' S => ∃ a M, AccAll (ktOf t) ⟨[], offIt⟩ l a M ∧ Sl S 44 3 v' l.length (encA a) ∧ H.le S) := by
 obtain ⟨ao, cap, rfl⟩ := hl.shape
 refine calls_start Tryz.func26 rfl Tryz.ntmps26 (Nat.le_of_ble_eq_true rfl) ?_
 refine rs hM ?_
 refine rw_boxN (v := .agg t.cells.toArray) rfl rfl rfl (fun b2 G2 n2 l2 e2 k2 => ?_)
 refine asg ?_
 refine rw_nil ?_; intro w hM
 have e2' : G2 b2 = some (encTab t) := e2
 refine wp_mix_seq [1, 5] [5] [0, 2, 3, 1, 4, 5, 6] G2 mixed (by kernel_rfl) (Heap.le_refl _) hM ?_
 refine rw_loadA t.cells ld27 rfl rfl rfl e2' rfl ?_
 refine fa fr27_0 ?_
 refine lo (v := .bool t.floats) ld4 e2' ?_
 refine rw_callD cr31 rfl rfl (fun w hM => c31 hM hDb ht hO hh) rfl (fun _ => rfl) ?_; rintro _ S1 ⟨bT, bm, cb, rfl, nT, nm, nc, hMade, hle1⟩; refine ⟨hle1, ?_⟩
 refine rw_build (bd59_0_1 _ _) rfl rfl rfl ?_
 refine rw_boxD (v := .agg (plC bT t.floats (fun _ => none))) rfl rfl rfl rfl hle1 (fun bp G5 n5 l5 e5 k5 => ?_)
 refine asg ?_
 refine rw_nil ?_; intro w hM
 obtain ⟨K, nu, E, bty, Ty, R, rfl, hnu, hES, hEP, hEc, hbT, m, V, n', hMap, hwr, htm, hus, hcl, hno, hpot, hcb, hn'⟩ := hMade
 have hPS0 : PS (ktOf t) E bty cb bm bT G5 bp t.floats (fun _ => none) m V n' (fun _ _ => 0) ⟨[], offIt⟩ 0 :=
  ⟨e5, le_none hES n5, (⟨hES, hbT, hMap, hwr, ⟨fun g s k e h => (hno g s k e h).elim, fun g s k e _ _ _ _ h _ _ => (hno g s k e h).elim, fun j h => by cases h⟩, hus.trans rfl, .inr htm, by omega, hpot, hcb, by omega, Nat.le_refl _⟩ : Live (ktOf t) E bty cb bm bT S1 m V n' (fun _ _ => 0) [] 0).mono l5, fun q _ => .inl ⟨rfl, rfl⟩, fun q p b _ _ h => by cases h⟩
 have hHG : H.le G5 := Heap.le_trans l2 (Heap.le_trans hle1 l5)
 have hHc : H cb = none := le_none l2 nc
 have hHp : H bp = none := le_none (Heap.le_trans l2 hle1) n5
 refine rs hM ?_
 refine asg ?_
 refine rw_nil ?_; intro w hM
 refine wp_seq ?_
 refine rs hM ?_
 refine mv ?_
 refine rw_len Tryz.underlying30 rfl rfl rfl ?_
 refine mv ?_
 refine rw_nil ?_; intro w hM
 refine wp_block ?_
 refine wp_loop_s (fun k f w => ∃ q S wk m V n id M a out, k = l.length - q ∧ q ≤ l.length ∧ Know f [(5, .pointer (some ⟨bp, 0, none⟩)), (6, out), (15, .slice ao l.length cap), (16, i64 (l.length : Nat)), (17, i64 (q : Nat))] ∧ Mem w0 w S ∧ H.le S ∧ PS (ktOf t) E bty cb bm bT S bp t.floats wk m V n id M q ∧ AccAll (ktOf t) ⟨[], offIt⟩ (l.take q) a M ∧ Sl S 44 3 out q (encA a) ∧ ∀ x, out.ownBlock = some x → E x = none ∧ H x = none) (l.length - 0) ?_ ?_
 ·exact ⟨0, G5, _, m, V, n', _, _, [], _, rfl, Nat.zero_le _, Know.of ⟨rfl, rfl, rfl, rfl, rfl, trivial⟩, hM, hHG, hPS0, AccAll.nil _, Sl.nil _ _ _, fun x hx => by cases hx⟩
 clear hM
 rintro k f w ⟨q, S, wk, m, V, n, id, M, a, out, rfl, hq, ⟨f1, rfl⟩, hM, hle, hPS, hacc, hout, hob⟩
 refine rs hM ?_
 refine rw_bin rfl rfl rfl rfl (b_lt _ _) ?_
 refine rw_nil ?_; intro w hM
 refine wp_seq ?_
 refine wp_if (tmp_lt rfl) rfl (fun hz => ?_) (fun hz => ?_)
 ·have hi : q < l.length := by have := of_decide_eq_true hz; omega
  obtain ⟨s, hs⟩ : ∃ s, l[q]? = some s := ⟨_, List.getElem?_eq_getElem hi⟩
  have hsok := hv s (List.mem_of_getElem? hs)
  obtain ⟨b, o, cap', hsl, hrd⟩ := hl.some (by omega)
  cases hsl
  refine wp_skip ?_
  refine wp_seq ?_
  refine wp_block ?_
  refine rs hM ?_
  refine rw_indexAddr rfl rfl rfl rfl (x_slice Tryz.underlying30 sz36 hi) ?_
  refine rw_loadAG (stepC s) ld36 rfl rfl rfl (rd_step stepC_len hrd hs hle) ?_
  refine rw_allocN Tryz.zeroValue36 rfl rfl (fun b8 G8 n8 l8 e8 k8 => ?_)
  refine rw_store (v := .agg #[.int .i64 _, .int .i64 _, .int .u64 _, .int .i64 _]) sz36 rfl rfl rfl rfl e8 rfl rfl rfl (by nofun) (fun S5 hS5 kS5 => ?_)
  refine rw_nil ?_; intro w hM
  have hS8 : S5 b8 = some (.cells (stepC s).toArray 36 (0, 0)) := hS5.trans rfl
  have hl5 : S.le S5 := le_keep l8 n8 kS5
  have hPS5 := hPS.mono hl5
  have hCls : V.Cls (ktOf t) := by
   obtain ⟨cr, hcr⟩ := From.all hacc rfl
   exact hPS.live.sim.cls (hcr.cls (hS.take q))
  have hxc : ∀ x u, H x = some u → x ≠ cb ∧ x ≠ bp := fun x u hx => ⟨fun e => (by rw [e, hHc] at hx; cases hx), fun e => (by rw [e, hHp] at hx; cases hx)⟩
  refine re hM ?_
  refine mv ?_
  refine mv ?_
  refine rw_loadA (stepC s) ld36 rfl rfl rfl hS8 rfl ?_
  refine rw_callE cr32 rfl rfl (fun w hM => c32 hM hDb hEP hEc Ty R hPS5 (by omega) hCls hsok.k0 hsok.k6 hsok.i0 hsok.i7 hsok.key hsok.elem) rfl (by nofun) ?_; rintro _ S3 ⟨a', M', wk', m', V', n'', id', rfl, hA, hPS', hfr⟩
  refine rw_buildSlN (bs41 _ _ _) rfl rfl rfl (fun bs G4 ns ls es ks => ?_); have hout4 : Sl G4 44 3 out q (encA a) := (hout.mono hl5).move fun x u hx ho => (by obtain ⟨cur, hc⟩ := (hout.mono hl5).blk ho; exact ls _ _ (hfr x u hx (by rw [hc] at hx; cases hx; exact plain_of rfl) (by rw [hc] at hx; cases hx; show (44 : Nat) ≠ 108; decide) (ne_of_ty hc hPS5.live.cnt rfl rfl rfl) (ne_of_ty hc hPS5.pl rfl rfl rfl)))
  refine rw_appendN (v := out) ap41 rfl rfl rfl rfl hout4 (u := .slice (some ⟨bs, 0, none⟩) 1 1) (m := 1) (news := ansC a') ⟨rfl, .inr ⟨bs, 0, 1, rfl, fun H' w hle hM j u hj => hM.cell (hle _ _ es) (by rw [Nat.zero_add]; show ((ansC a').toArray)[j]? = some u; rw [List.getElem?_toArray]; exact hj)⟩⟩ (oneC_ans a') (by omega) (fun out' S6 so6 ko6 oo6 => ?_)
  refine asg ?_
  refine rw_nil ?_; intro w hM
  simp only [Exit.then, Exit.inBlock]
  refine re hM ?_
  refine rw_bin (v := i64 ((q + 1 : Nat) : Int)) rfl rfl rfl rfl (bin_eq (b_addi (b := 1) (by omega) (by omega)) (congrArg i64 (by omega))) ?_
  refine mv ?_
  refine rw_nil ?_; intro w hM
  have hG4 : H.le G4 := fun x u hx => ls _ _ (hfr x u (hl5 _ _ (hle _ _ hx)) (hPl x u hx).1 (hPl x u hx).2 (hxc x u hx).1 (hxc x u hx).2)
  have hPS4 := hPS'.mono ls
  refine ⟨l.length - (q + 1), _, rfl, by omega, q + 1, S6, wk', m', V', n'', id', M', a ++ [a'], out', rfl, by omega, Know.of ⟨rfl, rfl, rfl, rfl, rfl, trivial⟩, hM, fun x u hx => ko6 x u (hG4 x u hx) fun e => (by rw [(hob x e).2] at hx; cases hx), ?_, (by rw [take_get hs]; exact hacc.snoc hA), (by have e1 : encA (a ++ [a']) = encA a ++ ansC a' := (by simp [encA]); rw [e1]; exact so6), fun x hx => ?_⟩
  ·cases ho : out.ownBlock with
   | none => exact hPS4.mono fun x u hx => ko6 x u hx (by rw [ho]; exact fun e => by cases e)
   | some x0 =>
    obtain ⟨cur, hc⟩ := hout4.blk ho
    exact hPS4.off hc (plain_of rfl) (by show (44 : Nat) ≠ 98; decide) (by show (44 : Nat) ≠ 3; decide) (by show (44 : Nat) ≠ 59; decide) (by show (44 : Nat) ≠ 108; decide) (hob x0 ho).1 fun x u hx hne => ko6 x u hx (by rw [ho]; exact fun e => hne (by cases e; rfl))
  ·rcases oo6 with e | ⟨b', e, hb'⟩
   ·exact hob x (e ▸ hx)
   ·rw [e] at hx; cases hx
    exact ⟨le_none hPS4.live.ele hb', le_none hG4 hb'⟩
 ·refine wp_exit ?_
  simp only [Exit.then, Exit.inBlock, if_true]
  have hq' : q = l.length := by have := of_decide_eq_false hz; omega
  subst hq'
  refine rs hM ?_
  refine mv ?_
  refine asg ?_
  refine rw_nil ?_; intro w hM
  refine wp_ret ?_
  rw [List.take_length] at hacc
  exact post_tmp (v := out) rfl rfl rfl ⟨_, S, rfl, hM, a, M, hacc, hout, hle⟩
end
section
/-- What a map holds. -/
def MapOf (q : IntKind) (o : Obj) (f : Int → Option Value) : Prop :=
 ∃ es clock, o = .map es clock ∧ (∀ e ∈ es.toList, ∃ a, e.key = .int q a ∧ (Lit.int q a).wf = true) ∧ (∀ (i j : Nat) (e e' : MapEntry), es.toList[i]? = some e → es.toList[j]? = some e' → e.key = e'.key → i = j) ∧ ∀ a v, f a = some v ↔ ∃ e ∈ es.toList, e.key = .int q a ∧ e.val = v
theorem MapOf.new (q : IntKind) : MapOf q (.map #[] 0) (fun _ => none) := ⟨#[], 0, rfl, fun e h => by simp at h, fun i j e e' h => by simp at h, fun a v => by simp⟩
theorem MapOf.ext {q : IntKind} {o : Obj} {f f' : Int → Option Value} (h : MapOf q o f) (hf : ∀ a, f a = f' a) : MapOf q o f' := (funext hf : f = f') ▸ h
theorem MapOf.plain {q : IntKind} {o : Obj} {f : Int → Option Value} (h : MapOf q o f) : objTy o = 0 := by obtain ⟨es, c, rfl, _⟩ := h; rfl
section
variable {P : Program} {t kt et : TypeId} {q : IntKind} {w : World} {b : Nat} {o : Obj} {f : Int → Option Value} {a : Int}
theorem run_lookup_of (ht : P.underlying t = some (.map kt et)) (hk : P.underlying kt = some (.int q)) {z : Value} (hz : ∀ w, (zeroValue et).run P w = .ok z w) (hb : w.heap[b]? = some o) (hf : MapOf q o f) (ha : (Lit.int q a).wf = true) :
  (Instr.lookup t (.map (some b)) (.int q a) false).run P w = .ok ((f a).getD z) w := by
 obtain ⟨es, clock, rfl, h1, h2, h3⟩ := hf
 have K := Maps.int_keyed hk
 have hkey := Maps.keyOf_int_mk hk ha
 have hks : ∀ e ∈ es.toList, ∃ l, keyOf P kt e.key = some l := fun e he => by
  obtain ⟨x, x1, x2⟩ := h1 e he
  exact ⟨_, by rw [x1]; exact Maps.keyOf_int_mk hk x2⟩
 rcases K.find w hkey es.toList hks with ⟨g1, g2⟩ | ⟨j, e0, g1, g2, g3⟩
 ·have hn : f a = none := by
   cases hfa : f a with
   | none => rfl
   | some v => obtain ⟨e, e1, e2, _⟩ := (h3 a v).1 hfa; exact absurd e2 (g2 e e1)
  rw [hn]
  simp [Instr.lookup, run_underlying ht, MapKept.run_getObj_map hb, K.check w _ hkey, g1, hz w, Result.andThen]
 ·have hn : f a = some e0.val := (h3 a e0.val).2 ⟨e0, List.mem_of_getElem? g2, g3, rfl⟩
  rw [hn]
  simp [Instr.lookup, run_underlying ht, MapKept.run_getObj_map hb, K.check w _ hkey, g1, Result.andThen]
theorem run_update_of (ht : P.underlying t = some (.map kt et)) (hk : P.underlying kt = some (.int q)) (hb : w.heap[b]? = some o) (hf : MapOf q o f) (ha : (Lit.int q a).wf = true) (v : Value) :
  ∃ o', (Instr.mapUpdate t (.map (some b)) (.int q a) v).run P w = .ok () { w with heap := w.heap.setIfInBounds b o' } ∧ MapOf q o' (fun x => if x = a then some v else f x) := by
 obtain ⟨es, clock, rfl, h1, h2, h3⟩ := hf
 have K := Maps.int_keyed hk
 have hkey := Maps.keyOf_int_mk hk ha
 have hks : ∀ e ∈ es.toList, ∃ l, keyOf P kt e.key = some l := fun e he => by
  obtain ⟨x, x1, x2⟩ := h1 e he
  exact ⟨_, by rw [x1]; exact Maps.keyOf_int_mk hk x2⟩
 rcases K.find w hkey es.toList hks with ⟨g1, g2⟩ | ⟨j, e0, g1, g2, g3⟩
 ·refine ⟨.map (es.push ⟨.int q a, v, clock⟩) (clock + 1), by simp [Instr.mapUpdate, run_underlying ht, MapKept.run_getObj_map hb, K.check w false hkey, g1, MapKept.run_setObj_map _ hb, Result.andThen], es.push ⟨.int q a, v, clock⟩, clock + 1, rfl, fun e he => ?_, fun i j e e' hi hj hke => ?_, fun x u => ?_⟩
  ·rw [Array.toList_push, List.mem_append, List.mem_singleton] at he
   rcases he with he | rfl
   ·exact h1 e he
   ·exact ⟨a, rfl, ha⟩
  ·rw [Array.toList_push] at hi hj
   have get : ∀ (i : Nat) (e : MapEntry), (es.toList ++ [⟨.int q a, v, clock⟩])[i]? = some e → es.toList[i]? = some e ∨ (i = es.toList.length ∧ e.key = .int q a) := fun i e he => by
    by_cases hl : i < es.toList.length
    ·rw [List.getElem?_append_left hl] at he; exact .inl he
    ·have := (List.getElem?_eq_some_iff.1 he).1
     rw [List.length_append, List.length_singleton] at this
     have hl' : i = es.toList.length := by omega
     subst hl'
     rw [List.getElem?_concat_length] at he
     cases he; exact .inr ⟨rfl, rfl⟩
   rcases get i e hi with a1 | ⟨a1, a2⟩ <;> rcases get j e' hj with a3 | ⟨a3, a4⟩
   ·exact h2 i j e e' a1 a3 hke
   ·exact absurd (hke.trans a4) (g2 e (List.mem_of_getElem? a1))
   ·exact absurd (hke.symm.trans a2) (g2 e' (List.mem_of_getElem? a3))
   ·omega
  ·by_cases hx : x = a
   ·subst hx
    simp only [if_true]
    constructor
    ·intro h; cases h
     exact ⟨_, by rw [Array.toList_push]; exact List.mem_append_right _ (List.mem_singleton.2 rfl), rfl, rfl⟩
    ·rintro ⟨e, e1, e2, e3⟩
     rw [Array.toList_push, List.mem_append, List.mem_singleton] at e1
     rcases e1 with e1 | rfl
     ·exact absurd e2 (g2 e e1)
     ·exact congrArg some e3
   ·simp only [if_neg hx]; rw [h3 x u]
    constructor
    ·rintro ⟨e, e1, e2⟩; exact ⟨e, by rw [Array.toList_push]; exact List.mem_append_left _ e1, e2⟩
    ·rintro ⟨e, e1, e2⟩
     rw [Array.toList_push, List.mem_append, List.mem_singleton] at e1
     rcases e1 with e1 | rfl
     ·exact ⟨e, e1, e2⟩
     ·simp only [Value.int.injEq] at e2; exact absurd e2.1.2.symm hx
 ·have hj : es[j]? = some e0 := by simpa using g2
  have hjl : j < es.toList.length := (List.getElem?_eq_some_iff.1 g2).1
  have hl : ∀ i : Nat, (es.modify j (fun e' => { e' with key := Value.int q a, val := v })).toList[i]? = if j = i then some { e0 with key := Value.int q a, val := v } else es.toList[i]? := fun i => by
   rw [Array.toList_modify, List.getElem?_modify]
   by_cases hji : j = i
   ·subst hji; rw [g2]; simp
   ·simp [hji]
  have hkey' : ∀ (i : Nat) (e : MapEntry), (es.modify j (fun e' => { e' with key := Value.int q a, val := v })).toList[i]? = some e → ∃ e1, es.toList[i]? = some e1 ∧ e1.key = e.key := fun i e he => by
   rw [hl] at he
   split at he
   ·rename_i hji; subst hji; cases he; exact ⟨e0, g2, g3⟩
   ·exact ⟨e, he, rfl⟩
  refine ⟨.map (es.modify j fun e' => { e' with key := Value.int q a, val := v }) clock, by simp [Instr.mapUpdate, run_underlying ht, MapKept.run_getObj_map hb, K.check w false hkey, g1, hj, g3, K.stays w hkey, MapKept.run_setObj_map _ hb, Result.andThen], _, clock, rfl, fun e he => ?_, fun i k e e' hi hk' hke => ?_, fun x u => ?_⟩
  ·obtain ⟨i, hi⟩ := List.mem_iff_getElem?.1 he
   obtain ⟨e1, x1, x2⟩ := hkey' i e hi
   rw [← x2]; exact h1 e1 (List.mem_of_getElem? x1)
  ·obtain ⟨e1, x1, x2⟩ := hkey' i e hi
   obtain ⟨e2, x3, x4⟩ := hkey' k e' hk'
   exact h2 i k e1 e2 x1 x3 (by rw [x2, x4, hke])
  ·by_cases hx : x = a
   ·subst hx
    simp only [if_true]
    constructor
    ·intro h; cases h
     exact ⟨{ e0 with key := Value.int q x, val := v }, List.mem_of_getElem? (i := j) (by rw [hl, if_pos rfl]), rfl, rfl⟩
    ·rintro ⟨e, e1, e2, e3⟩
     obtain ⟨i, hi⟩ := List.mem_iff_getElem?.1 e1
     obtain ⟨e4, y1, y2⟩ := hkey' i e hi
     have : i = j := h2 i j e4 e0 y1 g2 (by rw [y2, e2, g3])
     subst this
     rw [hl, if_pos rfl] at hi; cases hi; exact congrArg some e3
   ·simp only [if_neg hx]; rw [h3 x u]
    constructor
    ·rintro ⟨e, e1, e2, e3⟩
     obtain ⟨i, hi⟩ := List.mem_iff_getElem?.1 e1
     refine ⟨e, List.mem_of_getElem? (i := i) ?_, e2, e3⟩
     rw [hl, if_neg]; exact hi
     intro hji; subst hji
     rw [g2] at hi; cases hi
     rw [g3] at e2; simp only [Value.int.injEq] at e2; exact hx e2.2.symm
    ·rintro ⟨e, e1, e2, e3⟩
     obtain ⟨i, hi⟩ := List.mem_iff_getElem?.1 e1
     rw [hl] at hi
     split at hi
     ·cases hi; simp only [Value.int.injEq] at e2; exact absurd e2.2.symm hx
     ·exact ⟨e, List.mem_of_getElem? hi, e2, e3⟩
end
section
variable {P : Program} {ops : Array Oper} {sp br : List Nat} {d : Bool} {w0 : World} {K : Slots → World → Prop} {i : Nat} {rest : List Nat} {Hq H : Heap} {f : Slots}
variable {dst : Tmp} {ty : TypeId} {pos : String} {aft : Array Edge} {g : Option (Nat × Bool)}
theorem rw_makeMapN {t : TypeId} (ho : ops[i]? = some ⟨some dst, .makeMap t none, ty, pos, aft, g⟩) (hw : wantedS ops f ⟨some dst, .makeMap t none, ty, pos, aft, g⟩ = true)
  (h : ∀ (b : Nat) (G : Heap), H b = none → H.le G → G b = some (.map #[] 0) → (∀ k, k ≠ b → G k = H k) → RW P ops sp br false w0 K rest G G (f.set dst (.map (some b)))) : RW P ops sp br false w0 K (i :: rest) Hq H f :=
 rw_s ho hw (by nofun) fun w hM => by
  have hr : (execOp (ev f) ⟨some dst, .makeMap t none, ty, pos, aft, g⟩).run P w = .ok (.value (.map (some w.heap.size))) (w.alloc (.map #[] 0)) := by rfl
  rw [hr]
  exact ⟨_, _, fun e => (by cases e), Heap.le_refl _, hM.alloc _, h w.heap.size (H.upd w.heap.size (.map #[] 0)) hM.fresh (Heap.le_upd _ hM.fresh) (Heap.upd_same _ _ _) (fun _ hk => Heap.upd_ne _ _ hk)⟩
theorem rw_lookup {t kt et : TypeId} {q : IntKind} {x y : Operand} {b : Nat} {o : Obj} {m : Int → Option Value} {a : Int} {z : Value} (ht : P.underlying t = some (.map kt et)) (hk : P.underlying kt = some (.int q)) (hz : ZeroRun P et z) (ho : ops[i]? = some ⟨some dst, .lookup t x y false, ty, pos, aft, g⟩) (hw : wantedS ops f ⟨some dst, .lookup t x y false, ty, pos, aft, g⟩ = true) (hx : ev f x = .map (some b)) (hy : ev f y = .int q a)
  (hb : Hq b = some o) (hf : MapOf q o m) (ha : (Lit.int q a).wf = true) {v : Value} (hv : (m a).getD z = v) (h : RW P ops sp br d w0 K rest Hq H (f.set dst v)) : RW P ops sp br d w0 K (i :: rest) Hq H f :=
 rw_q ho hw (v := v) (fun H' w hle hM => by
  have := run_lookup_of ht hk hz (hM.own _ _ (hle _ _ hb)).2 hf ha
  simp only [execOp, hx, hy]
  show Sem.run P (Sem.bind _ _) w = _
  rw [Sem.run_bind', this, hv]; rfl) h
theorem rw_mapUpdateN {t kt et : TypeId} {q : IntKind} {x y z : Operand} {b : Nat} {o : Obj} {m : Int → Option Value} {a : Int} {v : Value} (ht : P.underlying t = some (.map kt et)) (hk : P.underlying kt = some (.int q)) (ho : ops[i]? = some ⟨none, .mapUpdate t x y z, ty, pos, aft, g⟩) (hw : wantedS ops f ⟨none, .mapUpdate t x y z, ty, pos, aft, g⟩ = true) (hx : ev f x = .map (some b)) (hy : ev f y = .int q a) (hz : ev f z = v)
  (hb : H b = some o) (hf : MapOf q o m) (ha : (Lit.int q a).wf = true)
  (h : ∀ (o' : Obj) (S : Heap), MapOf q o' (fun x => if x = a then some v else m x) → S b = some o' → (∀ k, k ≠ b → S k = H k) → RW P ops sp br false w0 K rest S S f) : RW P ops sp br false w0 K (i :: rest) Hq H f :=
 rw_s ho hw (by nofun) fun w hM => by
  obtain ⟨o', h1, h2⟩ := run_update_of ht hk (hM.own _ _ hb).2 hf ha v
  have hlt := hM.lt hb
  have hr : (execOp (ev f) ⟨none, .mapUpdate t x y z, ty, pos, aft, g⟩).run P w = .ok .skip { w with heap := w.heap.setIfInBounds b o' } := by
   simp only [execOp, hx, hy, hz, bind, pure, Sem.run_bind', h1]
   rfl
  rw [hr]
  refine ⟨_, H.upd b o', fun e => (by cases e), Heap.le_refl _, ?_, h o' (H.upd b o') h2 (Heap.upd_same _ _ _) fun _ hk => Heap.upd_ne _ _ hk⟩
  refine hM.setBlock hb ⟨rfl, rfl, rfl, by simp, fun k hk => ?_⟩ ?_ fun k hk => ?_
  ·have := (hM.own _ _ hb).1
   show (w.heap.setIfInBounds b o')[k]? = _
   rw [Array.getElem?_setIfInBounds_ne (by omega)]
  ·show (w.heap.setIfInBounds b o')[b]? = _
   rw [Array.getElem?_setIfInBounds_self_of_lt hlt]
  ·show (w.heap.setIfInBounds b o')[k]? = _
   rw [Array.getElem?_setIfInBounds_ne (fun e => hk e.symm)]
/-- The first elements of a row. -/
theorem rw_firstN {t e : TypeId} {x y : Operand} {ao : Option Addr} {n cap l : Nat} {k : IntKind} {size : Nat} (ht : P.underlying t = some (.slice e)) (hs : SizeRun P e size) (ho : ops[i]? = some ⟨some dst, .slice t x none (some y) none, ty, pos, aft, g⟩) (hw : wantedS ops f ⟨some dst, .slice t x none (some y) none, ty, pos, aft, g⟩ = true) (hx : ev f x = .slice ao n cap) (hy : ev f y = .int k (l : Nat)) (hl : l ≤ cap)
  (h : RW P ops sp br d w0 K rest Hq H (f.set dst (sliced ao 0 l cap size))) : RW P ops sp br d w0 K (i :: rest) Hq H f :=
 rw_q ho hw (v := sliced ao 0 l cap size) (fun H' w hle hM => by
  have he : P.elem t = e := by simp [Program.elem, ht]
  have ht' : P.underlying t = some (.slice (P.elem t)) := by rw [he]; exact ht
  have h1 := run_slice_h (P := P) w t ao n cap ht' k (l : Nat) (by omega) (by omega)
  rw [he, hs w] at h1
  simp only [Result.andThen, Int.toNat_natCast] at h1
  have h2 : (Instr.sliceAt t (.slice ao n cap) none (some (.int k (l : Nat))) none).run P w = .ok (sliced ao 0 l cap size) w := by rw [run_sliceAt_slice w t _ _ _ _ ht', h1]
  simp only [execOp, hx, hy, Option.map_none, Option.map_some]
  show Sem.run P (Sem.bind _ _) w = _
  rw [Sem.run_bind', h2]; rfl) h
end
end
end Go.Proofs.YtddpfkcofmfmpaaGreatDoor
