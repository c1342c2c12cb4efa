/-
  Plain law: the reference's map and its iterations, and entries told apart by their numbers. Conditions stand in each lemma. Plain theory: hashes on a circle, the runs of the directory's tables. Conditions stand in each lemma. Plain theory: the map beside the reference's map; what an iterator has before her. Conditions stand in each lemma. Plain theory: an iterator over tables, step by step. Conditions stand in each lemma.
  Conditions stand in each lemma.
-/
import Derived.Test.YtddpfkcofmfmpaaGreatDoorQ17
namespace Go.Proofs.YtddpfkcofmfmpaaGreatDoor
open Go Go.RowKit
set_option maxRecDepth 20000
structure Ent where
 key : Nat
 elem : Int
 gone : Bool
structure Itr where
 on : Bool
 was : List Nat
 seen : Nat → Bool
structure Mdl where
 all : List Ent
 its : Nat → Itr
structure Stp where
 kind : Int
 iter : Int
 key : Nat
 elem : Int
structure Ans where
 ok : Bool
 key : Nat
 elem : Int
def Ans.no : Ans := ⟨false, 0, 0⟩
def KT.nan (K : KT) (k : Nat) : Bool := !K.eqk k k
def KT.alike (K : KT) (a b : Nat) : Bool := K.eqk a b || (K.nan a && K.nan b)
def flip1 (f : Nat → Bool) (i : Nat) : Nat → Bool := fun j => decide (j = i) || f j
/-- The entry of a key. -/
def findE (K : KT) (all : List Ent) (k : Nat) : Option Nat := all.findIdx? fun e => !e.gone && K.eqk e.key k
def setElem (all : List Ent) (i : Nat) (e : Int) : List Ent := all.modify i fun a => { a with elem := e }
def goneAt (all : List Ent) (i : Nat) : List Ent := all.modify i fun a => { a with gone := true }
def goneAll (all : List Ent) : List Ent := all.map fun a => { a with gone := true }
def liv (all : List Ent) (i : Nat) : Bool := match all[i]? with | some a => !a.gone | none => false
def lenE (all : List Ent) : Nat := cnt (liv all) all.length
def wasE (all : List Ent) : List Nat := (List.range all.length).filter (liv all)
def putE (K : KT) (all : List Ent) (k : Nat) (e : Int) : List Ent := match findE K all k with | some i => setElem all i e | none => all ++ [⟨k, e, false⟩]
def delE (K : KT) (all : List Ent) (k : Nat) : List Ent := match findE K all k with | some i => goneAt all i | none => all
def getE (K : KT) (all : List Ent) (k : Nat) : Ans := match findE K all k with | some i => ⟨true, 0, (all[i]?.map (·.elem)).getD 0⟩ | none => Ans.no
def setIt (f : Nat → Itr) (q : Nat) (t : Itr) : Nat → Itr := fun p => if p = q then t else f p
/-- Entry i may be what an iteration comes to. -/
def fitsE (K : KT) (all : List Ent) (seen : Nat → Bool) (a : Ans) (i : Nat) : Bool := match all[i]? with | some x => !x.gone && !seen i && K.alike x.key a.key && decide (x.elem = a.elem) | none => false
/-- What the reference takes of an iteration. -/
inductive AccNext (K : KT) (all : List Ent) : Itr → Ans → Itr → Prop
 | off {t : Itr} : t.on = false → AccNext K all t Ans.no t
 | fin {t : Itr} : t.on = true → (∀ i, i ∈ t.was → liv all i = true → t.seen i = true) → AccNext K all t Ans.no { t with on := false }
 | one {t : Itr} {a : Ans} {i : Nat} : t.on = true → a.ok = true → fitsE K all t.seen a i = true → (∀ j, j < i → fitsE K all t.seen a j = false) → AccNext K all t a { t with seen := flip1 t.seen i }
/-- What the reference takes of a step. -/
inductive Acc (K : KT) : Mdl → Stp → Ans → Mdl → Prop
 | put {M : Mdl} {s : Stp} : s.kind = 0 → Acc K M s Ans.no { M with all := putE K M.all s.key s.elem }
 | get {M : Mdl} {s : Stp} : s.kind = 1 → Acc K M s (getE K M.all s.key) M
 | del {M : Mdl} {s : Stp} : s.kind = 2 → Acc K M s Ans.no { M with all := delE K M.all s.key }
 | clear {M : Mdl} {s : Stp} : s.kind = 3 → Acc K M s Ans.no { M with all := goneAll M.all }
 | len {M : Mdl} {s : Stp} : s.kind = 4 → Acc K M s ⟨false, 0, (lenE M.all : Nat)⟩ M
 | start {M : Mdl} {s : Stp} : s.kind = 5 → Acc K M s Ans.no { M with its := setIt M.its s.iter.toNat ⟨true, wasE M.all, fun _ => false⟩ }
 | next {M : Mdl} {s : Stp} {a : Ans} {t : Itr} : s.kind = 6 → AccNext K M.all (M.its s.iter.toNat) a t → Acc K M s a { M with its := setIt M.its s.iter.toNat t }
/-- .. of all steps. -/
inductive AccAll (K : KT) : Mdl → List Stp → List Ans → Mdl → Prop
 | nil (M : Mdl) : AccAll K M [] [] M
 | snoc {M M1 M2 : Mdl} {l : List Stp} {r : List Ans} {s : Stp} {a : Ans} : AccAll K M l r M1 → Acc K M1 s a M2 → AccAll K M (l ++ [s]) (r ++ [a]) M2

/-! ### Entries by their numbers -/
theorem get_setElem (all : List Ent) (i j : Nat) (e : Int) : (setElem all i e)[j]? = (all[j]?).map fun a => if i = j then { a with elem := e } else a := by
 simp only [setElem, List.getElem?_modify]; rfl
theorem get_goneAt (all : List Ent) (i j : Nat) : (goneAt all i)[j]? = (all[j]?).map fun a => if i = j then { a with gone := true } else a := by
 simp only [goneAt, List.getElem?_modify]; rfl
theorem get_goneAll (all : List Ent) (j : Nat) : (goneAll all)[j]? = (all[j]?).map fun a => { a with gone := true } := by simp [goneAll]
theorem liv_iff {all : List Ent} {i : Nat} : liv all i = true ↔ ∃ a, all[i]? = some a ∧ a.gone = false := by
 unfold liv
 cases h : all[i]? with
 | none => simp
 | some a => simp
theorem liv_lt {all : List Ent} {i : Nat} (h : liv all i = true) : i < all.length := by
 obtain ⟨a, h, _⟩ := liv_iff.1 h
 exact (List.getElem?_eq_some_iff.1 h).1
theorem findE_some {K : KT} {all : List Ent} {k i : Nat} (h : findE K all k = some i) : ∃ a, all[i]? = some a ∧ a.gone = false ∧ K.eqk a.key k = true := by
 unfold findE at h
 rw [List.findIdx?_eq_some_iff_getElem] at h
 obtain ⟨h1, h2, _⟩ := h
 refine ⟨all[i], by simp [h1], ?_⟩
 simpa using h2
theorem findE_none {K : KT} {all : List Ent} {k : Nat} (h : findE K all k = none) : ∀ (i : Nat) (a : Ent), all[i]? = some a → a.gone = false → K.eqk a.key k = false := by
 intro i a ha hg
 unfold findE at h
 rw [List.findIdx?_eq_none_iff] at h
 have := h a (List.mem_of_getElem? ha)
 simpa [hg] using this
/-- No two entries have equal keys. -/
def Uni (K : KT) (all : List Ent) : Prop := ∀ (i j : Nat) (a b : Ent), all[i]? = some a → all[j]? = some b → a.gone = false → b.gone = false → K.eqk a.key b.key = true → i = j
theorem findE_of {K : KT} {all : List Ent} (hU : Uni K all) {k i : Nat} {a : Ent} (h1 : all[i]? = some a) (h2 : a.gone = false) (h3 : K.eqk a.key k = true) : findE K all k = some i := by
 cases hf : findE K all k with
 | none => rw [findE_none hf i a h1 h2] at h3; cases h3
 | some j =>
  obtain ⟨b, b1, b2, b3⟩ := findE_some hf
  rw [hU j i b a b1 h1 b2 h2 (K.trans _ _ _ b3 (K.symm _ _ h3))]
/-- The entries of one element whose keys are equal to none. -/
def cls (K : KT) (all : List Ent) (e : Int) (i : Nat) : Bool := match all[i]? with | some a => !a.gone && K.nan a.key && decide (a.elem = e) | none => false
theorem cls_iff {K : KT} {all : List Ent} {e : Int} {i : Nat} : cls K all e i = true ↔ ∃ a, all[i]? = some a ∧ a.gone = false ∧ K.nan a.key = true ∧ a.elem = e := by
 unfold cls
 cases h : all[i]? with
 | none => simp
 | some a => simp [and_assoc]
/-- What was produced (gs) and what the reference holds for it (seen). -/
structure SeenRel (K : KT) (all : List Ent) (gs seen : Nat → Bool) : Prop where
 num : ∀ (i : Nat) (a : Ent), all[i]? = some a → a.gone = false → K.nan a.key = false → gs i = seen i
 same : ∀ e, cnt (fun i => cls K all e i && gs i) all.length = cnt (fun i => cls K all e i && seen i) all.length
 ini : ∀ e i j, i < j → cls K all e i = true → cls K all e j = true → seen j = true → seen i = true
 out : ∀ i, all.length ≤ i → gs i = false ∧ seen i = false
theorem SeenRel.new (K : KT) (all : List Ent) : SeenRel K all (fun _ => false) (fun _ => false) :=
 ⟨fun _ _ _ _ _ => rfl, fun _ => rfl, fun _ _ _ _ _ _ h => (by cases h), fun _ _ => ⟨rfl, rfl⟩⟩
theorem SeenRel.append {K : KT} {all : List Ent} {gs seen : Nat → Bool} (h : SeenRel K all gs seen) (k : Nat) (e : Int) : SeenRel K (all ++ [⟨k, e, false⟩]) gs seen := by
 have hold : ∀ i, i < all.length → (all ++ [⟨k, e, false⟩])[i]? = all[i]? := fun i hi => List.getElem?_append_left hi
 have hc : ∀ e' i, i < all.length → cls K (all ++ [⟨k, e, false⟩]) e' i = cls K all e' i := fun e' i hi => by unfold cls; rw [hold i hi]
 have h0 := h.out all.length (Nat.le_refl _)
 have lt_of : ∀ e' i, cls K (all ++ [⟨k, e, false⟩]) e' i = true → i < all.length + 1 := fun e' i hi => by
  obtain ⟨a, ha, _⟩ := cls_iff.1 hi
  have := (List.getElem?_eq_some_iff.1 ha).1
  simpa using this
 refine ⟨fun i a ha hg hn => ?_, fun e' => ?_, fun e' i j hij hi hj hs => ?_, fun i hi => h.out i (by simp at hi; omega)⟩
 ·by_cases hi : i < all.length
  ·rw [hold i hi] at ha; exact h.num i a ha hg hn
  ·have := h.out i (by omega); rw [this.1, this.2]
 ·simp only [List.length_append, List.length_singleton, cnt, h0.1, h0.2, Bool.and_false]
  rw [cnt_congr (fun s hs => by rw [hc e' s hs] : ∀ s, s < all.length → (cls K (all ++ [⟨k, e, false⟩]) e' s && gs s) = (cls K all e' s && gs s)), cnt_congr (fun s hs => by rw [hc e' s hs] : ∀ s, s < all.length → (cls K (all ++ [⟨k, e, false⟩]) e' s && seen s) = (cls K all e' s && seen s)), h.same e']
 ·by_cases hj' : j < all.length
  ·rw [hc e' i (by omega)] at hi; rw [hc e' j hj'] at hj; exact h.ini e' i j hij hi hj hs
  ·rw [(h.out j (by omega)).2] at hs; cases hs
theorem SeenRel.congr {K : KT} {all all' : List Ent} {gs seen : Nat → Bool} (h : SeenRel K all gs seen) (hl : all'.length = all.length) (hn : ∀ (i : Nat) (a : Ent), all'[i]? = some a → a.gone = false → K.nan a.key = false → ∃ b, all[i]? = some b ∧ b.gone = false ∧ K.nan b.key = false) (hc : ∀ e i, cls K all' e i = cls K all e i) : SeenRel K all' gs seen := by
 refine ⟨fun i a ha hg hk => ?_, fun e => ?_, fun e i j hij hi hj hs => ?_, fun i hi => h.out i (by omega)⟩
 ·obtain ⟨b, b1, b2, b3⟩ := hn i a ha hg hk
  exact h.num i b b1 b2 b3
 ·rw [hl]; simp only [hc]; exact h.same e
 ·rw [hc] at hi hj; exact h.ini e i j hij hi hj hs
theorem SeenRel.setElem {K : KT} {all : List Ent} {gs seen : Nat → Bool} (h : SeenRel K all gs seen) {i : Nat} {a : Ent} (ha : all[i]? = some a) (hn : K.nan a.key = false) (e : Int) : SeenRel K (setElem all i e) gs seen := by
 refine h.congr (by simp [Go.Proofs.YtddpfkcofmfmpaaGreatDoor.setElem]) (fun j b hb hg hk => ?_) fun e' j => ?_
 ·rw [get_setElem] at hb
  cases hj : all[j]? with
  | none => rw [hj] at hb; cases hb
  | some c =>
   rw [hj] at hb
   simp only [Option.map_some, Option.some.injEq] at hb
   subst hb
   refine ⟨c, rfl, ?_, ?_⟩
   ·split at hg <;> exact hg
   ·split at hk <;> exact hk
 ·unfold cls
  rw [get_setElem]
  by_cases e1 : i = j
  ·subst e1; rw [ha]; simp [hn]
  ·cases all[j]? <;> simp [e1]
theorem SeenRel.goneAt {K : KT} {all : List Ent} {gs seen : Nat → Bool} (h : SeenRel K all gs seen) {i : Nat} {a : Ent} (ha : all[i]? = some a) (hn : K.nan a.key = false) : SeenRel K (goneAt all i) gs seen := by
 refine h.congr (by simp [Go.Proofs.YtddpfkcofmfmpaaGreatDoor.goneAt]) (fun j b hb hg hk => ?_) fun e' j => ?_
 ·rw [get_goneAt] at hb
  cases hj : all[j]? with
  | none => rw [hj] at hb; cases hb
  | some c =>
   rw [hj] at hb
   simp only [Option.map_some, Option.some.injEq] at hb
   subst hb
   refine ⟨c, rfl, ?_, ?_⟩
   ·split at hg
    ·cases hg
    ·exact hg
   ·split at hk <;> exact hk
 ·unfold cls
  rw [get_goneAt]
  by_cases e1 : i = j
  ·subst e1; rw [ha]; simp [hn]
  ·cases all[j]? <;> simp [e1]
theorem SeenRel.goneAll {K : KT} {all : List Ent} {gs seen : Nat → Bool} (h : SeenRel K all gs seen) : SeenRel K (goneAll all) gs seen := by
 have hc : ∀ e i, cls K (Go.Proofs.YtddpfkcofmfmpaaGreatDoor.goneAll all) e i = false := fun e i => by
  unfold cls; rw [get_goneAll]
  cases all[i]? <;> simp
 refine ⟨fun i a ha hg _ => ?_, fun e => ?_, fun e i j _ hi => ?_, fun i hi => h.out i (by simpa [Go.Proofs.YtddpfkcofmfmpaaGreatDoor.goneAll] using hi)⟩
 ·rw [get_goneAll] at ha
  cases hj : all[i]? with
  | none => rw [hj] at ha; cases ha
  | some c => rw [hj] at ha; simp only [Option.map_some, Option.some.injEq] at ha; subst ha; cases hg
 ·simp only [hc, Bool.false_and]
 ·rw [hc] at hi; cases hi
theorem cnt_lt {q r : Nat → Bool} {n s : Nat} (h : ∀ t, t < n → q t = true → r t = true) (hs : s < n) (h1 : r s = true) (h2 : q s = false) : cnt q n < cnt r n := by
 have h3 := cnt_set (q := q) (r := fun t => if t = s then true else q t) hs (fun t _ hne => by simp [hne])
 have h4 : cnt (fun t => if t = s then true else q t) n ≤ cnt r n := cnt_mono fun t ht hq => by
  split at hq
  ·rename_i e; rw [e]; exact h1
  ·exact h t ht hq
 simp only [h2, if_true, Bool.toNat_true, Bool.toNat_false] at h3
 omega
theorem least_of {p : Nat → Bool} : ∀ {n : Nat}, p n = true → ∃ m, m ≤ n ∧ p m = true ∧ ∀ j, j < m → p j = false := by
 intro n
 induction n using Nat.strongRecOn with
 | _ n ih =>
  intro h
  by_cases hx : ∃ j, j < n ∧ p j = true
  ·obtain ⟨j, hj, hp⟩ := hx
   obtain ⟨m, m1, m2, m3⟩ := ih j hj hp
   exact ⟨m, by omega, m2, m3⟩
  ·refine ⟨n, Nat.le_refl _, h, fun j hj => ?_⟩
   cases e : p j with
   | false => rfl
   | true => exact absurd ⟨j, hj, e⟩ hx
theorem flip1_self (f : Nat → Bool) (i : Nat) : flip1 f i i = true := by simp [flip1]
theorem flip1_ne (f : Nat → Bool) {i j : Nat} (h : j ≠ i) : flip1 f i j = f j := by simp [flip1, h]
/-- An entry that was not produced is taken. -/
theorem SeenRel.next {K : KT} {all : List Ent} {gs seen : Nat → Bool} (h : SeenRel K all gs seen) (hU : Uni K all) {j : Nat} {x : Ent} {a : Ans} (hx : all[j]? = some x) (hg : x.gone = false) (hj : gs j = false) (hk : K.alike x.key a.key = true) (he : x.elem = a.elem) :
  ∃ i, fitsE K all seen a i = true ∧ (∀ p, p < i → fitsE K all seen a p = false) ∧ SeenRel K all (flip1 gs j) (flip1 seen i) := by
 have hjl : j < all.length := (List.getElem?_eq_some_iff.1 hx).1
 cases hn : K.nan x.key with
 | false =>
  have hka : K.eqk x.key a.key = true := by simpa [KT.alike, hn] using hk
  have hsj : seen j = false := (h.num j x hx hg hn).symm.trans hj
  have only : ∀ p, fitsE K all seen a p = true → p = j := fun p hp => by
   unfold fitsE at hp
   cases hy : all[p]? with
   | none => rw [hy] at hp; cases hp
   | some y =>
    rw [hy] at hp
    simp only [Bool.and_eq_true, Bool.not_eq_true', decide_eq_true_eq] at hp
    obtain ⟨⟨⟨h1, _⟩, h2⟩, _⟩ := hp
    have hna : K.nan a.key = false := by simp [KT.nan, K.refl_right hka]
    have h2' : K.eqk y.key a.key = true := by simpa [KT.alike, hna] using h2
    exact hU p j y x hy hx h1 hg (K.trans _ _ _ h2' (K.symm _ _ hka))
  refine ⟨j, by simp [fitsE, hx, hg, hsj, hk, he], fun p hp => ?_, ⟨fun i b hb hbg hbn => ?_, fun e => ?_, fun e i p hip hi hp hs => ?_, fun i hi => ?_⟩⟩
  ·cases hf : fitsE K all seen a p with
   | false => rfl
   | true => have := only p hf; omega
  ·unfold flip1; rw [h.num i b hb hbg hbn]
  ·have hcj : ∀ p, cls K all e p = true → p ≠ j := fun p hp e1 => by
    obtain ⟨y, y1, _, y3, _⟩ := cls_iff.1 hp
    rw [e1, hx] at y1; cases y1; rw [hn] at y3; cases y3
   have e1 : ∀ f : Nat → Bool, cnt (fun i => cls K all e i && flip1 f j i) all.length = cnt (fun i => cls K all e i && f i) all.length := fun f => cnt_congr fun s _ => by
    cases hc : cls K all e s with
    | false => rfl
    | true => rw [flip1_ne _ (hcj s hc)]
   rw [e1, e1, h.same e]
  ·have hpj : p ≠ j := fun e1 => by
    obtain ⟨y, y1, _, y3, _⟩ := cls_iff.1 hp
    rw [e1, hx] at y1; cases y1; rw [hn] at y3; cases y3
   rw [flip1_ne _ hpj] at hs
   have := h.ini e i p hip hi hp hs
   simp [flip1, this]
  ·have := h.out i hi
   rw [flip1_ne _ (by omega), flip1_ne _ (by omega)]; exact this
 | true =>
  have hna : K.nan a.key = true := by
   rcases Bool.or_eq_true_iff.1 hk with h1 | h1
   ·have := K.refl_left h1; simp [KT.nan, this] at hn
   ·simpa [hn] using h1
  have hcj : cls K all a.elem j = true := cls_iff.2 ⟨x, hx, hg, hn, he⟩
  have hfit : ∀ p, fitsE K all seen a p = (cls K all a.elem p && !seen p) := fun p => by
   unfold fitsE cls
   cases hy : all[p]? with
   | none => rfl
   | some y =>
    have : K.eqk y.key a.key = true → False := fun h1 => by simp [KT.nan, K.refl_right h1] at hna
    have h2 : K.eqk y.key a.key = false := by simpa using this
    simp only [KT.alike, h2, hna, Bool.false_or, Bool.and_true]
    cases y.gone <;> cases seen p <;> cases K.nan y.key <;> simp
  -- one of the class is not seen
  have hex : ∃ p, fitsE K all seen a p = true := by
   apply Classical.byContradiction
   intro hc
   have hall : ∀ p, cls K all a.elem p = true → seen p = true := fun p hp => by
    cases hs : seen p with
    | true => rfl
    | false => exact absurd ⟨p, by rw [hfit, hp, hs]; rfl⟩ hc
   have h1 := h.same a.elem
   have h2 : cnt (fun i => cls K all a.elem i && gs i) all.length < cnt (fun i => cls K all a.elem i && seen i) all.length := cnt_lt (s := j) (fun t _ ht => by
    have ht' := Bool.and_eq_true_iff.1 ht
    show (cls K all a.elem t && seen t) = true
    rw [ht'.1, hall t ht'.1]; rfl) hjl (by show (cls K all a.elem j && seen j) = true; rw [hcj, hall j hcj]; rfl) (by show (cls K all a.elem j && gs j) = false; rw [hj, Bool.and_false])
   omega
  obtain ⟨p0, hp0⟩ := hex
  obtain ⟨i, _, hi, hmin⟩ := least_of hp0
  have hi' := hi
  rw [hfit, Bool.and_eq_true, Bool.not_eq_true'] at hi'
  obtain ⟨hci, hsi⟩ := hi'
  obtain ⟨y, hy, hyg, hyn, hye⟩ := cls_iff.1 hci
  have hil : i < all.length := (List.getElem?_eq_some_iff.1 hy).1
  refine ⟨i, hi, hmin, ⟨fun q b hb hbg hbn => ?_, fun e => ?_, fun e q p hqp hq hp hs => ?_, fun q hq => ?_⟩⟩
  ·have n1 : q ≠ j := fun e1 => by rw [e1, hx] at hb; cases hb; rw [hn] at hbn; cases hbn
   have n2 : q ≠ i := fun e1 => by rw [e1, hy] at hb; cases hb; rw [hyn] at hbn; cases hbn
   rw [flip1_ne _ n1, flip1_ne _ n2]; exact h.num q b hb hbg hbn
  ·by_cases ee : e = a.elem
   ·subst ee
    have h1 := cnt_set (q := fun i => cls K all a.elem i && gs i) (r := fun i => cls K all a.elem i && flip1 gs j i) hjl (fun t _ hne => by rw [flip1_ne _ hne])
    have h2 := cnt_set (q := fun i => cls K all a.elem i && seen i) (r := fun q => cls K all a.elem q && flip1 seen i q) hil (fun t _ hne => by rw [flip1_ne _ hne])
    have h3 := h.same a.elem
    simp only [hcj, hci, hj, hsi, flip1_self, Bool.and_true, Bool.and_false, Bool.toNat_true, Bool.toNat_false] at h1 h2
    omega
   ·have hne : ∀ q z, all[q]? = some z → z.elem = a.elem → cls K all e q = false := fun q z hz hze => by
     cases hc : cls K all e q with
     | false => rfl
     | true => obtain ⟨z', z1, _, _, z2⟩ := cls_iff.1 hc; rw [hz] at z1; cases z1; exact absurd (z2.symm.trans hze) ee
    have e1 : ∀ (f : Nat → Bool) (q : Nat), cls K all e q = false → cnt (fun i => cls K all e i && flip1 f q i) all.length = cnt (fun i => cls K all e i && f i) all.length := fun f q hq => cnt_congr fun s _ => by
     by_cases hs : s = q
     ·rw [hs, hq]; rfl
     ·rw [flip1_ne _ hs]
    rw [e1 _ _ (hne j x hx he), e1 _ _ (hne i y hy hye), h.same e]
  ·by_cases hpi : p = i
   ·subst hpi
    obtain ⟨z, z1, _, _, z2⟩ := cls_iff.1 hp
    rw [hy] at z1; cases z1
    have := hmin q hqp
    rw [hfit, ← hye, z2, hq] at this
    have hsq : seen q = true := by simpa using this
    simp [flip1, hsq]
   ·rw [flip1_ne _ hpi] at hs
    have := h.ini e q p hqp hq hp hs
    simp [flip1, this]
  ·have := h.out q hq
   rw [flip1_ne _ (by omega), flip1_ne _ (by omega)]; exact this
/-- At the end all that were there are seen. -/
theorem SeenRel.fin {K : KT} {all : List Ent} {gs seen : Nat → Bool} (h : SeenRel K all gs seen) {was : List Nat} (hw : ∀ i j, i < j → j ∈ was → liv all i = true → i ∈ was) (hg : ∀ i, i ∈ was → liv all i = true → gs i = true) : ∀ i, i ∈ was → liv all i = true → seen i = true := by
 intro j hj hl
 obtain ⟨x, hx, hxg⟩ := liv_iff.1 hl
 cases hn : K.nan x.key with
 | false => rw [← h.num j x hx hxg hn]; exact hg j hj hl
 | true =>
  cases hs : seen j with
  | true => rfl
  | false =>
   exfalso
   have hcj : cls K all x.elem j = true := cls_iff.2 ⟨x, hx, hxg, hn, rfl⟩
   have hlt : ∀ i, cls K all x.elem i = true → seen i = true → i < j := fun i hi hsi => by
    rcases Nat.lt_trichotomy i j with h1 | h1 | h1
    ·exact h1
    ·rw [h1, hs] at hsi; cases hsi
    ·rw [h.ini x.elem j i h1 hcj hi hsi] at hs; cases hs
   have hjl := liv_lt hl
   have h1 := h.same x.elem
   have h2 : cnt (fun i => cls K all x.elem i && seen i) all.length < cnt (fun i => cls K all x.elem i && gs i) all.length := cnt_lt (s := j) (fun t _ ht => by
    obtain ⟨t1, t2⟩ := Bool.and_eq_true_iff.1 ht
    show (cls K all x.elem t && gs t) = true
    obtain ⟨z, z1, z2, _⟩ := cls_iff.1 t1
    have hlt' : liv all t = true := liv_iff.2 ⟨z, z1, z2⟩
    rw [t1, hg t (hw t j (hlt t t1 t2) hj hlt') hlt']; rfl) hjl (by show (cls K all x.elem j && gs j) = true; rw [hcj, hg j hj hl]; rfl) (by show (cls K all x.elem j && seen j) = false; rw [hs, Bool.and_false])
   omega
/-- How far hash h lies behind O. -/
def rel (O h : Nat) : Nat := (h + 2 ^ 64 - O) % 2 ^ 64
theorem rel_lt (O h : Nat) : rel O h < 2 ^ 64 := Nat.mod_lt _ (by decide)
theorem zone_iff {E c h : Nat} (hE : 0 < E) : h / E = c ↔ c * E ≤ h ∧ h < c * E + E := by
 constructor
 ·intro e; subst e
  exact ⟨Nat.div_mul_le_self _ _, by have := Nat.div_add_mod h E; have := Nat.mod_lt h hE; rw [Nat.mul_comm]; omega⟩
 ·rintro ⟨h1, h2⟩
  apply Nat.le_antisymm
  ·rw [← Nat.lt_add_one_iff, Nat.div_lt_iff_lt_mul hE, Nat.add_mul]; omega
  ·rw [Nat.le_div_iff_mul_le hE]; exact h1
theorem zone_rel {O Di p E h : Nat} (hO : O < 2 ^ 64) (hD : Di + E ≤ 2 ^ 64) (hE : 0 < E) (hp : (O + Di) % 2 ^ 64 = p) (hpE : p + E ≤ 2 ^ 64) (hh : h < 2 ^ 64) : (p ≤ h ∧ h < p + E) ↔ (Di ≤ rel O h ∧ rel O h < Di + E) := by
 unfold rel; omega
theorem zone_fit {O Di p E : Nat} (hO : O < 2 ^ 64) (hDi : Di < 2 ^ 64) (hp : (O + Di) % 2 ^ 64 = p) (hpE : p + E ≤ 2 ^ 64) (hno : ¬ (p < O ∧ O < p + E)) : Di + E ≤ 2 ^ 64 := by
 omega
theorem run_len {ld : Nat} : 0 < 2 ^ (64 - ld) := Nat.two_pow_pos _
theorem run_fit {ld c : Nat} (hl : ld ≤ 64) (hc : c < 2 ^ ld) : c * 2 ^ (64 - ld) + 2 ^ (64 - ld) ≤ 2 ^ 64 := by
 calc c * 2 ^ (64 - ld) + 2 ^ (64 - ld) = (c + 1) * 2 ^ (64 - ld) := by rw [Nat.add_mul]; omega
  _ ≤ 2 ^ ld * 2 ^ (64 - ld) := Nat.mul_le_mul_right _ hc
  _ = 2 ^ 64 := by rw [← Nat.pow_add, show ld + (64 - ld) = 64 by omega]
theorem run_c {ld h : Nat} (hl : ld ≤ 64) (hh : h < 2 ^ 64) : h / 2 ^ (64 - ld) < 2 ^ ld := by
 rw [Nat.div_lt_iff_lt_mul run_len, ← Nat.pow_add, show ld + (64 - ld) = 64 by omega]; exact hh
/-- Where the run begins in which hash h lies: her place in the directory. -/
theorem base_idx {gd ld h : Nat} (hl : ld ≤ gd) (hg : gd ≤ 64) : base gd ld (dirIdx gd h) = h / 2 ^ (64 - ld) * 2 ^ (gd - ld) := by
 unfold base dirIdx
 rw [Nat.div_div_eq_div_mul, ← Nat.pow_add, show 64 - gd + (gd - ld) = 64 - ld by omega]
theorem Dir.OK.at_ld {K : KT} {D : Dir} (h : D.OK K) {x : Nat} (hx : x < 2 ^ 64) : (D.T (D.at x)).ld ≤ D.gd :=
 h.dok.ld _ (dirIdx_lt (by have := h.gd64; omega) hx)
/-- The hashes of one run have one table. -/
theorem Dir.OK.at_same {K : KT} {D : Dir} (h : D.OK K) {x y : Nat} (hx : x < 2 ^ 64) (hy : y < 2 ^ 64) (e : x / 2 ^ (64 - (D.T (D.at x)).ld) = y / 2 ^ (64 - (D.T (D.at x)).ld)) : D.at y = D.at x := by
 have hg := h.gd64
 have hl := h.at_ld hx
 refine h.dok.same _ _ (dirIdx_lt (by omega) hx) (dirIdx_lt (by omega) hy) ?_
 have hl' : (D.T (D.d (dirIdx D.gd x))).ld ≤ D.gd := hl
 rw [base_idx hl' (by omega), base_idx hl' (by omega)]
 have e' : x / 2 ^ (64 - (D.T (D.d (dirIdx D.gd x))).ld) = y / 2 ^ (64 - (D.T (D.d (dirIdx D.gd x))).ld) := e
 rw [e']
theorem Dir.OK.same_at {K : KT} {D : Dir} (h : D.OK K) {x y : Nat} (hx : x < 2 ^ 64) (hy : y < 2 ^ 64) (e : D.at y = D.at x) : x / 2 ^ (64 - (D.T (D.at x)).ld) = y / 2 ^ (64 - (D.T (D.at x)).ld) := by
 have hg := h.gd64
 have hl := h.at_ld hx
 have h1 := h.dok.inj (dirIdx_lt (by omega) hx) (dirIdx_lt (by omega) hy) e.symm
 have hl' : (D.T (D.d (dirIdx D.gd x))).ld ≤ D.gd := hl
 have e2 : (D.T (D.d (dirIdx D.gd y))).ld = (D.T (D.at x)).ld := congrArg (fun b => (D.T b).ld) e
 have e3 : (D.T (D.d (dirIdx D.gd x))).ld = (D.T (D.at x)).ld := rfl
 rw [e2, e3, base_idx hl (by omega), base_idx hl (by omega)] at h1
 exact Nat.eq_of_mul_eq_mul_right (Nat.two_pow_pos _) h1
/-- A run begins at hash x. -/
def Dir.bnd (D : Dir) (x : Nat) : Prop := x % 2 ^ (64 - (D.T (D.at x)).ld) = 0
theorem mod_pow_le {x a b : Nat} (h : x % 2 ^ a = 0) (hab : b ≤ a) : x % 2 ^ b = 0 := by
 obtain ⟨c, rfl⟩ := Nat.dvd_of_mod_eq_zero h
 rw [show a = b + (a - b) by omega, Nat.pow_add, Nat.mul_assoc]
 exact Nat.mul_mod_right _ _
theorem Dir.bnd.deep {D D' : Dir} {x : Nat} (h : D.bnd x) (hd : (D.T (D.at x)).ld ≤ (D'.T (D'.at x)).ld) : D'.bnd x := mod_pow_le h (by omega)
/-- A run that begins at p does not hold a begin. -/
theorem Dir.OK.bnd_out {K : KT} {D : Dir} (h : D.OK K) {p x : Nat} (hp : p < 2 ^ 64) (hx : x < 2 ^ 64) (hb : D.bnd p) (hbx : D.bnd x) : ¬ (p < x ∧ x < p + 2 ^ (64 - (D.T (D.at p)).ld)) := by
 rintro ⟨h1, h2⟩
 have hE : 0 < 2 ^ (64 - (D.T (D.at p)).ld) := run_len
 have hpE : p / 2 ^ (64 - (D.T (D.at p)).ld) * 2 ^ (64 - (D.T (D.at p)).ld) = p := by
  have := Nat.div_add_mod p (2 ^ (64 - (D.T (D.at p)).ld))
  unfold Dir.bnd at hb; rw [hb] at this; rw [Nat.mul_comm]; omega
 have e : p / 2 ^ (64 - (D.T (D.at p)).ld) = x / 2 ^ (64 - (D.T (D.at p)).ld) := ((zone_iff hE).2 ⟨by omega, by omega⟩).symm
 have e2 := h.at_same hp hx e
 unfold Dir.bnd at hbx
 rw [e2] at hbx
 have := Nat.div_add_mod x (2 ^ (64 - (D.T (D.at p)).ld))
 rw [hbx, ← e, Nat.mul_comm, hpE] at this
 omega
/-- Behind a run whose hashes all lie in tables as deep, a run begins. -/
theorem Dir.OK.bnd_next {K : KT} {D : Dir} (h : D.OK K) {c ld : Nat} (hl : ld ≤ 64) (hx : c * 2 ^ (64 - ld) + 2 ^ (64 - ld) < 2 ^ 64) (hd : ∀ x, x < 2 ^ 64 → x / 2 ^ (64 - ld) = c → ld ≤ (D.T (D.at x)).ld) : D.bnd (c * 2 ^ (64 - ld) + 2 ^ (64 - ld)) := by
 have hE : 0 < 2 ^ (64 - ld) := run_len
 generalize hxe : c * 2 ^ (64 - ld) + 2 ^ (64 - ld) = x at hx ⊢
 have hx0 : 0 < x := by omega
 have hE' : 0 < 2 ^ (64 - (D.T (D.at x)).ld) := run_len
 apply Classical.byContradiction
 intro hb
 unfold Dir.bnd at hb
 -- x - 1 lies in the table of x
 have e1 : x / 2 ^ (64 - (D.T (D.at x)).ld) = (x - 1) / 2 ^ (64 - (D.T (D.at x)).ld) := by
  have h1 := Nat.div_add_mod x (2 ^ (64 - (D.T (D.at x)).ld))
  have h2 := Nat.mod_lt x hE'
  refine ((zone_iff hE').2 ⟨?_, ?_⟩).symm
  ·rw [Nat.mul_comm]; omega
  ·rw [Nat.mul_comm]; omega
 have e2 := h.at_same hx (by omega) e1
 have h3 := hd (x - 1) (by omega) ((zone_iff hE).2 ⟨by omega, by omega⟩)
 rw [e2] at h3
 apply hb
 refine mod_pow_le (a := 64 - ld) ?_ (by omega)
 rw [← hxe, show c * 2 ^ (64 - ld) + 2 ^ (64 - ld) = 2 ^ (64 - ld) * (c + 1) by rw [Nat.mul_add, Nat.mul_comm]; omega]
 exact Nat.mul_mod_right _ _
theorem Dir.bnd_zero (D : Dir) : D.bnd 0 := Nat.zero_mod _
/-- A place of the directory, and a place that scales with her. -/
theorem scale_mod {gd o : Nat} (hg : gd ≤ 64) : o * 2 ^ (64 - gd) % 2 ^ 64 = o % 2 ^ gd * 2 ^ (64 - gd) := by
 rw [show (2 : Nat) ^ 64 = 2 ^ gd * 2 ^ (64 - gd) by rw [← Nat.pow_add, show gd + (64 - gd) = 64 by omega], Nat.mul_mod_mul_right]
theorem scale_idx {gd i : Nat} : dirIdx gd (i * 2 ^ (64 - gd)) = i := by
 unfold dirIdx; exact Nat.mul_div_cancel _ run_len
section
/-- The map's entries are the reference's; id: the number of the entry of slot s of the groups in block g. -/
structure Sim (K : KT) (V : Mv) (id : Nat → Nat → Nat) (all : List Ent) : Prop where
 live : ∀ g s k e, V.live g s k e → ∃ a, all[id g s]? = some a ∧ a.gone = false ∧ a.elem = e ∧ (K.eqk a.key k = true ∨ a.key = k)
 inj : ∀ g s k e g' s' k' e', V.live g s k e → V.live g' s' k' e' → id g s = id g' s' → g = g' ∧ s = s'
 onto : ∀ j, liv all j = true → ∃ g s k e, V.live g s k e ∧ id g s = j
theorem row_live {V : Mv} {g n s : Nat} {G : Gr} (h : V.row g n G) (hs : s < 8 * n) (hf : G.c s < 128) : V.live g s (G.k s) (G.e s) := by
 cases V with
 | nil => exact h.elim
 | small sg G0 => obtain ⟨rfl, rfl, rfl⟩ := h; exact ⟨rfl, by omega, hf, rfl, rfl⟩
 | big db D => obtain ⟨i, hi, rfl, rfl, rfl⟩ := h; exact ⟨i, hi, rfl, hs, hf, rfl, rfl⟩
theorem live_row {V : Mv} {g s k : Nat} {e : Int} (h : V.live g s k e) : ∃ n G, V.row g n G ∧ s < 8 * n ∧ G.c s < 128 ∧ G.k s = k ∧ G.e s = e := by
 cases V with
 | nil => exact h.elim
 | small sg G0 => obtain ⟨rfl, a, b, c, d⟩ := h; exact ⟨1, G0, ⟨rfl, rfl, rfl⟩, by omega, b, c, d⟩
 | big db D => obtain ⟨i, hi, rfl, a, b, c, d⟩ := h; exact ⟨_, _, ⟨i, hi, rfl, rfl, rfl⟩, a, b, c, d⟩
theorem live_uniq {K : KT} {S : Heap} {bm : Nat} {m : Mp} {V : Mv} (hV : MapIs K S bm m V) {g s k g' s' k' : Nat} {e e' : Int} (h : V.live g s k e) (h' : V.live g' s' k' e') (hk : K.eqk k k' = true) : g = g' ∧ s = s' := by
 cases V with
 | nil => exact h.elim
 | small sg G0 =>
  obtain ⟨rfl, a, b, rfl, _⟩ := h
  obtain ⟨rfl, a', b', rfl, _⟩ := h'
  exact ⟨rfl, hV.2.2.2.2.2.1.1.uniq s s' (by omega) (by omega) b b' hk⟩
 | big db D =>
  obtain ⟨i, hi, rfl, a, b, rfl, _⟩ := h
  obtain ⟨i', hi', rfl, a', b', rfl, _⟩ := h'
  have hD := hV.2.2.2.1
  have h1 := hD.route i s hi a b
  have h2 := hD.route i' s' hi' a' b'
  rw [← K.hash_eq _ _ hk, h1] at h2
  have et : D.tab i' = D.tab i := by unfold Dir.tab; rw [h2]
  rw [et] at a' b' hk ⊢
  exact ⟨rfl, (hD.tok i hi).sl.uniq s s' a a' b b' hk⟩
/-- What eqk or the same says of hashes. -/
theorem hash_of {K : KT} {a k : Nat} (h : K.eqk a k = true ∨ a = k) : K.hash a = K.hash k := by
 rcases h with h | h
 ·exact K.hash_eq _ _ h
 ·rw [h]
theorem eqk_of {K : KT} {a k b l : Nat} (h : K.eqk a k = true ∨ a = k) (h' : K.eqk b l = true ∨ b = l) (e : K.eqk a b = true) : K.eqk k l = true := by
 have h1 : K.eqk k b = true := by
  rcases h with h | h
  ·exact K.trans _ _ _ (K.symm _ _ h) e
  ·rw [← h]; exact e
 rcases h' with h' | h'
 ·exact K.trans _ _ _ h1 h'
 ·rw [← h']; exact h1
theorem Sim.uni {K : KT} {S : Heap} {bm : Nat} {m : Mp} {V : Mv} {id : Nat → Nat → Nat} {all : List Ent} (h : Sim K V id all) (hV : MapIs K S bm m V) : Uni K all := by
 intro i j a b ha hb hga hgb he
 obtain ⟨g, s, k, e, h1, h2⟩ := h.onto i (liv_iff.2 ⟨a, ha, hga⟩)
 obtain ⟨g', s', k', e', h1', h2'⟩ := h.onto j (liv_iff.2 ⟨b, hb, hgb⟩)
 obtain ⟨a', x1, _, _, x2⟩ := h.live _ _ _ _ h1
 obtain ⟨b', y1, _, _, y2⟩ := h.live _ _ _ _ h1'
 rw [h2, ha] at x1; cases x1
 rw [h2', hb] at y1; cases y1
 obtain ⟨rfl, rfl⟩ := live_uniq hV h1 h1' (eqk_of x2 y2 he)
 exact h2.symm.trans h2'
/-- The entry of a key, here and there. -/
theorem Sim.find {K : KT} {S : Heap} {bm : Nat} {m : Mp} {V : Mv} {id : Nat → Nat → Nat} {all : List Ent} (h : Sim K V id all) (hV : MapIs K S bm m V) (k : Nat) : findE K all k = (findM K k V).map fun p => id p.1 p.2 := by
 cases hf : findM K k V with
 | some p =>
  obtain ⟨k', e, h1, h2⟩ := findM_some hV (g := p.1) (s := p.2) hf
  obtain ⟨a, a1, a2, _, a4⟩ := h.live _ _ _ _ h1
  refine findE_of (h.uni hV) a1 a2 ?_
  rcases a4 with a4 | a4
  ·exact K.trans _ _ _ a4 (K.symm _ _ h2)
  ·rw [a4]; exact K.symm _ _ h2
 | none =>
  cases hx : findE K all k with
  | none => rfl
  | some j =>
   exfalso
   obtain ⟨a, a1, a2, a3⟩ := findE_some hx
   obtain ⟨g, s, k', e, h1, h2⟩ := h.onto j (liv_iff.2 ⟨a, a1, a2⟩)
   obtain ⟨a', x1, _, _, x2⟩ := h.live _ _ _ _ h1
   rw [h2, a1] at x1; cases x1
   have := findM_none hV hf g s k' e h1
   have h3 : K.eqk k' k = true := eqk_of x2 (.inr rfl) a3
   rw [K.symm _ _ h3] at this; cases this
/-- What is told when slot s is come to: entry j. -/
def Tgt (K : KT) (all : List Ent) (id : Nat → Nat → Nat) (same grown : Bool) (g : Nat) (G : Gr) (s j : Nat) : Prop :=
 G.c s < 128 ∧ ((grown = false ∧ j = id g s) ∨ (grown = true ∧ findE K all (G.k s) = some j) ∨ (grown = true ∧ same = true ∧ K.nan (G.k s) = true ∧ j = id g s))
/-- The row that an iterator walks: a part of the map, or what was one. -/
structure RowI (K : KT) (V : Mv) (id : Nat → Nat → Nat) (all : List Ent) (same grown : Bool) (g n : Nat) (G : Gr) : Prop where
 sl : SlotsOK K n G
 now : grown = false → V.row g n G
 old : grown = true → ∀ n' G', ¬ V.row g n' G'
 nan : grown = true → same = true → ∀ s, s < 8 * n → G.c s < 128 → K.nan (G.k s) = true → ∃ a, all[id g s]? = some a ∧ a.gone = false ∧ a.key = G.k s ∧ a.elem = G.e s
 nanI : grown = true → same = true → ∀ s t, s < 8 * n → t < 8 * n → G.c s < 128 → G.c t < 128 → K.nan (G.k s) = true → K.nan (G.k t) = true → id g s = id g t → s = t
theorem nan_find {K : KT} {all : List Ent} {k : Nat} (h : K.nan k = true) : findE K all k = none := by
 cases hf : findE K all k with
 | none => rfl
 | some j => obtain ⟨a, _, _, a3⟩ := findE_some hf; simp [KT.nan, K.refl_right a3] at h
section
variable {K : KT} {V : Mv} {id : Nat → Nat → Nat} {all : List Ent} {same grown : Bool} {g n : Nat} {G : Gr}
theorem Tgt.fn {s i j : Nat} (h : Tgt K all id same grown g G s i) (h' : Tgt K all id same grown g G s j) : i = j := by
 obtain ⟨_, h⟩ := h
 obtain ⟨_, h'⟩ := h'
 rcases h with ⟨a, b⟩ | ⟨a, b⟩ | ⟨a, _, c, b⟩ <;> rcases h' with ⟨a', b'⟩ | ⟨a', b'⟩ | ⟨a', _, c', b'⟩ <;> try (rw [a] at a'; cases a')
 ·rw [b, b']
 ·rw [b] at b'; cases b'; rfl
 ·rw [nan_find c'] at b; cases b
 ·rw [nan_find c] at b'; cases b'
 ·rw [b, b']
theorem Tgt.ent (hS : Sim K V id all) (hR : RowI K V id all same grown g n G) {s j : Nat} (hs : s < 8 * n) (h : Tgt K all id same grown g G s j) : ∃ a, all[j]? = some a ∧ a.gone = false ∧ (K.eqk a.key (G.k s) = true ∨ a.key = G.k s) := by
 obtain ⟨hf, h⟩ := h
 rcases h with ⟨a, rfl⟩ | ⟨a, b⟩ | ⟨a, b, c, rfl⟩
 ·obtain ⟨x, x1, x2, _, x4⟩ := hS.live _ _ _ _ (row_live (hR.now a) hs hf)
  exact ⟨x, x1, x2, x4⟩
 ·obtain ⟨x, x1, x2, x3⟩ := findE_some b
  exact ⟨x, x1, x2, .inl x3⟩
 ·obtain ⟨x, x1, x2, x3, _⟩ := hR.nan a b s hs hf c
  exact ⟨x, x1, x2, .inr x3⟩
theorem Tgt.inj (hS : Sim K V id all) (hR : RowI K V id all same grown g n G) {s t j : Nat} (hs : s < 8 * n) (ht : t < 8 * n) (h : Tgt K all id same grown g G s j) (h' : Tgt K all id same grown g G t j) : s = t := by
 obtain ⟨a, a1, _, a3⟩ := h.ent hS hR hs
 obtain ⟨b, b1, _, b3⟩ := h'.ent hS hR ht
 rw [a1] at b1; cases b1
 by_cases hn : K.eqk a.key a.key = true
 ·exact hR.sl.uniq s t hs ht h.1 h'.1 (eqk_of a3 b3 hn)
 ·have ks : a.key = G.k s := a3.resolve_left fun e => hn (K.refl_left e)
  have kt : a.key = G.k t := b3.resolve_left fun e => hn (K.refl_left e)
  have n1 : K.nan (G.k s) = true := by rw [← ks]; simp [KT.nan, hn]
  have n2 : K.nan (G.k t) = true := by rw [← kt]; simp [KT.nan, hn]
  obtain ⟨hf, h⟩ := h
  obtain ⟨hf', h'⟩ := h'
  rcases h with ⟨x, y⟩ | ⟨x, y⟩ | ⟨x, z, _, y⟩
  ·rcases h' with ⟨x', y'⟩ | ⟨x', _⟩ | ⟨x', _⟩ <;> try (rw [x] at x'; cases x')
   exact (hS.inj _ _ _ _ _ _ _ _ (row_live (hR.now x) hs hf) (row_live (hR.now x) ht hf') (y.symm.trans y')).2
  ·rw [nan_find n1] at y; cases y
  ·rcases h' with ⟨x', y'⟩ | ⟨x', y'⟩ | ⟨x', _, _, y'⟩
   ·rw [x] at x'; cases x'
   ·rw [nan_find n2] at y'; cases y'
   ·exact hR.nanI x z s t hs ht hf hf' n1 n2 (y.symm.trans y')
/-- What an iterator has before her in a row, from place ei on. -/
structure CurI (K : KT) (all : List Ent) (id : Nat → Nat → Nat) (same grown : Bool) (g n : Nat) (G : Gr) (eo ei : Nat) (gs : Nat → Bool) (was : List Nat) (zone : Nat → Prop) : Prop where
 c1 : ∀ y j, ei ≤ y → y < 8 * n → Tgt K all id same grown g G ((y + eo) % (8 * n)) j → gs j = false
 c2 : ∀ j a, all[j]? = some a → a.gone = false → j ∈ was → gs j = false → zone (K.hash a.key) → ∃ y, ei ≤ y ∧ y < 8 * n ∧ Tgt K all id same grown g G ((y + eo) % (8 * n)) j
variable {eo ei : Nat} {gs : Nat → Bool} {was : List Nat} {zone : Nat → Prop}
theorem CurI.skip (h : CurI K all id same grown g n G eo ei gs was zone) (hd : ∀ j, ¬ Tgt K all id same grown g G ((ei + eo) % (8 * n)) j) : CurI K all id same grown g n G eo (ei + 1) gs was zone := by
 refine ⟨fun y j h1 h2 h3 => h.c1 y j (by omega) h2 h3, fun j a h1 h2 h3 h4 h5 => ?_⟩
 obtain ⟨y, y1, y2, y3⟩ := h.c2 j a h1 h2 h3 h4 h5
 have : y ≠ ei := fun e => by subst e; exact hd j y3
 exact ⟨y, by omega, y2, y3⟩
theorem slot_inj {m x y o : Nat} (hx : x < m) (hy : y < m) (e : (x + o) % m = (y + o) % m) : x = y := by
 have h1 : x % m = y % m := by
  have := congrArg (fun z => (z + (m - o % m)) % m) e
  simp only [Nat.mod_add_mod] at this
  have ho := Nat.mod_lt o (by omega : 0 < m)
  have hd := Nat.div_add_mod o m
  have e1 : ∀ z, (z + o + (m - o % m)) % m = z % m := fun z => by
   have : z + o + (m - o % m) = z + m * (o / m + 1) := by rw [Nat.mul_add]; omega
   rw [this, Nat.add_mul_mod_self_left]
  rw [e1, e1] at this; exact this
 rw [Nat.mod_eq_of_lt hx, Nat.mod_eq_of_lt hy] at h1; exact h1
theorem slot_onto {m s o : Nat} (hs : s < m) : ∃ y, y < m ∧ (y + o) % m = s := by
 refine ⟨(s + (m - o % m)) % m, Nat.mod_lt _ (by omega), ?_⟩
 have ho := Nat.mod_lt o (by omega : 0 < m)
 have hd := Nat.div_add_mod o m
 rw [Nat.mod_add_mod]
 have : s + (m - o % m) + o = s + m * (o / m + 1) := by rw [Nat.mul_add]; omega
 rw [this, Nat.add_mul_mod_self_left, Nat.mod_eq_of_lt hs]
theorem CurI.told (hS : Sim K V id all) (hR : RowI K V id all same grown g n G) (h : CurI K all id same grown g n G eo ei gs was zone) (hei : ei < 8 * n) {j : Nat} (hj : Tgt K all id same grown g G ((ei + eo) % (8 * n)) j) : gs j = false ∧ CurI K all id same grown g n G eo (ei + 1) (flip1 gs j) was zone := by
 have hm : ∀ y, (y + eo) % (8 * n) < 8 * n := fun y => Nat.mod_lt _ (by omega)
 refine ⟨h.c1 ei j (Nat.le_refl _) hei hj, fun y i h1 h2 h3 => ?_, fun i a h1 h2 h3 h4 h5 => ?_⟩
 ·have hne : i ≠ j := fun e => by
   subst e
   have := slot_inj h2 hei (Tgt.inj hS hR (hm _) (hm _) h3 hj)
   omega
  rw [flip1_ne _ hne]; exact h.c1 y i (by omega) h2 h3
 ·have hne : i ≠ j := fun e => by subst e; rw [flip1_self] at h4; cases h4
  rw [flip1_ne _ hne] at h4
  obtain ⟨y, y1, y2, y3⟩ := h.c2 i a h1 h2 h3 h4 h5
  have : y ≠ ei := fun e => by subst e; exact hne (y3.fn hj)
  exact ⟨y, by omega, y2, y3⟩
end
/-- A slot that is dead has nothing to tell; what is told lies in memory. -/
theorem dead_no {X : Scene} {bm : Nat} (hV : MapIs X.K X.H bm X.m X.V) {id : Nat → Nat → Nat} {all : List Ent} (hS : Sim X.K X.V id all) {same grown : Bool} {g n : Nat} {G : Gr} (_hR : RowI X.K X.V id all same grown g n G) {s : Nat} (h : X.dead same grown G s) (j : Nat) : ¬ Tgt X.K all id same grown g G s j := by
 rintro ⟨hf, ht⟩
 rcases h with h | ⟨h1, h2, h3⟩
 ·omega
 ·rcases ht with ⟨a, _⟩ | ⟨_, b⟩ | ⟨_, a, b, _⟩
  ·rw [h1] at a; cases a
  ·rw [hS.find hV, h2] at b; cases b
  ·have : X.K.nan (G.k s) = !X.K.eqk (G.k s) (G.k s) := rfl
   rw [a, ← this, b] at h3; cases h3
theorem told_tgt {X : Scene} {bm : Nat} (hV : MapIs X.K X.H bm X.m X.V) {id : Nat → Nat → Nat} {all : List Ent} (hS : Sim X.K X.V id all) {same grown : Bool} {g n : Nat} {G : Gr} (hR : RowI X.K X.V id all same grown g n G) (hg : X.H g = some (encG n G)) {s : Nat} (hs : s < 8 * n) {ka ea : Addr} (h : X.told same grown g s G ka ea) :
  ∃ j, Tgt X.K all id same grown g G s j ∧ ∃ g' n' G' s' a, X.H g' = some (encG n' G') ∧ s' < 8 * n' ∧ G'.ok ∧ ka = ⟨g', 17 * (s' / 8) + 1 + s' % 8, none⟩ ∧ ea = ⟨g', 17 * (s' / 8) + 9 + s' % 8, none⟩ ∧ all[j]? = some a ∧ a.gone = false ∧ a.elem = G'.e s' ∧ X.K.alike a.key (G'.k s') = true := by
 have alike_of : ∀ a k, (X.K.eqk a k = true ∨ a = k) → X.K.alike a k = true := fun a k h => by
  rcases h with h | h
  ·simp [KT.alike, h]
  ·subst h
   unfold KT.alike KT.nan
   cases X.K.eqk a a <;> rfl
 obtain ⟨hf, h⟩ := h
 rcases h with ⟨h1, h2, h3⟩ | ⟨h1, g', s', h2, h3, h4⟩ | ⟨h1, h2, h3, h4, h5⟩
 ·obtain ⟨a, a1, a2, a3, a4⟩ := hS.live _ _ _ _ (row_live (hR.now h1) hs hf)
  exact ⟨id g s, ⟨hf, .inl ⟨h1, rfl⟩⟩, g, n, G, s, a, hg, hs, hR.sl.ok, h2, h3, a1, a2, a3, alike_of _ _ a4⟩
 ·have hfe : findE X.K all (G.k s) = some (id g' s') := by rw [hS.find hV, h2]; rfl
  obtain ⟨k', e, l1, l2⟩ := findM_some hV h2
  obtain ⟨a, a1, a2, a3, a4⟩ := hS.live _ _ _ _ l1
  obtain ⟨n', G', r1, r2, r3, r4, r5⟩ := live_row l1
  have hok : G'.ok := by
   cases hv : X.V with
   | nil => rw [hv] at r1; exact r1.elim
   | small sg G0 =>
    rw [hv] at r1 hV
    obtain ⟨_, _, rfl⟩ := r1
    exact hV.2.2.2.2.2.1.1.ok
   | big db D =>
    rw [hv] at r1 hV
    obtain ⟨i, hi, _, _, rfl⟩ := r1
    exact (hV.2.2.2.1.tok i hi).sl.ok
  exact ⟨id g' s', ⟨hf, .inr (.inl ⟨h1, hfe⟩)⟩, g', n', G', s', a, hV.grs r1, r2, hok, h3, h4, a1, a2, by rw [a3, r5], by rw [r4]; exact alike_of _ _ a4⟩
 ·obtain ⟨x1, x2⟩ := Bool.and_eq_true_iff.1 h3
  obtain ⟨a, a1, a2, a3, a4⟩ := hR.nan h1 x1 s hs hf x2
  exact ⟨id g s, ⟨hf, .inr (.inr ⟨h1, x1, x2, rfl⟩)⟩, g, n, G, s, a, hg, hs, hR.sl.ok, h4, h5, a1, a2, a4, alike_of _ _ (.inr a3)⟩
end
/-- She walks table t in block b: the hashes of the run c; ahead of it Di hashes are done, counted from O. -/
structure BTab (K : KT) (D : Dir) (V : Mv) (H : Heap) (id : Nat → Nat → Nat) (all : List Ent) (same : Bool) (eo : Nat) (gs : Nat → Bool) (was : List Nat) (O Di b : Nat) (t : Tb) (c ei : Nat) : Prop where
 bO : D.bnd O
 mt : H b = some (encT t)
 mg : H t.gb = some (encG t.n t.G)
 row : RowI K V id all same (decide (t.index = -1)) t.gb t.n t.G
 pow : ∃ p, p ≤ 7 ∧ t.n = 2 ^ p
 cap : t.cap = 8 * t.n
 inD : t.index ≠ -1 → ∃ i, i < 2 ^ D.gd ∧ D.d i = b ∧ D.tab i = t
 out : t.index = -1 → ∀ i, i < 2 ^ D.gd → D.d i ≠ b
 ld : t.ld ≤ D.gd
 cl : c < 2 ^ t.ld
 at_ : (O + Di) % 2 ^ 64 = c * 2 ^ (64 - t.ld)
 fit : Di + 2 ^ (64 - t.ld) ≤ 2 ^ 64
 pre : ∀ s, s < 8 * t.n → t.G.c s < 128 → K.hash (t.G.k s) / 2 ^ (64 - t.ld) = c
 deep : ∀ x, x < 2 ^ 64 → x / 2 ^ (64 - t.ld) = c → t.ld ≤ (D.T (D.at x)).ld
 run : t.index ≠ -1 → ∀ x, x < 2 ^ 64 → x / 2 ^ (64 - t.ld) = c → D.at x = b
 cur : CurI K all id same (decide (t.index = -1)) t.gb t.n t.G eo ei gs was (fun h => h / 2 ^ (64 - t.ld) = c)
 b1 : ∀ j a, all[j]? = some a → a.gone = false → gs j = true → rel O (K.hash a.key) < Di + 2 ^ (64 - t.ld)
 b2 : ∀ j a, all[j]? = some a → a.gone = false → j ∈ was → gs j = false → Di ≤ rel O (K.hash a.key)
/-- She stands between two tables. -/
structure BGap (K : KT) (D : Dir) (all : List Ent) (gs : Nat → Bool) (was : List Nat) (O Di : Nat) : Prop where
 bO : D.bnd O
 bp : Di < 2 ^ 64 → D.bnd ((O + Di) % 2 ^ 64)
 b1 : ∀ j a, all[j]? = some a → a.gone = false → gs j = true → rel O (K.hash a.key) < Di
 b2 : ∀ j a, all[j]? = some a → a.gone = false → j ∈ was → gs j = false → Di ≤ rel O (K.hash a.key)
def BigI (K : KT) (D : Dir) (V : Mv) (H : Heap) (T : Nat → Tb) (id : Nat → Nat → Nat) (all : List Ent) (same : Bool) (eo : Nat) (gs : Nat → Bool) (was : List Nat) (O Di : Nat) (tab : Option Nat) (ei : Nat) : Prop :=
 O < 2 ^ 64 ∧ Di ≤ 2 ^ 64 ∧
 ((Di = 0 ∧ tab = none ∧ ei = 0 ∧ ∀ j, gs j = false) ∨ (tab = none ∧ ei = 0 ∧ BGap K D all gs was O Di) ∨
  ∃ b c, tab = some b ∧ BTab K D V H id all same eo gs was O Di b (T b) c ei)
def BigP (X : Scene) (D : Dir) (id : Nat → Nat → Nat) (all : List Ent) (same : Bool) (eo : Nat) (gs : Nat → Bool) (was : List Nat) (p : Pos) : Prop :=
 BigI X.K D X.V X.H X.T id all same eo gs was (p.off * 2 ^ (64 - D.gd) % 2 ^ 64) (p.di * 2 ^ (64 - D.gd)) p.tab p.ei
theorem pow_split {gd ld : Nat} (hl : ld ≤ gd) (hg : gd ≤ 64) : 2 ^ (gd - ld) * 2 ^ (64 - gd) = 2 ^ (64 - ld) := by
 rw [← Nat.pow_add, show gd - ld + (64 - gd) = 64 - ld by omega]
theorem pow_gd {gd : Nat} (hg : gd ≤ 64) : 2 ^ gd * 2 ^ (64 - gd) = 2 ^ 64 := by
 rw [← Nat.pow_add, show gd + (64 - gd) = 64 by omega]
/-- A table of the directory and her run. -/
theorem Dir.OK.run {K : KT} {D : Dir} (h : D.OK K) {idx c : Nat} (hi : idx < 2 ^ D.gd) (hc : c = idx / 2 ^ (D.gd - (D.tab idx).ld)) :
  c < 2 ^ (D.tab idx).ld ∧ base D.gd (D.tab idx).ld idx * 2 ^ (64 - D.gd) = c * 2 ^ (64 - (D.tab idx).ld) ∧ c * 2 ^ (64 - (D.tab idx).ld) < 2 ^ 64 ∧ D.at (c * 2 ^ (64 - (D.tab idx).ld)) = D.d idx ∧ D.bnd (c * 2 ^ (64 - (D.tab idx).ld)) ∧
   ∀ x, x < 2 ^ 64 → (x / 2 ^ (64 - (D.tab idx).ld) = c ↔ D.at x = D.d idx) := by
 have hg := h.gd64
 have hl : (D.tab idx).ld ≤ D.gd := h.dok.ld idx hi
 have e1 : base D.gd (D.tab idx).ld idx * 2 ^ (64 - D.gd) = c * 2 ^ (64 - (D.tab idx).ld) := by
  unfold base; rw [Nat.mul_assoc, pow_split hl (by omega), ← hc]
 have hcl : c < 2 ^ (D.tab idx).ld := by
  rw [hc, Nat.div_lt_iff_lt_mul (Nat.two_pow_pos _), ← Nat.pow_add, show (D.tab idx).ld + (D.gd - (D.tab idx).ld) = D.gd by omega]; exact hi
 have hx0 : c * 2 ^ (64 - (D.tab idx).ld) < 2 ^ 64 := by
  have := run_fit (ld := (D.tab idx).ld) (by omega) hcl
  have := run_len (ld := (D.tab idx).ld)
  omega
 have e2 : D.at (c * 2 ^ (64 - (D.tab idx).ld)) = D.d idx := by
  rw [← e1]
  show D.d (dirIdx D.gd _) = _
  rw [scale_idx]
  have hb := base_le D.gd (D.tab idx).ld idx
  exact h.dok.same idx _ hi (by omega) (base_base _ _ _).symm
 have hT : D.T (D.at (c * 2 ^ (64 - (D.tab idx).ld))) = D.tab idx := by rw [e2]; rfl
 refine ⟨hcl, e1, hx0, e2, ?_, fun x hx => ⟨fun e => ?_, fun e => ?_⟩⟩
 ·unfold Dir.bnd; rw [hT]; exact Nat.mul_mod_left _ _
 ·rw [← e2]
  refine h.at_same hx0 hx ?_
  rw [hT, e]; exact Nat.mul_div_cancel _ run_len
 ·have := h.same_at hx0 hx (e.trans e2.symm)
  rw [hT, Nat.mul_div_cancel _ run_len] at this
  exact this.symm
theorem wrap_mod {gd off k : Nat} (hg : gd ≤ 64) (hk : k ≤ off % 2 ^ gd) : (off + 2 ^ 64 - k) % 2 ^ 64 % 2 ^ gd = off % 2 ^ gd - k := by
 have hd : 2 ^ gd ∣ 2 ^ 64 := Nat.pow_dvd_pow 2 hg
 rw [Nat.mod_mod_of_dvd _ hd]
 have h1 := Nat.div_add_mod off (2 ^ gd)
 have h2 := Nat.mod_lt off (Nat.two_pow_pos gd)
 have h3 := pow_gd hg
 have e : off + 2 ^ 64 - k = (off % 2 ^ gd - k) + 2 ^ gd * (off / 2 ^ gd + 2 ^ (64 - gd)) := by
  rw [Nat.mul_add, h3]; omega
 rw [e, Nat.add_mul_mod_self_left]
 exact Nat.mod_eq_of_lt (by omega)
theorem pos_mod {gd di off : Nat} (hg : gd ≤ 64) : (off * 2 ^ (64 - gd) % 2 ^ 64 + di * 2 ^ (64 - gd)) % 2 ^ 64 = (di + off) % 2 ^ gd * 2 ^ (64 - gd) := by
 rw [Nat.mod_add_mod, ← Nat.add_mul, Nat.add_comm off, scale_mod hg]
theorem BigP.step {X : Scene} {bm db : Nat} {D : Dir} (hX : X.V = .big db D) (hV : MapIs X.K X.H bm X.m X.V) (hok : X.OK) {id : Nat → Nat → Nat} {all : List Ent} (hS : Sim X.K X.V id all) {same : Bool} {eo : Nat} {gs : Nat → Bool} {was : List Nat} {p q : Pos}
  (h : BigP X D id all same eo gs was p) (hs : X.Step same eo p q) : BigP X D id all same eo gs was q := by
 have hVb := hV
 rw [hX] at hVb
 obtain ⟨_, hmb, hA, hD, hg40⟩ := hVb
 have hg : D.gd ≤ 64 := by omega
 have hp64 := pow_gd hg
 have hpos : 0 < 2 ^ (64 - D.gd) := Nat.two_pow_pos _
 cases hs with
 | @resolve di off idx ix db' D' hv hdi hidx hix hle =>
  rw [hX] at hv; cases hv
  have hil : idx < 2 ^ D.gd := by rw [hidx]; exact Nat.mod_lt _ (Nat.two_pow_pos _)
  have hbase : ix = base D.gd (D.tab idx).ld idx := by have := hD.dok.idx idx hil; rw [show D.T (D.d idx) = D.tab idx from rfl, hix] at this; omega
  obtain ⟨c, hc⟩ : ∃ c, c = idx / 2 ^ (D.gd - (D.tab idx).ld) := ⟨_, rfl⟩
  obtain ⟨r1, r2, r3, r4, r5, r6⟩ := hD.run hil hc
  rw [← hbase] at r2
  have hl : (D.tab idx).ld ≤ D.gd := hD.dok.ld idx hil
  have hpm := pos_mod (di := di) (off := off) hg
  rw [← hidx] at hpm
  have hDi : di * 2 ^ (64 - D.gd) < 2 ^ 64 := by rw [← hp64]; exact Nat.mul_lt_mul_of_pos_right hdi hpos
  obtain ⟨hO, hDi', h⟩ := h
  simp only at hO hDi' h
  -- the offset behind the step
  obtain ⟨O', hO'⟩ : ∃ O', O' = (off + 2 ^ 64 - (idx - ix)) % 2 ^ 64 * 2 ^ (64 - D.gd) % 2 ^ 64 := ⟨_, rfl⟩
  have hkey : (O' + di * 2 ^ (64 - D.gd)) % 2 ^ 64 = c * 2 ^ (64 - (D.tab idx).ld) ∧ D.bnd O' ∧ (∀ j a, all[j]? = some a → a.gone = false → gs j = true → rel O' (X.K.hash a.key) < di * 2 ^ (64 - D.gd)) ∧ (∀ j a, all[j]? = some a → a.gone = false → j ∈ was → gs j = false → di * 2 ^ (64 - D.gd) ≤ rel O' (X.K.hash a.key)) := by
   rcases h with ⟨h1, _, _, h4⟩ | ⟨_, _, hG⟩ | ⟨b, c', hb, _⟩
   ·have hd0 : di = 0 := by
     rcases Nat.eq_zero_or_pos di with e | e
     ·exact e
     ·have := Nat.mul_pos e hpos; omega
    subst hd0
    rw [Nat.zero_add] at hidx
    have e1 : O' = ix * 2 ^ (64 - D.gd) := by
     rw [hO', scale_mod hg, wrap_mod hg (by rw [← hidx]; omega), ← hidx, show idx - (idx - ix) = ix by omega]
    rw [r2] at e1
    refine ⟨?_, ?_, fun j a _ _ hj => ?_, fun j a _ _ _ _ => ?_⟩
    ·rw [e1, Nat.zero_mul, Nat.add_zero, Nat.mod_eq_of_lt r3]
    ·rw [e1]; exact r5
    ·rw [h4] at hj; cases hj
    ·rw [Nat.zero_mul]; exact Nat.zero_le _
   ·have hb := hG.bp hDi
    rw [hpm] at hb
    have hxi : idx * 2 ^ (64 - D.gd) < 2 ^ 64 := by rw [← hp64]; exact Nat.mul_lt_mul_of_pos_right hil hpos
    have hat : D.at (idx * 2 ^ (64 - D.gd)) = D.d idx := by show D.d (dirIdx D.gd _) = _; rw [scale_idx]
    have hz := (r6 _ hxi).2 hat
    have hTx : D.T (D.at (idx * 2 ^ (64 - D.gd))) = D.tab idx := by rw [hat]; rfl
    unfold Dir.bnd at hb
    rw [hTx] at hb
    have e2 := Nat.div_add_mod (idx * 2 ^ (64 - D.gd)) (2 ^ (64 - (D.tab idx).ld))
    rw [hb, hz, Nat.add_zero, Nat.mul_comm, ← r2] at e2
    have e3 : ix = idx := Nat.eq_of_mul_eq_mul_right hpos e2
    have e1 : O' = off * 2 ^ (64 - D.gd) % 2 ^ 64 := by
     rw [hO', scale_mod hg, scale_mod hg, wrap_mod hg (by omega), e3, Nat.sub_self, Nat.sub_zero]
    rw [e1]
    exact ⟨by rw [hpm, ← r2, e3], hG.bO, hG.b1, hG.b2⟩
   ·cases hb
  obtain ⟨k1, k2, k3, k4⟩ := hkey
  have hOl : O' < 2 ^ 64 := by rw [hO']; exact Nat.mod_lt _ (by decide)
  have hTx0 : D.T (D.at (c * 2 ^ (64 - (D.tab idx).ld))) = D.tab idx := by rw [r4]; rfl
  have hpE := run_fit (ld := (D.tab idx).ld) (by omega) r1
  have hfit := zone_fit hOl hDi k1 hpE (by have := hD.bnd_out r3 hOl r5 k2; rw [hTx0] at this; exact this)
  have hidxne : decide ((D.tab idx).index = -1) = false := decide_eq_false (by rw [hix]; omega)
  have hzone : ∀ a : Ent, X.K.hash a.key / 2 ^ (64 - (D.tab idx).ld) = c → di * 2 ^ (64 - D.gd) ≤ rel O' (X.K.hash a.key) := fun a ha =>
   ((zone_rel hOl hfit run_len k1 hpE (X.K.lt _)).1 ((zone_iff run_len).1 ha)).1
  have hrow : RowI X.K X.V id all same (decide ((D.tab idx).index = -1)) (D.tab idx).gb (D.tab idx).n (D.tab idx).G := by
   rw [hidxne]
   exact ⟨(hD.tok idx hil).sl, fun _ => by rw [hX]; exact ⟨idx, hil, rfl, rfl, rfl⟩, fun e => (by cases e), fun e => (by cases e), fun e => (by cases e)⟩
  have hpre : ∀ s, s < 8 * (D.tab idx).n → (D.tab idx).G.c s < 128 → X.K.hash ((D.tab idx).G.k s) / 2 ^ (64 - (D.tab idx).ld) = c := fun s hs hf =>
   (r6 _ (X.K.lt _)).2 (hD.route idx s hil hs hf)
  have hcur : CurI X.K all id same (decide ((D.tab idx).index = -1)) (D.tab idx).gb (D.tab idx).n (D.tab idx).G eo 0 gs was (fun h => h / 2 ^ (64 - (D.tab idx).ld) = c) := by
   have hn := (hD.tok idx hil).npos
   refine ⟨fun y j _ hy hj => ?_, fun j a ha hag _ _ hz => ?_⟩
   ·have hm : (y + eo) % (8 * (D.tab idx).n) < 8 * (D.tab idx).n := Nat.mod_lt _ (by omega)
    obtain ⟨a, a1, a2, a3⟩ := hj.ent hS hrow hm
    cases hgj : gs j with
    | false => rfl
    | true =>
     exfalso
     have h1 := k3 j a a1 a2 hgj
     have h2 := hzone a (by rw [hash_of a3]; exact hpre _ hm hj.1)
     omega
   ·obtain ⟨g, s, k, e, l1, l2⟩ := hS.onto j (liv_iff.2 ⟨a, ha, hag⟩)
    obtain ⟨a', x1, _, _, x4⟩ := hS.live _ _ _ _ l1
    rw [l2, ha] at x1; cases x1
    rw [hX] at l1
    obtain ⟨i, hi, rfl, hs', hf, hk, he⟩ := l1
    have h1 := hD.route i s hi hs' hf
    rw [hk, ← hash_of x4] at h1
    have h2 : D.d i = D.d idx := h1.symm.trans ((r6 _ (X.K.lt _)).1 hz)
    have et : D.tab i = D.tab idx := by unfold Dir.tab; rw [h2]
    rw [et] at hs' hf l2
    obtain ⟨y, y1, y2⟩ := slot_onto (o := eo) hs'
    exact ⟨y, Nat.zero_le _, y1, by rw [y2]; exact hf, .inl ⟨hidxne, by rw [y2]; exact l2.symm⟩⟩
  refine ⟨by rw [← hO']; exact hOl, hDi', .inr (.inr ⟨D.d idx, c, rfl, ?_⟩)⟩
  rw [hok db D idx hX hil, ← hO']
  exact ⟨k2, hA.tabs idx hil, hA.grs idx hil, hrow, (hD.tok idx hil).pow, (hD.tok idx hil).cap, fun _ => ⟨idx, hil, rfl, rfl⟩, fun e => (by rw [hix] at e; omega), hl, r1, k1, hfit, hpre,
   fun x hx hz => by rw [(r6 x hx).1 hz]; exact Nat.le_refl _, fun _ x hx hz => (r6 x hx).1 hz, hcur, fun j a h1 h2 h3 => Nat.lt_of_lt_of_le (k3 j a h1 h2 h3) (Nat.le_add_right _ _), k4⟩
 | @skip di off b ei hei hd =>
  obtain ⟨hO, hDi', h⟩ := h
  rcases h with ⟨_, hb, _⟩ | ⟨hb, _⟩ | ⟨b', c, hb, hT⟩
  ·cases hb
  ·cases hb
  ·cases hb
   exact ⟨hO, hDi', .inr (.inr ⟨b, c, rfl, { hT with cur := hT.cur.skip fun j => dead_no hV hS hT.row hd j }⟩)⟩
 | @next di off b ei hei hld =>
  obtain ⟨hO, hDi', h⟩ := h
  rcases h with ⟨_, hb, _⟩ | ⟨hb, _⟩ | ⟨b', c, hb, hT⟩
  ·cases hb
  ·cases hb
  ·cases hb
   simp only at hO hDi' hT ei
   have hl64 : (X.T b).ld ≤ 64 := by have := hT.ld; omega
   have hE := run_len (ld := (X.T b).ld)
   have hpE := run_fit hl64 hT.cl
   have e1 : (di + 2 ^ (X.m.gd - (X.T b).ld)) * 2 ^ (64 - D.gd) = di * 2 ^ (64 - D.gd) + 2 ^ (64 - (X.T b).ld) := by
    rw [Nat.add_mul, hmb.gd, pow_split hT.ld hg]
   refine ⟨hO, by simp only; rw [e1]; exact hT.fit, .inr (.inl ⟨rfl, rfl, ?_⟩)⟩
   simp only
   rw [e1]
   refine ⟨hT.bO, fun hlt => ?_, hT.b1, fun j a h1 h2 h3 h4 => ?_⟩
   ·have hat := hT.at_
    by_cases hw : c * 2 ^ (64 - (X.T b).ld) + 2 ^ (64 - (X.T b).ld) = 2 ^ 64
    ·have : (off * 2 ^ (64 - D.gd) % 2 ^ 64 + (di * 2 ^ (64 - D.gd) + 2 ^ (64 - (X.T b).ld))) % 2 ^ 64 = 0 := by omega
     rw [this]; exact D.bnd_zero
    ·have : (off * 2 ^ (64 - D.gd) % 2 ^ 64 + (di * 2 ^ (64 - D.gd) + 2 ^ (64 - (X.T b).ld))) % 2 ^ 64 = c * 2 ^ (64 - (X.T b).ld) + 2 ^ (64 - (X.T b).ld) := by omega
     rw [this]; exact hD.bnd_next hl64 (by omega) hT.deep
   ·have h5 := hT.b2 j a h1 h2 h3 h4
    apply Classical.byContradiction
    intro hc
    have hz := (zone_iff hE).2 ((zone_rel hO hT.fit hE hT.at_ hpE (X.K.lt a.key)).2 ⟨h5, by omega⟩)
    obtain ⟨y, y1, y2, _⟩ := hT.cur.c2 j a h1 h2 h3 h4 hz
    omega
 | @over di off b ei ei' hei hle =>
  obtain ⟨hO, hDi', h⟩ := h
  rcases h with ⟨_, hb, _⟩ | ⟨hb, _⟩ | ⟨b', c, hb, hT⟩
  ·cases hb
  ·cases hb
  ·cases hb
   simp only at hT
   refine ⟨hO, hDi', .inr (.inr ⟨b, c, rfl, { hT with cur := ⟨fun y j h1 h2 h3 => ?_, fun j a h1 h2 h3 h4 h5 => ?_⟩ }⟩)⟩
   ·simp only at h1; omega
   ·obtain ⟨y, y1, y2, _⟩ := hT.cur.c2 j a h1 h2 h3 h4 h5
    omega
theorem BigP.steps {X : Scene} {bm db : Nat} {D : Dir} (hX : X.V = .big db D) (hV : MapIs X.K X.H bm X.m X.V) (hok : X.OK) {id : Nat → Nat → Nat} {all : List Ent} (hS : Sim X.K X.V id all) {same : Bool} {eo : Nat} {gs : Nat → Bool} {was : List Nat} {p q : Pos}
  (h : BigP X D id all same eo gs was p) (hs : X.Steps same eo p q) : BigP X D id all same eo gs was q := by
 induction hs with
 | refl => exact h
 | step _ h1 ih => exact ih.step hX hV hok hS h1
/-- At the end all that were there have been produced. -/
theorem BigP.fin {X : Scene} {D : Dir} (hg : D.gd ≤ 64) {id : Nat → Nat → Nat} {all : List Ent} {same : Bool} {eo di off : Nat} {gs : Nat → Bool} {was : List Nat} (h : BigP X D id all same eo gs was ⟨di, off, none, 0⟩) (hdi : 2 ^ D.gd ≤ di) :
  ∀ j, j ∈ was → liv all j = true → gs j = true := by
 intro j hj hl
 obtain ⟨a, h1, h2⟩ := liv_iff.1 hl
 obtain ⟨_, _, h⟩ := h
 have hD : 2 ^ 64 ≤ di * 2 ^ (64 - D.gd) := by rw [← pow_gd hg]; exact Nat.mul_le_mul_right _ hdi
 rcases h with ⟨h3, _⟩ | ⟨_, _, hG⟩ | ⟨b, c, hb, _⟩
 ·simp only at h3; omega
 ·cases hgj : gs j with
  | true => rfl
  | false =>
   have := hG.b2 j a h1 h2 hj hgj
   have := rel_lt (off * 2 ^ (64 - D.gd) % 2 ^ 64) (X.K.hash a.key)
   simp only at *
   omega
 ·cases hb
/-- What is told at her place. -/
theorem BigP.told {X : Scene} {bm : Nat} {D : Dir} (hg : D.gd ≤ 64) (hV : MapIs X.K X.H bm X.m X.V) {id : Nat → Nat → Nat} {all : List Ent} (hS : Sim X.K X.V id all) {same : Bool} {eo : Nat} {gs : Nat → Bool} {was : List Nat} {di off b ei : Nat}
  (h : BigP X D id all same eo gs was ⟨di, off, some b, ei⟩) (hei : ei < 8 * (X.T b).n) {ka ea : Addr} (ht : X.told same (decide ((X.T b).index = -1)) (X.T b).gb ((ei + eo) % (8 * (X.T b).n)) (X.T b).G ka ea) :
  ∃ j, gs j = false ∧ BigP X D id all same eo (flip1 gs j) was ⟨di, off, some b, ei + 1⟩ ∧ ∃ g' n' G' s' a, X.H g' = some (encG n' G') ∧ s' < 8 * n' ∧ G'.ok ∧ ka = ⟨g', 17 * (s' / 8) + 1 + s' % 8, none⟩ ∧ ea = ⟨g', 17 * (s' / 8) + 9 + s' % 8, none⟩ ∧ all[j]? = some a ∧ a.gone = false ∧ a.elem = G'.e s' ∧ X.K.alike a.key (G'.k s') = true := by
 obtain ⟨hO, hDi', h⟩ := h
 rcases h with ⟨_, hb, _⟩ | ⟨hb, _⟩ | ⟨b', c, hb, hT⟩
 ·cases hb
 ·cases hb
 ·cases hb
  simp only at hT
  have hm : (ei + eo) % (8 * (X.T b).n) < 8 * (X.T b).n := Nat.mod_lt _ (by omega)
  obtain ⟨j, hj, hr⟩ := told_tgt hV hS hT.row hT.mg hm ht
  obtain ⟨a, a1, a2, a3⟩ := hj.ent hS hT.row hm
  obtain ⟨q1, q2⟩ := hT.cur.told hS hT.row hei hj
  have hpE := run_fit (ld := (X.T b).ld) (by have := hT.ld; omega) hT.cl
  refine ⟨j, q1, ⟨hO, hDi', .inr (.inr ⟨b, c, rfl, { hT with cur := q2, b1 := fun i x h1 h2 h3 => ?_, b2 := fun i x h1 h2 h3 h4 => ?_ }⟩)⟩, hr⟩
  ·by_cases e : i = j
   ·subst e
    rw [a1] at h1; cases h1
    have hz : X.K.hash a.key / 2 ^ (64 - (X.T b).ld) = c := by rw [hash_of a3]; exact hT.pre _ hm hj.1
    exact ((zone_rel hO hT.fit run_len hT.at_ hpE (X.K.lt _)).1 ((zone_iff run_len).1 hz)).2
   ·rw [flip1_ne _ e] at h3; exact hT.b1 i x h1 h2 h3
  ·have e : i ≠ j := fun e => by subst e; rw [flip1_self] at h4; cases h4
   rw [flip1_ne _ e] at h4; exact hT.b2 i x h1 h2 h3 h4
end Go.Proofs.YtddpfkcofmfmpaaGreatDoor
