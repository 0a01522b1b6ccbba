/- A region that draws its order, by one proof for each of its operations: what one operation does to the world is known of it alone, and what an operation wants stands till its turn comes. -/
import Derived.Test.YtbajengoblcmnaaN18
namespace Go.Proofs.Ytbajengoblcmnaa
open Go.RowKit
set_option linter.unusedVariables false

section
variable {P : Program} {ops : Array Oper} {Q : Exit → Act → World → Prop} {B : World → Prop} {Ext : Nat → World → World → Prop} {F : Nat → Value → World → Prop} {G : Nat → World → Prop} {a0 : Act}

/-- does operation number i wait for number k? -/
def depAt (ops : Array Oper) (i k : Nat) : Bool := match ops[i]? with
  | some o => depB o k
  | none => false

structure TInv (ops : Array Oper) (B : World → Prop) (F : Nat → Value → World → Prop) (G : Nat → World → Prop) (a0 : Act) (listed : Array Bool) (a : Act) (w : World) : Prop where
  inv : RInv ops B F a0 listed a w
  todo : ∀ i, listed.getD i true = false → G i w

/-- one operation's proof -/
def StepT (P : Program) (ops : Array Oper) (Q : Exit → Act → World → Prop) (B : World → Prop) (Ext : Nat → World → World → Prop) (F : Nat → Value → World → Prop) (G : Nat → World → Prop) (a0 : Act) (i : Nat) (o : Oper) : Prop :=
  ∀ (a : Act) (w : World) (K : Act → World → Prop), B w → G i w → (∀ e ∈ o.after.toList, Region.binds .any e = true → F e.on (resAt ops e.on a) w) →
    (∀ t, Late ops i t → a.tmps.getD t undef = a0.tmps.getD t undef) →
    (∀ v w', F i (valOf o v) w' → Ext i w w' → K (a.put o.dst v) w') → if Region.wanted o (yielded ops a.tmps) = true then o.wp P a w K Q else K (a.put o.dst undef) w

theorem RInv.nextT {listed : Array Bool} {a : Act} {w w' : World} {i : Nat} {o : Oper} {v : Value} (hp : plainB ops a0.tmps.size = true) (hB : ∀ i w w', B w → Ext i w w' → B w')
    (hF : ∀ i k v w w', i ≠ k → depAt ops i k = false → B w → Ext k w w' → F i v w → F i v w') (h : RInv ops B F a0 listed a w) (ho : ops[i]? = some o) (hall : ∀ e ∈ o.after, Region.binds .any e = true → listed.getD e.on false = true) (hs : listed.size = ops.size) (hun : listed.getD i false = false) (hf : F i (valOf o v) w') (he : Ext i w w') :
    RInv ops B F a0 (listed.setIfInBounds i true) (a.put o.dst v) w' := by
  have hi : i < ops.size := (Array.getElem?_eq_some_iff.1 ho).1
  have hsp := plainB_spec hp ho
  refine ⟨hB i w w' h.base he, size_put.trans h.size, defs_put.trans h.defs, fun j hj => ?_, fun t ht => ?_, fun j oj hj hoj e he hb => ?_⟩
  · by_cases hji : j = i
    · subst hji
      have e : resAt ops j (a.put o.dst v) = valOf o v := by
        unfold resAt valOf
        rw [ho]
        cases hd : o.dst with
        | none => simp [hd]
        | some t =>
          have ht := (hsp.2 t hd).1
          rw [← h.size] at ht
          simp [hd, Act.put, ht]
      rw [e]
      exact hf
    · rw [getD_set_ne false (Ne.symm hji)] at hj
      have e : resAt ops j (a.put o.dst v) = resAt ops j a := by
        unfold resAt
        cases hd : (ops[j]?).bind (·.dst) with
        | none => rfl
        | some t =>
          simp only []
          refine getD_put fun hdt => ?_
          exact (hsp.2 t hdt).2 j hji hd
      rw [e]
      exact hF j i _ w w' hji (by
        unfold depAt
        cases hoj : ops[j]? with
        | none => rfl
        | some oj =>
          refine List.any_eq_false.2 fun e hem hc => ?_
          simp only [Bool.and_eq_true, beq_iff_eq] at hc
          have h1 := h.closed j oj hj hoj e (by simpa using hem) hc.1
          rw [hc.2, hun] at h1
          cases h1) h.base he (h.fact j hj)
  · have hne : o.dst ≠ some t := by
      have := ht i (by simp [hs, hi])
      rw [ho] at this
      simpa using this
    rw [getD_put hne]
    refine h.rest t fun j hj => ht j ?_
    exact getD_set_true hj
  · by_cases hji : j = i
    · subst hji
      rw [ho] at hoj
      injection hoj with hoj
      subst hoj
      exact getD_set_true (hall e he hb)
    · rw [getD_set_ne false (Ne.symm hji)] at hj
      exact getD_set_true (h.closed j oj hj hoj e he hb)

theorem wpAny_invT (hp : plainB ops a0.tmps.size = true) (hB : ∀ i w w', B w → Ext i w w' → B w') (hF : ∀ i k v w w', i ≠ k → depAt ops i k = false → B w → Ext k w w' → F i v w → F i v w') (hG : ∀ i k w w', i ≠ k → B w → Ext k w w' → G i w → G i w')
    (steps : ∀ i o, ops[i]? = some o → StepT P ops Q B Ext F G a0 i o)
    (done : ∀ a w, B w → a.tmps.size = a0.tmps.size → a.defers = a0.defers → (∀ i, i < ops.size → F i (resAt ops i a) w) →
      (∀ t, (∀ j, j < ops.size → (ops[j]?).bind (·.dst) ≠ some t) → a.tmps.getD t undef = a0.tmps.getD t undef) → Q .normal a w) :
    ∀ (fuel : Nat) (listed : Array Bool) (a : Act) (w : World), listed.size = ops.size → listed.toList.count false ≤ fuel → TInv ops B F G a0 listed a w → wpAny P .any ops Q fuel listed a w := by
  have fin : ∀ (listed : Array Bool) (a : Act) (w : World), listed.size = ops.size → RInv ops B F a0 listed a w → Region.ready .any ops listed = [] → Q .normal a w := fun listed a w hs h hr => by
    have hall := all_listed hp hs hr
    exact done a w h.base h.size h.defs (fun i hi => h.fact i (hall i hi)) (fun t ht => h.rest t (fun j hj => ht j (by
      rcases Nat.lt_or_ge j listed.size with h' | h'
      · omega
      · simp [Array.getElem?_eq_none h'] at hj)))
  intro fuel
  induction fuel with
  | zero =>
    intro listed a w hs hc h
    have hr : Region.ready .any ops listed = [] := by
      apply List.eq_nil_iff_forall_not_mem.2
      intro j hj
      have := count_next (mem_ready.1 hj).1
      omega
    exact ⟨hr, fin listed a w hs h.inv hr⟩
  | succ fuel ih =>
    intro listed a w hs hc h
    refine ⟨fin listed a w hs h.inv, fun i hi => ?_⟩
    obtain ⟨hun, o, ho, hall⟩ := mem_ready.1 hi
    have hcn := count_next hun
    have st := steps i o ho a w (fun a' w' => wpAny P .any ops Q fuel (listed.setIfInBounds i true) a' w') h.inv.base (h.todo i hun)
      (fun e he hb => h.inv.fact e.on (hall e (by simpa using he) hb))
      (fun t ht => h.inv.rest t (fun j hj hd => by
        cases hoj : ops[j]? with
        | none => rw [hoj] at hd; cases hd
        | some oj =>
          rw [hoj] at hd
          obtain ⟨e, he, hb, hei⟩ := ht j oj hoj hd
          have h1 := h.inv.closed j oj hj hoj e he hb
          rw [hei] at h1
          rcases Nat.lt_or_ge i listed.size with h' | h'
          · simp [h'] at h1 hun
            rw [h1] at hun
            cases hun
          · simp [Array.getElem?_eq_none h'] at h1))
      (fun v w' hf he => ih _ _ _ (by simpa using hs) (by omega) ⟨h.inv.nextT hp hB hF ho hall hs (by
        rcases Nat.lt_or_ge i listed.size with h' | h'
        · simp [h'] at hun ⊢
          exact hun
        · simp [Array.getElem?_eq_none h']) hf he, fun j hj => by
        have hji : j ≠ i := fun e => by
          subst e
          have hjs : j < listed.size := by
            rcases Nat.lt_or_ge j listed.size with h' | h'
            · exact h'
            · simp [Array.getElem?_eq_none h'] at hun
          simp [hjs] at hj
        have hj' : listed.getD j true = false := by
          rw [getD_set_ne true (Ne.symm hji)] at hj
          exact hj
        exact hG j i _ _ hji h.inv.base he (h.todo j hj')⟩)
    unfold wpOp
    simp only [ho]
    split
    · rename_i hw
      rw [if_pos hw] at st
      exact .inl st
    · rename_i hw
      rw [if_neg hw] at st
      exact st


/-- one operation, its conditions as Bools -/
def MetT (P : Program) (ops : Array Oper) (Q : Exit → Act → World → Prop) (B : World → Prop) (Ext : Nat → World → World → Prop) (F : Nat → Value → World → Prop) (G : Nat → World → Prop) (a0 : Act) (i : Nat) (o : Oper) : Prop :=
  ∀ (a : Act) (w : World) (K : Act → World → Prop), B w → G i w → (∀ j, depB o j = true → F j (resAt ops j a) w) → (∀ t, lateB ops i t = true → a.tmps.getD t undef = a0.tmps.getD t undef) →
    (∀ v w', F i (valOf o v) w' → Ext i w w' → K (a.put o.dst v) w') → o.wp P a w K Q
def AllMetT (P : Program) (ops : Array Oper) (Q : Exit → Act → World → Prop) (B : World → Prop) (Ext : Nat → World → World → Prop) (F : Nat → Value → World → Prop) (G : Nat → World → Prop) (a0 : Act) : Nat → List Oper → Prop
  | _, [] => True
  | k, o :: r => (o.guard = none ∧ MetT P ops Q B Ext F G a0 k o) ∧ AllMetT P ops Q B Ext F G a0 (k + 1) r
theorem allMetT_at {l : List Oper} : ∀ (r : List Oper) (k : Nat), AllMetT P l.toArray Q B Ext F G a0 k r → ∀ i o, r[i]? = some o → o.guard = none ∧ MetT P l.toArray Q B Ext F G a0 (k + i) o
  | [], _, _, _, _, h => by simp at h
  | x :: r, k, hm, 0, o, h => by
    simp at h
    subst h
    exact hm.1
  | x :: r, k, hm, i + 1, o, h => by
    have := allMetT_at r (k + 1) hm.2 i o (by simpa using h)
    rwa [show k + (i + 1) = k + 1 + i from by omega]
theorem wp_region_turn {id : Nat} {w : World} {l : List Oper} (hm : P.follows .mixedOrders = true) (B : World → Prop) (Ext : Nat → World → World → Prop) (F : Nat → Value → World → Prop) (G : Nat → World → Prop) (hp : plainB l.toArray a0.tmps.size = true)
    (hB : ∀ i w w', B w → Ext i w w' → B w') (hF : ∀ i k v w w', i ≠ k → depAt l.toArray i k = false → B w → Ext k w w' → F i v w → F i v w') (hG : ∀ i k w w', i ≠ k → B w → Ext k w w' → G i w → G i w') (h0 : B w.drew) (hG0 : ∀ i, G i w.drew) (steps : AllMetT P l.toArray Q B Ext F G a0 0 l)
    (done : ∀ a w, B w → a.tmps.size = a0.tmps.size → a.defers = a0.defers → (∀ i, decide (i < l.length) = true → F i (resAt l.toArray i a) w) →
      (∀ t, freeB l.toArray t = true → a.tmps.getD t undef = a0.tmps.getD t undef) → Q .normal a w) : (Code.region id l.toArray true).wp P Q a0 w := by
  refine wp_region_any hm (wpAny_invT hp hB hF hG (fun i o ho => ?_) (fun a w b1 b2 b3 b4 b5 => done a w b1 b2 b3 (fun i hi => b4 i (by simpa using hi)) (fun t ht => b5 t (freeB_of ht))) _ _ _ _ (by simp) ?_
    ⟨⟨h0, rfl, rfl, fun i hi => absurd hi (none_yet _ _), fun t _ => rfl, fun j _ hj _ _ _ _ => absurd hj (none_yet _ _)⟩, fun i _ => hG0 i⟩)
  · have hl : l[i]? = some o := by simpa using ho
    obtain ⟨hg, hmet⟩ := allMetT_at l 0 steps i o hl
    rw [Nat.zero_add] at hmet
    intro a w K c1 cg c2 c3 c4
    rw [if_pos (by simp [Region.wanted, hg])]
    refine hmet a w K c1 cg (fun j hj => ?_) (fun t ht => c3 t (late_of ht)) c4
    obtain ⟨e, he, hb⟩ := List.any_eq_true.1 hj
    simp only [Bool.and_eq_true, beq_iff_eq] at hb
    rw [← hb.2]
    exact c2 e he hb.1
  · refine Nat.le_trans List.count_le_length (by simp)
end

/-- the slots that a region writes -/
def dstsOf (l : List Oper) : List Nat := l.filterMap (·.dst)
theorem getD_setD (T : Array Value) (d t : Nat) (v : Value) : (T.setIfInBounds d v).getD t undef = if d = t ∧ t < T.size then v else T.getD t undef := by
  by_cases h : d = t
  · subst h
    by_cases h2 : d < T.size
    · simp [h2]
    · simp [h2]
  · simp [h, Array.getElem?_setIfInBounds_ne h]
theorem fold_size (f : Nat → Value) : ∀ (ds : List Nat) (T : Array Value), (ds.foldl (fun T d => T.setIfInBounds d (f d)) T).size = T.size
  | [], T => rfl
  | d :: ds, T => by rw [List.foldl_cons, fold_size f ds]; simp
theorem fold_getD (f : Nat → Value) : ∀ (ds : List Nat) (T : Array Value) (t : Nat), t < T.size → (ds.foldl (fun T d => T.setIfInBounds d (f d)) T).getD t undef = if t ∈ ds then f t else T.getD t undef
  | [], T, t, h => by simp
  | d :: ds, T, t, h => by
    rw [List.foldl_cons, fold_getD f ds _ t (by simpa using h), getD_setD]
    by_cases h1 : t ∈ ds
    · simp [h1]
    · by_cases h2 : d = t
      · subst h2; simp [h]
      · simp [h1, h2, Ne.symm h2]
theorem act_upd {l : List Oper} {ds : List Nat} (hds : dstsOf l = ds) {a a0 : Act} (hs : a.tmps.size = a0.tmps.size) (hd : a.defers = a0.defers) (h : ∀ t, freeB l.toArray t = true → a.tmps.getD t undef = a0.tmps.getD t undef) :
    ∃ f : Nat → Value, (∀ t, f t = a.tmps.getD t undef) ∧ a = ⟨ds.foldl (fun T d => T.setIfInBounds d (f d)) a0.tmps, a0.defers⟩ := by
  subst hds
  refine ⟨fun t => a.tmps.getD t undef, fun _ => rfl, ?_⟩
  obtain ⟨T, D⟩ := a
  obtain ⟨T0, D0⟩ := a0
  simp only at hs hd h ⊢
  subst hd
  congr 1
  apply Array.ext
  · rw [fold_size]; exact hs
  · intro t h1 h2
    have hx : ∀ (X : Array Value) (hx : t < X.size), X[t] = X.getD t undef := fun X hx => by simp [hx]
    have e1 : T[t] = T.getD t undef := hx T h1
    have e2 := fold_getD (fun t => T.getD t undef) (dstsOf l) T0 t (by omega)
    have e3 : ((dstsOf l).foldl (fun T' d => T'.setIfInBounds d (T.getD d undef)) T0)[t] = ((dstsOf l).foldl (fun T' d => T'.setIfInBounds d (T.getD d undef)) T0).getD t undef := hx _ h2
    rw [e1, e3, e2]
    by_cases hm : t ∈ dstsOf l
    · rw [if_pos hm]
    · rw [if_neg hm]
      refine h t ?_
      unfold freeB
      refine List.all_eq_true.2 fun o ho => ?_
      cases hdo : o.dst with
      | none => rfl
      | some d =>
        have : d ≠ t := fun e => hm (List.mem_filterMap.2 ⟨o, ho, by rw [hdo, e]⟩)
        simp [this]

/-- a block keeps its element type -/
def Kinds (z1 z2 : World) : Prop := ∀ (k : Nat) (C : Array Value) (e : TypeId), z1.heap[k]? = some (.cells C e (0, 0)) → ∃ C', z2.heap[k]? = some (.cells C' e (0, 0))
theorem Kinds.refl (z : World) : Kinds z z := fun k C e h => ⟨C, h⟩
theorem Kinds.trans {a b c : World} (h : Kinds a b) (h' : Kinds b c) : Kinds a c := fun k C e hk => by
  obtain ⟨C', h1⟩ := h k C e hk
  exact h' k C' e h1
theorem Kinds.alloc (z : World) (o : Obj) : Kinds z (z.alloc o) := fun k C e h => ⟨C, (Below.heap_alloc _ _ _ (Array.getElem?_eq_some_iff.1 h).1).trans h⟩
/-- what the law's region leaves alone: all but the blocks of two rows -/
structure Frm (W : World) (vs vt : Value) (z : World) : Prop where
  size : W.heap.size ≤ z.heap.size
  os : z.os = W.os
  tape : z.tape = W.tape
  output : z.output = W.output
  blk : ∀ k : Nat, k < W.heap.size → some k ≠ vs.ownBlock → some k ≠ vt.ownBlock → z.heap[k]? = W.heap[k]?
  kinds : Kinds W z
def rowAt (vs vt : Value) (i : Nat) : Option Nat := if i = 3 then vs.ownBlock else if i = 7 then vt.ownBlock else none
def ExtOf (vs vt : Value) (i : Nat) (z1 z2 : World) : Prop := z1.grownBy z2 (rowAt vs vt i) ∧ Kinds z1 z2
theorem ExtOf.refl (vs vt : Value) (i : Nat) (z : World) : ExtOf vs vt i z z := ⟨⟨rfl, rfl, rfl, Nat.le_refl _, fun _ _ _ => rfl⟩, Kinds.refl z⟩
theorem ExtOf.alloc (vs vt : Value) (i : Nat) (z : World) (o : Obj) : ExtOf vs vt i z (z.alloc o) := ⟨World.grownBy_alloc _ _ _, Kinds.alloc z o⟩
theorem Frm.start (W : World) (vs vt : Value) : Frm W vs vt W.drew := ⟨Nat.le_refl _, rfl, rfl, rfl, fun _ _ _ _ => rfl, Kinds.refl _⟩
theorem Frm.next {W z1 z2 : World} {vs vt : Value} {i : Nat} (h : Frm W vs vt z1) (he : ExtOf vs vt i z1 z2) : Frm W vs vt z2 := by
  refine ⟨Nat.le_trans h.size he.1.size, he.1.os.trans h.os, he.1.tape.trans h.tape, he.1.output.trans h.output, fun k hk h1 h2 => (he.1.block k (Nat.lt_of_lt_of_le hk h.size) ?_).trans (h.blk k hk h1 h2), h.kinds.trans he.2⟩
  unfold rowAt
  split
  · exact h1
  · split
    · exact h2
    · simp
/-- a value's own block is of a type -/
def Typed (W : World) (v : Value) (e : TypeId) : Prop := ∀ k : Nat, v.ownBlock = some k → ∃ C, W.heap[k]? = some (.cells C e (0, 0))
theorem typed_own {W : World} {B e size n : Nat} {v : Value} {xs : List Value} (h : W.ownsRow B e size v n xs) : Typed W v e := fun k hk => by
  rcases h.2 with ⟨rfl, _⟩ | ⟨g, cap, cur, rfl, _, hg, _⟩
  · cases hk
  · cases hk
    exact ⟨cur, hg⟩
theorem keep_block {W z1 z2 : World} {vs vt : Value} {k g : Nat} {C : Array Value} {e : TypeId} (hs : Typed W vs 29) (ht : Typed W vt 33) (h : Frm W vs vt z1) (he : ExtOf vs vt k z1 z2) (hg : z1.heap[g]? = some (.cells C e (0, 0)))
    (h1 : e ≠ 29 ∨ k ≠ 3 ∨ some g ≠ vs.ownBlock) (h2 : e ≠ 33 ∨ k ≠ 7 ∨ some g ≠ vt.ownBlock) : z2.heap[g]? = z1.heap[g]? := by
  refine he.1.block g (Array.getElem?_eq_some_iff.1 hg).1 ?_
  unfold rowAt
  split
  · rename_i hk
    intro e'
    rcases h1 with h1 | h1 | h1
    · obtain ⟨C1, hC1⟩ := hs g e'.symm
      obtain ⟨C2, hC2⟩ := h.kinds g C1 _ hC1
      rw [hC2] at hg
      simp at hg
      exact h1 hg.2.symm
    · exact h1 hk
    · exact h1 e'
  · split
    · rename_i hk
      intro e'
      rcases h2 with h2 | h2 | h2
      · obtain ⟨C1, hC1⟩ := ht g e'.symm
        obtain ⟨C2, hC2⟩ := h.kinds g C1 _ hC1
        rw [hC2] at hg
        simp at hg
        exact h2 hg.2.symm
      · exact h2 hk
      · exact h2 e'
    · simp
theorem keep_own {W z1 z2 : World} {vs vt : Value} {k B e size n : Nat} {v : Value} {xs : List Value} (hs : Typed W vs 29) (ht : Typed W vt 33) (h : Frm W vs vt z1) (he : ExtOf vs vt k z1 z2) (ho : z1.ownsRow B e size v n xs)
    (h1 : e ≠ 29 ∨ k ≠ 3) (h2 : e ≠ 33 ∨ k ≠ 7) : z2.ownsRow B e size v n xs := by
  refine ⟨ho.1, ?_⟩
  rcases ho.2 with h3 | ⟨g, cap, cur, e1, e2, e3, r⟩
  · exact .inl h3
  · exact .inr ⟨g, cap, cur, e1, e2, (keep_block hs ht h he e3 (h1.imp id .inl) (h2.imp id .inl)).trans e3, r⟩
def LitAt (z : World) (v : Value) (e : TypeId) (C : Array Value) (v0 : Value) : Prop := ∃ g, v = .slice (some ⟨g, 0, none⟩) 1 1 ∧ z.heap[g]? = some (.cells C e (0, 0)) ∧ some g ≠ v0.ownBlock
def s3 (s : Step) : Array Value := #[.int .i64 s.1, .int .i64 s.2.1, .string s.2.2]
def t5 (x : Told × Value) : Array Value := #[.bool x.1.ok, .bool x.1.yes, .int .i64 x.1.n, x.2, .string x.1.data]
/-- what each operation of the law's region leaves -/
def F20 (B : Nat) (s : Step) (M : List Step) (P : List (Told × Value)) (x : Told × Value) (vs vt vm : Value) (i : Nat) (v : Value) (z : World) : Prop :=
  match i with
  | 0 => v = vs
  | 1 => v = .agg (s3 s)
  | 2 => LitAt z v 29 (s3 s) vs
  | 3 => z.ownsRow B 29 3 v (M.length + 1) (flatS M ++ (s3 s).toList)
  | 4 => v = vt
  | 5 => v = .agg (t5 x)
  | 6 => LitAt z v 33 (t5 x) vt
  | 7 => z.ownsRow B 33 5 v (P.length + 1) (flatT P ++ (t5 x).toList)
  | 8 => v = vm
  | 9 => z.ownsRow B 29 3 v (M.length + 1) (flatS M ++ (s3 s).toList)
  | 10 => z.ownsRow B 33 5 v (P.length + 1) (flatT P ++ (t5 x).toList)
  | 11 => v = vm
  | _ => True
def G20 (B : Nat) (M : List Step) (P : List (Told × Value)) (vs vt : Value) (i : Nat) (z : World) : Prop :=
  match i with
  | 3 => z.ownsRow B 29 3 vs M.length (flatS M)
  | 7 => z.ownsRow B 33 5 vt P.length (flatT P)
  | _ => True
theorem F20_keep {W z1 z2 : World} {B : Nat} {s : Step} {M : List Step} {P : List (Told × Value)} {x : Told × Value} {vs vt vm v : Value} {i k : Nat} (hs : Typed W vs 29) (ht : Typed W vt 33) (hik : i ≠ k) (h9 : ¬ (i = 9 ∧ k = 3)) (h10 : ¬ (i = 10 ∧ k = 7))
    (h : Frm W vs vt z1) (he : ExtOf vs vt k z1 z2) (hf : F20 B s M P x vs vt vm i v z1) : F20 B s M P x vs vt vm i v z2 := by
  match i, hf with
  | 0, hf => exact hf
  | 1, hf => exact hf
  | 2, hf =>
    obtain ⟨g, e, hg, hn⟩ := hf
    exact ⟨g, e, (keep_block hs ht h he hg (.inr (.inr hn)) (.inl (by decide))).trans hg, hn⟩
  | 3, hf => exact keep_own hs ht h he hf (.inr (Ne.symm hik)) (.inl (by decide))
  | 4, hf => exact hf
  | 5, hf => exact hf
  | 6, hf =>
    obtain ⟨g, e, hg, hn⟩ := hf
    exact ⟨g, e, (keep_block hs ht h he hg (.inl (by decide)) (.inr (.inr hn))).trans hg, hn⟩
  | 7, hf => exact keep_own hs ht h he hf (.inl (by decide)) (.inr (Ne.symm hik))
  | 8, hf => exact hf
  | 9, hf => exact keep_own hs ht h he hf (.inr fun e => h9 ⟨rfl, e⟩) (.inl (by decide))
  | 10, hf => exact keep_own hs ht h he hf (.inl (by decide)) (.inr fun e => h10 ⟨rfl, e⟩)
  | 11, hf => exact hf
  | (n + 12), hf => exact trivial
theorem G20_keep {W z1 z2 : World} {B : Nat} {M : List Step} {P : List (Told × Value)} {vs vt : Value} {i k : Nat} (hs : Typed W vs 29) (ht : Typed W vt 33) (hik : i ≠ k)
    (h : Frm W vs vt z1) (he : ExtOf vs vt k z1 z2) (hf : G20 B M P vs vt i z1) : G20 B M P vs vt i z2 := by
  unfold G20 at hf ⊢
  split
  · exact keep_own hs ht h he hf (.inr (Ne.symm hik)) (.inl (by decide))
  · exact keep_own hs ht h he hf (.inl (by decide)) (.inr (Ne.symm hik))
  · trivial
section
variable {P : Program} (w : World)
theorem append_kinds (base : Nat) (t ty e : TypeId) (i : TypeInfo) (z : Value) (size bytes : Nat) (ht : P.underlying t = some (.slice e)) (hi : P.info? e = some i) (hz : i.zero = some z)
    (hsize : i.size = size) (hby : i.bytes = bytes) (v : Value) (n : Nat) (xs : List Value) (hown : w.ownsRow base e size v n xs)
    (a : Addr) (m c : Nat) (news : List Value) (hl : news.length = m * size) (hnews : ∀ j u, news[j]? = some u → w.cell? (a.add j) = some u) (h1 : ∀ u ∈ news, u.oneCell' = true) (hm : 0 < m)
    (h63 : n + m ≤ maxLen) (hbytes : (n + m) * bytes ≤ 140737488355328) {v' : Value} {w' : World} (hr : (Builtin.append_ #[t, t] ty #[v, .slice (some a) m c]).run P w = .ok v' w') : Kinds w w' := by
  subst hsize
  subst hby
  have hsmall : n + m ≤ 9223372036854775807 := by simp only [maxLen] at h63; omega
  rcases hown.2 with ⟨rfl, rfl⟩ | ⟨g, cap, cur, rfl, hbg, hg, hnc, hcm, hcs, htake⟩
  · rw [run_append_nil (P := P) w t ty e i z ht hi hz a m c news hl hnews hm (by omega) (by have hb := hbytes; simp only [Nat.zero_add] at hb; omega)] at hr
    injection hr with _ hr
    subst hr
    exact Kinds.alloc w.drew _
  · by_cases hroom : n + m ≤ cap
    · rw [run_append_room (P := P) w t ty e i ht hi g n cap cur hg a m c news hl hnews h1 hroom (by rw [hl, hcs, ← Nat.add_mul]; exact Nat.mul_le_mul_right _ hroom)] at hr
      injection hr with _ hr
      subst hr
      intro k C e' hk
      by_cases hkg : k = g
      · subst hkg
        rw [hg] at hk
        simp only [Option.some.injEq, Obj.cells.injEq] at hk
        obtain ⟨_, rfl, _⟩ := hk
        exact ⟨_, setRow_heap w k cur _ _ _ hg⟩
      · exact ⟨C, (setRow_other w g k _ hkg).trans hk⟩
    · rw [run_append_grow (P := P) w t ty e i z ht hi hz ⟨g, 0, none⟩ n cap xs hown.1 (hown.cells (g := g) rfl) a m c news hl hnews (by omega) (by omega) (growslice_fits (by omega) hbytes)] at hr
      injection hr with _ hr
      subst hr
      exact Kinds.alloc w.drew _
theorem wp_append_kinds {o : Oper} {a : Act} {K : Act → World → Prop} {Q : Exit → Act → World → Prop} (s x : Operand) (t : TypeId)
    (ho : o.op = .call { callee := .builtin .append, args := #[s, x], argTypes := #[t, t] })
    (base : Nat) (e : TypeId) (i : TypeInfo) (z : Value) (size bytes : Nat) (ht : P.underlying t = some (.slice e)) (hi : P.info? e = some i) (hz : i.zero = some z)
    (hsize : i.size = size) (hby : i.bytes = bytes) (hzs : z.cells.size = size) (hsz : 0 < size)
    (v : Value) (n : Nat) (xs : List Value) (hs : a.eval s = v) (hown : w.ownsRow base e size v n xs)
    (ad : Addr) (m c : Nat) (news : List Value) (hx : a.eval x = .slice (some ad) m c) (hl : news.length = m * size) (hnews : ∀ j u, news[j]? = some u → w.cell? (ad.add j) = some u) (h1 : ∀ u ∈ news, u.oneCell' = true) (hm : 0 < m)
    (h63 : n + m ≤ maxLen) (hbytes : (n + m) * bytes ≤ 140737488355328) (hbase : base ≤ w.heap.size)
    (h : ∀ v' w', w'.ownsRow base e size v' (n + m) (xs ++ news) → w.grownBy w' v.ownBlock → Kinds w w' → K (a.put o.dst v') w') : o.wp P a w K Q := by
  obtain ⟨v', w', hr, h2, h3, h4⟩ := run_append_own (P := P) w base t o.type e i z size bytes ht hi hz hsize hby hzs hsz v n xs hown ad m c news hl hnews h1 h63 hbytes hbase
  have hk := append_kinds (P := P) w base t o.type e i z size bytes ht hi hz hsize hby v n xs hown ad m c news hl hnews h1 hm h63 hbytes hr
  unfold Oper.wp execOp
  simp only [ho, resolve, invoke, builtin, Sem.run_bind, Sem.run_pure, Result.andThen_ok, List.map_toArray, List.map_cons, List.map_nil, hs, hx, hr]
  exact h v' w' h2 h3 hk
end
end Go.Proofs.Ytbajengoblcmnaa
