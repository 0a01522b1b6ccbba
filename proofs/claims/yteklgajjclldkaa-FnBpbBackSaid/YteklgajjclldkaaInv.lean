/- A region that draws its order, by one proof for each of its operations, whatever the order. -/
import Derived.Test.YteklgajjclldkaaRows
import Derived.WalkKit
import Derived.Orders
namespace Go.Proofs.Yteklgajjclldkaa
open Go.RowKit

/-- what operation number i has left in its slot -/
def resAt (ops : Array Oper) (i : Nat) (a : Act) : Value :=
  match (ops[i]?).bind (·.dst) with
  | some t => a.tmps.getD t undef
  | none => undef
/-- what an operation's value counts as: nothing, where it has no slot -/
def valOf (o : Oper) (v : Value) : Value :=
  match o.dst with
  | some _ => v
  | none => undef
/-- every edge leads backward, no two operations write one slot, each slot is there -/
def plainB (ops : Array Oper) (n : Nat) : Bool :=
  (List.range ops.size).all fun i =>
    match ops[i]? with
    | some o => o.after.toList.all (fun e => !Region.binds .any e || decide (e.on < i)) &&
        (match o.dst with
         | some t => decide (t < n) && (List.range ops.size).all (fun j => j == i || ((ops[j]?).bind (·.dst)) != some t)
         | none => true)
    | none => true

section
variable {P : Program} {ops : Array Oper} {Q : Exit → Act → World → Prop} {B : World → Prop} {Ext : World → World → Prop} {F : Nat → Value → World → Prop} {a0 : Act}

structure RInv (ops : Array Oper) (B : World → Prop) (F : Nat → Value → World → Prop) (a0 : Act) (listed : Array Bool) (a : Act) (w : World) : Prop where
  base : B w
  size : a.tmps.size = a0.tmps.size
  defs : a.defers = a0.defers
  fact : ∀ i, listed.getD i false = true → F i (resAt ops i a) w
  rest : ∀ t, (∀ i, listed.getD i false = true → (ops[i]?).bind (·.dst) ≠ some t) → a.tmps.getD t undef = a0.tmps.getD t undef
  closed : ∀ j o, listed.getD j false = true → ops[j]? = some o → ∀ e ∈ o.after, Region.binds .any e = true → listed.getD e.on false = true

/-- slot t is written, if at all, behind operation i alone -/
def Late (ops : Array Oper) (i t : Nat) : Prop := ∀ (j : Nat) (oj : Oper), ops[j]? = some oj → oj.dst = some t → ∃ e, e ∈ oj.after ∧ Region.binds .any e = true ∧ e.on = i
/-- ONE OPERATION'S PROOF: from any frame in which what it waits for holds, and in which the slots that are not written yet are as they were. -/
def StepOk (P : Program) (ops : Array Oper) (Q : Exit → Act → World → Prop) (B : World → Prop) (Ext : World → World → Prop) (F : Nat → Value → World → Prop) (a0 : Act) (i : Nat) (o : Oper) : Prop :=
  ∀ (a : Act) (w : World) (K : Act → World → Prop), B w → (∀ e ∈ o.after.toList, Region.binds .any e = true → F e.on (resAt ops e.on a) w) →
    (∀ t, Late ops i t → a.tmps.getD t undef = a0.tmps.getD t undef) →
    (∀ v w', F i (valOf o v) w' → Ext w w' → K (a.put o.dst v) w') → if Region.wanted o (yielded ops a.tmps) = true then o.wp P a w K Q else K (a.put o.dst undef) w

theorem plainB_spec {n : Nat} (h : plainB ops n = true) {i : Nat} {o : Oper} (ho : ops[i]? = some o) :
    (∀ e ∈ o.after, Region.binds .any e = true → e.on < i) ∧ (∀ t, o.dst = some t → t < n ∧ ∀ j, j ≠ i → (ops[j]?).bind (·.dst) ≠ some t) := by
  have hi : i < ops.size := (Array.getElem?_eq_some_iff.1 ho).1
  have h1 := List.all_eq_true.1 h i (List.mem_range.2 hi)
  simp only [ho, Bool.and_eq_true, List.all_eq_true, Bool.or_eq_true, Bool.not_eq_true', decide_eq_true_eq] at h1
  refine ⟨fun e he hb => (h1.1 e (by simpa using he)).resolve_left (by simp [hb]), fun t ht => ?_⟩
  have h2 := h1.2
  simp only [ht, Bool.and_eq_true, decide_eq_true_eq] at h2
  refine ⟨h2.1, fun j hj => ?_⟩
  rcases Nat.lt_or_ge j ops.size with hjs | hjs
  · have h3 := List.all_eq_true.1 h2.2 j (List.mem_range.2 hjs)
    simpa [hj] using h3
  · rw [Array.getElem?_eq_none hjs]
    simp

theorem all_listed {n : Nat} (h : plainB ops n = true) {listed : Array Bool} (hs : listed.size = ops.size) (hr : Region.ready .any ops listed = []) : ∀ i, i < ops.size → listed.getD i false = true := by
  intro i
  induction i using Nat.strongRecOn with
  | _ i ih =>
    intro hi
    have ho : ops[i]? = some ops[i] := Array.getElem?_eq_getElem hi
    have he := (plainB_spec h ho).1
    cases hg : listed.getD i false with
    | true => rfl
    | false =>
      exfalso
      have hmem : i ∈ Region.ready .any ops listed := mem_ready.2 ⟨by
        have hl : i < listed.size := by omega
        simp [hl] at hg ⊢
        exact hg, _, ho, fun e hem hb => ih e.on (he e hem hb) (Nat.lt_trans (he e hem hb) hi)⟩
      rw [hr] at hmem
      cases hmem

theorem getD_put {a : Act} {d : Option Tmp} {v : Value} {t : Nat} (h : d ≠ some t) : (a.put d v).tmps.getD t undef = a.tmps.getD t undef := by
  cases d with
  | none => rfl
  | some d =>
    have hne : d ≠ t := fun e => h (by rw [e])
    simp [Act.put, Array.getElem?_setIfInBounds_ne hne]

theorem size_put {a : Act} {d : Option Tmp} {v : Value} : (a.put d v).tmps.size = a.tmps.size := by cases d <;> simp [Act.put]
theorem defs_put {a : Act} {d : Option Tmp} {v : Value} : (a.put d v).defers = a.defers := by cases d <;> rfl

theorem RInv.next {listed : Array Bool} {a : Act} {w w' : World} {i : Nat} {o : Oper} {v : Value} (hp : plainB ops a0.tmps.size = true) (hB : ∀ w w', B w → Ext w w' → B w')
    (hF : ∀ i v w w', B w → Ext w w' → F i v w → F i v w') (h : RInv ops B F a0 listed a w) (ho : ops[i]? = some o) (hall : ∀ e ∈ o.after, Region.binds .any e = true → listed.getD e.on false = true) (hs : listed.size = ops.size) (hf : F i (valOf o v) w') (he : Ext w w') :
    RInv ops B F a0 (listed.setIfInBounds i true) (a.put o.dst v) w' := by
  have hi : i < ops.size := (Array.getElem?_eq_some_iff.1 ho).1
  have hsp := plainB_spec hp ho
  refine ⟨hB w w' h.base he, size_put.trans h.size, defs_put.trans h.defs, fun j hj => ?_, fun t ht => ?_, fun j oj hj hoj e he hb => ?_⟩
  · by_cases hji : j = i
    · subst hji
      have e : resAt ops j (a.put o.dst v) = valOf o v := by
        unfold resAt valOf
        rw [ho]
        cases hd : o.dst with
        | none => simp [hd]
        | some t =>
          have ht := (hsp.2 t hd).1
          rw [← h.size] at ht
          simp [hd, Act.put, ht]
      rw [e]
      exact hf
    · rw [getD_set_ne false (Ne.symm hji)] at hj
      have e : resAt ops j (a.put o.dst v) = resAt ops j a := by
        unfold resAt
        cases hd : (ops[j]?).bind (·.dst) with
        | none => rfl
        | some t =>
          simp only []
          refine getD_put fun hdt => ?_
          exact (hsp.2 t hdt).2 j hji hd
      rw [e]
      exact hF j _ w w' h.base he (h.fact j hj)
  · have hne : o.dst ≠ some t := by
      have := ht i (by simp [hs, hi])
      rw [ho] at this
      simpa using this
    rw [getD_put hne]
    refine h.rest t fun j hj => ht j ?_
    exact getD_set_true hj
  · by_cases hji : j = i
    · subst hji
      rw [ho] at hoj
      injection hoj with hoj
      subst hoj
      exact getD_set_true (hall e he hb)
    · rw [getD_set_ne false (Ne.symm hji)] at hj
      exact getD_set_true (h.closed j oj hj hoj e he hb)

theorem count_next {listed : Array Bool} {i : Nat} (h : listed.getD i true = false) : (listed.setIfInBounds i true).toList.count false + 1 = listed.toList.count false := by
  have hi : i < listed.size := by
    rcases Nat.lt_or_ge i listed.size with h' | h'
    · exact h'
    · simp [Array.getElem?_eq_none h'] at h
  have hv : listed.toList[i]'(by simpa using hi) = false := by simpa [hi] using h
  have hpos : 0 < listed.toList.count false := List.count_pos_iff.2 (hv ▸ List.getElem_mem _)
  rw [Array.toList_setIfInBounds, List.count_set (by simpa using hi), hv]
  rw [if_pos (by rfl), if_neg (by simp)]
  omega

theorem wpAny_inv (hp : plainB ops a0.tmps.size = true) (hB : ∀ w w', B w → Ext w w' → B w') (hF : ∀ i v w w', B w → Ext w w' → F i v w → F i v w')
    (steps : ∀ i o, ops[i]? = some o → StepOk P ops Q B Ext F a0 i o)
    (done : ∀ a w, B w → a.tmps.size = a0.tmps.size → a.defers = a0.defers → (∀ i, i < ops.size → F i (resAt ops i a) w) →
      (∀ t, (∀ j, j < ops.size → (ops[j]?).bind (·.dst) ≠ some t) → a.tmps.getD t undef = a0.tmps.getD t undef) → Q .normal a w) :
    ∀ (fuel : Nat) (listed : Array Bool) (a : Act) (w : World), listed.size = ops.size → listed.toList.count false ≤ fuel → RInv ops B F a0 listed a w → wpAny P .any ops Q fuel listed a w := by
  have fin : ∀ (listed : Array Bool) (a : Act) (w : World), listed.size = ops.size → RInv ops B F a0 listed a w → Region.ready .any ops listed = [] → Q .normal a w := fun listed a w hs h hr => by
    have hall := all_listed hp hs hr
    exact done a w h.base h.size h.defs (fun i hi => h.fact i (hall i hi)) (fun t ht => h.rest t (fun j hj => ht j (by
      rcases Nat.lt_or_ge j listed.size with h' | h'
      · omega
      · simp [Array.getElem?_eq_none h'] at hj)))
  intro fuel
  induction fuel with
  | zero =>
    intro listed a w hs hc h
    have hr : Region.ready .any ops listed = [] := by
      apply List.eq_nil_iff_forall_not_mem.2
      intro j hj
      have := count_next (mem_ready.1 hj).1
      omega
    exact ⟨hr, fin listed a w hs h hr⟩
  | succ fuel ih =>
    intro listed a w hs hc h
    refine ⟨fin listed a w hs h, fun i hi => ?_⟩
    obtain ⟨hun, o, ho, hall⟩ := mem_ready.1 hi
    have hcn := count_next hun
    have st := steps i o ho a w (fun a' w' => wpAny P .any ops Q fuel (listed.setIfInBounds i true) a' w') h.base
      (fun e he hb => h.fact e.on (hall e (by simpa using he) hb))
      (fun t ht => h.rest t (fun j hj hd => by
        cases hoj : ops[j]? with
        | none => rw [hoj] at hd; cases hd
        | some oj =>
          rw [hoj] at hd
          obtain ⟨e, he, hb, hei⟩ := ht j oj hoj hd
          have h1 := h.closed j oj hj hoj e he hb
          rw [hei] at h1
          rcases Nat.lt_or_ge i listed.size with h' | h'
          · simp [h'] at h1 hun
            rw [h1] at hun
            cases hun
          · simp [Array.getElem?_eq_none h'] at h1))
      (fun v w' hf he => ih _ _ _ (by simpa using hs) (by omega) (h.next hp hB hF ho hall hs hf he))
    unfold wpOp
    simp only [ho]
    split
    · rename_i hw
      rw [if_pos hw] at st
      exact .inl st
    · rename_i hw
      rw [if_neg hw] at st
      exact st

theorem none_yet (n i : Nat) : ¬ (Array.replicate n false).getD i false = true := by
  rcases Nat.lt_or_ge i n with h' | h'
  · simp [h']
  · simp [h']

/-- A REGION THAT DRAWS ITS ORDER, ONE PROOF AN OPERATION. B: what is known of every world of the region. Ext: what an operation may do to the world. F i v w: what is known of what operation i has left. -/
theorem wp_region_inv {id : Nat} {w : World} (hm : P.follows .mixedOrders = true) (B : World → Prop) (Ext : World → World → Prop) (F : Nat → Value → World → Prop) (hp : plainB ops a0.tmps.size = true)
    (hB : ∀ w w', B w → Ext w w' → B w') (hF : ∀ i v w w', B w → Ext w w' → F i v w → F i v w') (h0 : B { w with drawn := w.drawn + 1 })
    (steps : ∀ i o, ops[i]? = some o → StepOk P ops Q B Ext F a0 i o)
    (done : ∀ a w, B w → a.tmps.size = a0.tmps.size → a.defers = a0.defers → (∀ i, i < ops.size → F i (resAt ops i a) w) →
      (∀ t, (∀ j, j < ops.size → (ops[j]?).bind (·.dst) ≠ some t) → a.tmps.getD t undef = a0.tmps.getD t undef) → Q .normal a w) : (Code.region id ops true).wp P Q a0 w := by
  refine wp_region_any hm (wpAny_inv hp hB hF steps done _ _ _ _ (by simp) ?_ ⟨h0, rfl, rfl, fun i hi => absurd hi (none_yet _ _), fun t _ => rfl, fun j _ hj _ _ _ _ => absurd hj (none_yet _ _)⟩)
  refine Nat.le_trans List.count_le_length (by simp)

/-- does an operation wait for number j? -/
def depB (o : Oper) (j : Nat) : Bool := o.after.toList.any fun e => Region.binds .any e && e.on == j
/-- a slot that the region does not write -/
def freeB (ops : Array Oper) (t : Nat) : Bool := ops.toList.all fun o => o.dst != some t

/-- slot t is written, if at all, behind operation i alone -/
def lateB (ops : Array Oper) (i t : Nat) : Bool := ops.toList.all fun o => o.dst != some t || depB o i
/-- ONE OPERATION, its conditions as Bools. -/
def Met (P : Program) (ops : Array Oper) (Q : Exit → Act → World → Prop) (B : World → Prop) (Ext : World → World → Prop) (F : Nat → Value → World → Prop) (a0 : Act) (i : Nat) (o : Oper) : Prop :=
  ∀ (a : Act) (w : World) (K : Act → World → Prop), B w → (∀ j, depB o j = true → F j (resAt ops j a) w) → (∀ t, lateB ops i t = true → a.tmps.getD t undef = a0.tmps.getD t undef) →
    (∀ v w', F i (valOf o v) w' → Ext w w' → K (a.put o.dst v) w') → o.wp P a w K Q
def AllMet (P : Program) (ops : Array Oper) (Q : Exit → Act → World → Prop) (B : World → Prop) (Ext : World → World → Prop) (F : Nat → Value → World → Prop) (a0 : Act) : Nat → List Oper → Prop
  | _, [] => True
  | k, o :: r => (o.guard = none ∧ Met P ops Q B Ext F a0 k o) ∧ AllMet P ops Q B Ext F a0 (k + 1) r

theorem allMet_at {l : List Oper} : ∀ (r : List Oper) (k : Nat), AllMet P l.toArray Q B Ext F a0 k r → ∀ i o, r[i]? = some o → o.guard = none ∧ Met P l.toArray Q B Ext F a0 (k + i) o
  | [], _, _, _, _, h => by simp at h
  | x :: r, k, hm, 0, o, h => by
    simp at h
    subst h
    exact hm.1
  | x :: r, k, hm, i + 1, o, h => by
    have := allMet_at r (k + 1) hm.2 i o (by simpa using h)
    rwa [show k + (i + 1) = k + 1 + i from by omega]

theorem freeB_of {t : Nat} (h : freeB ops t = true) : ∀ j, j < ops.size → (ops[j]?).bind (·.dst) ≠ some t := fun j hj => by
  have h1 := List.all_eq_true.1 h ops[j] (by simp)
  rw [Array.getElem?_eq_getElem hj]
  simpa using h1

theorem late_of {i t : Nat} (h : lateB ops i t = true) : Late ops i t := fun j oj hoj hd => by
  have hj : j < ops.size := (Array.getElem?_eq_some_iff.1 hoj).1
  have h1 := List.all_eq_true.1 h oj (by
    rw [Array.getElem?_eq_getElem hj] at hoj
    injection hoj with hoj
    rw [← hoj]
    simp)
  simp only [hd, bne_self_eq_false, Bool.false_or] at h1
  obtain ⟨e, he, hb⟩ := List.any_eq_true.1 h1
  simp only [Bool.and_eq_true, beq_iff_eq] at hb
  exact ⟨e, by simpa using he, hb.1, hb.2⟩

theorem wp_region_met {id : Nat} {w : World} {l : List Oper} (hm : P.follows .mixedOrders = true) (B : World → Prop) (Ext : World → World → Prop) (F : Nat → Value → World → Prop) (hp : plainB l.toArray a0.tmps.size = true)
    (hB : ∀ w w', B w → Ext w w' → B w') (hF : ∀ i v w w', B w → Ext w w' → F i v w → F i v w') (h0 : B w.drew) (steps : AllMet P l.toArray Q B Ext F a0 0 l)
    (done : ∀ a w, B w → a.tmps.size = a0.tmps.size → a.defers = a0.defers → (∀ i, decide (i < l.length) = true → F i (resAt l.toArray i a) w) →
      (∀ t, freeB l.toArray t = true → a.tmps.getD t undef = a0.tmps.getD t undef) → Q .normal a w) : (Code.region id l.toArray true).wp P Q a0 w := by
  refine wp_region_inv hm B Ext F hp hB hF h0 (fun i o ho => ?_) (fun a w b1 b2 b3 b4 b5 => done a w b1 b2 b3 (fun i hi => b4 i (by simpa using hi)) (fun t ht => b5 t (freeB_of ht)))
  have hl : l[i]? = some o := by simpa using ho
  obtain ⟨hg, hmet⟩ := allMet_at l 0 steps i o hl
  rw [Nat.zero_add] at hmet
  intro a w K c1 c2 c3 c4
  rw [if_pos (by simp [Region.wanted, hg])]
  refine hmet a w K c1 (fun j hj => ?_) (fun t ht => c3 t (late_of ht)) c4
  obtain ⟨e, he, hb⟩ := List.any_eq_true.1 hj
  simp only [Bool.and_eq_true, beq_iff_eq] at hb
  rw [← hb.2]
  exact c2 e he hb.1

/-- a slot of which nothing is said -/
def sl (a : Act) (t : Nat) : Value := a.tmps.getD t undef
/-- the slots of a frame, one by one -/
def SlotsAre (a : Act) : Nat → List Value → Prop
  | _, [] => True
  | k, v :: r => a.tmps.getD k undef = v ∧ SlotsAre a (k + 1) r
theorem slots_at (a : Act) : ∀ (l : List Value) (k i : Nat), SlotsAre a k l → i < l.length → a.tmps.getD (k + i) undef = l.getD i undef
  | [], _, _, _, h => by simp at h
  | v :: r, k, 0, hs, _ => by simpa using hs.1
  | v :: r, k, i + 1, hs, h => by
    have := slots_at a r (k + 1) i hs.2 (by simpa using h)
    rw [show k + (i + 1) = k + 1 + i from by omega, this]
    simp
theorem act_of {a : Act} {l : List Value} (hs : a.tmps.size = l.length) (hd : a.defers = []) (h : SlotsAre a 0 l) : a = ⟨l.toArray, []⟩ := by
  obtain ⟨t, d⟩ := a
  simp only at hs hd
  subst hd
  congr 1
  apply Array.ext
  · simpa using hs
  · intro i h1 h2
    have := slots_at ⟨t, []⟩ l 0 i h (by simpa using h2)
    simpa [h1, show i < l.length from by simpa using h2] using this
end
end Go.Proofs.Yteklgajjclldkaa
