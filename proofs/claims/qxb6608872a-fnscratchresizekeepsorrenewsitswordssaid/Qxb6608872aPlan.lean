/-
  A region that draws its order and holds loads and stores of the same cells: every load of a stored cell waits ahead of every store, the stores wait for one another.
  One theorem: where each operation, run on the slots as they stand at the END, yields what they then hold, every order comes to the same end.
-/
import Derived.Orders
import Derived.OrdersHeld
import Derived.WalkKit
namespace Go.Proofs.Qxb6608872a
open Go

section
variable {P : Program} {ops : Array Oper} {Q : Exit → Act → World → Prop}

/-- Operation j waits for operation i. -/
def waits (ops : Array Oper) (j i : Nat) : Bool :=
  match ops[j]? with
  | some o => o.after.any fun e => Region.binds .any e && e.on == i
  | none => false

theorem waits_spec {j i : Nat} (h : waits ops j i = true) : ∃ o, ops[j]? = some o ∧ ∃ e ∈ o.after, Region.binds .any e = true ∧ e.on = i := by
  unfold waits at h
  split at h
  · rename_i o ho
    obtain ⟨e, he, hb⟩ := Array.any_eq_true'.1 h
    simp only [Bool.and_eq_true, beq_iff_eq] at hb
    exact ⟨o, ho, e, he, hb.1, hb.2⟩
  · cases h

/-- What a static look can say of operation i: no guard, no select, edges lead back, operands that are made here are waited for, its slot is its own and is there. -/
def lookAt (ops : Array Oper) (size : Nat) (i : Nat) : Bool :=
  match ops[i]? with
  | some o => o.guard.isNone && (match o.op with | .select _ _ => false | _ => true) && o.after.all (fun e => !Region.binds .any e || decide (e.on < i)) &&
      o.op.operands.all (fun x => match x with | .tmp t => (List.range ops.size).all fun j => (match ops[j]? with | some oj => oj.dst != some t | none => true) || waits ops i j | _ => true) &&
      (match o.dst with | some d => decide (d < size) && (List.range ops.size).all (fun j => j == i || (match ops[j]? with | some oj => oj.dst != some d | none => true)) | none => true)
  | none => false
def planOk (ops : Array Oper) (size : Nat) : Bool := (List.range ops.size).all (lookAt ops size)

/-- The world, by which stores have come up: the list holds the last store first. -/
def worldOf (W0 : World) : List (Nat × World) → Array Bool → World
  | [], _ => W0
  | (s, Ws) :: rest, L => if L.getD s true = true then Ws else worldOf W0 rest L

theorem worldOf_none {W0 : World} {L : Array Bool} : ∀ {l : List (Nat × World)}, (∀ p ∈ l, L.getD p.1 true = false) → worldOf W0 l L = W0
  | [], _ => rfl
  | p :: l, h => by
    have h1 := h p (by simp)
    unfold worldOf
    rw [h1]
    simp only [Bool.false_eq_true, if_false]
    exact worldOf_none fun q hq => h q (by simp [hq])
theorem worldOf_set {W0 : World} {L : Array Bool} {i : Nat} : ∀ {l : List (Nat × World)}, (∀ p ∈ l, p.1 ≠ i) → worldOf W0 l (L.setIfInBounds i true) = worldOf W0 l L
  | [], _ => rfl
  | p :: l, h => by
    unfold worldOf
    rw [getD_set_ne true (Ne.symm (h p (by simp))), worldOf_set fun q hq => h q (by simp [hq])]
theorem worldOf_all {W0 : World} {L : Array Bool} {N : World → Prop} (h0 : N W0) : ∀ {l : List (Nat × World)}, (∀ p ∈ l, N p.2) → N (worldOf W0 l L)
  | [], _ => h0
  | p :: l, h => by
    unfold worldOf
    split
    · exact h p (by simp)
    · exact worldOf_all h0 fun q hq => h q (by simp [hq])
theorem worldOf_skip {W0 : World} {L : Array Bool} {m : List (Nat × World)} : ∀ {l : List (Nat × World)}, (∀ p ∈ l, L.getD p.1 true = false) → worldOf W0 (l ++ m) L = worldOf W0 m L
  | [], _ => rfl
  | p :: l, h => by
    have h1 := h p (by simp)
    rw [List.cons_append, show worldOf W0 (p :: (l ++ m)) L = if L.getD p.1 true = true then p.2 else worldOf W0 (l ++ m) L from rfl, h1]
    simp only [Bool.false_eq_true, if_false]
    exact worldOf_skip (l := l) fun q hq => h q (List.mem_cons_of_mem _ hq)

/-- The world ahead of a store: behind the one before it. -/
def headWorld (W0 : World) : List (Nat × World) → World
  | [] => W0
  | (_, W) :: _ => W

/-- What operation i does, on the slots ρ of the end. -/
def OpOk (P : Program) (ops : Array Oper) (ρ : Operand → Value) (N : World → Prop) (W0 : World) (sts : List (Nat × World)) (i : Nat) : Prop :=
  ∃ o, ops[i]? = some o ∧
    ((∃ d, o.dst = some d ∧ (sts.all fun p => p.1 != i) = true ∧ ∀ w, N w → (execOp ρ o).run P w = .ok (.value (ρ (.tmp d))) w) ∨
     (∃ d, o.dst = some d ∧ (sts.all fun p => p.1 != i && waits ops p.1 i) = true ∧ (execOp ρ o).run P W0 = .ok (.value (ρ (.tmp d))) W0) ∨
     (∃ post pre Wn, o.dst = none ∧ sts = post ++ (i, Wn) :: pre ∧ (post.all fun p => p.1 != i && waits ops p.1 i) = true ∧ (pre.all fun p => p.1 != i) = true ∧ (pre.take 1).all (fun p => waits ops i p.1) = true ∧
        (execOp ρ o).run P (headWorld W0 pre) = .ok .skip Wn))

/-- How the slots stand while the region runs. -/
structure PlanInv (ops : Array Oper) (aF : Act) (L : Array Bool) (a : Act) : Prop where
  defers : a.defers = aF.defers
  size : a.tmps.size = aF.tmps.size
  slots : ∀ t, (∀ j o, ops[j]? = some o → o.dst = some t → L.getD j true = true) → a.tmps.getD t undef = aF.tmps.getD t undef
  ls : L.size = ops.size
  down : ∀ j o, ops[j]? = some o → L.getD j true = true → ∀ e ∈ o.after, Region.binds .any e = true → L.getD e.on false = true

theorem getD_any {L : Array Bool} {j : Nat} (hj : j < L.size) (d d' : Bool) : L.getD j d = L.getD j d' := by
  simp [Array.getD, hj]

theorem not_listed {aF a : Act} {L : Array Bool} (h : PlanInv ops aF L a) {i j : Nat} (hi : L.getD i true = false) (hw : waits ops j i = true) : L.getD j true = false := by
  obtain ⟨o, ho, e, he, hb, rfl⟩ := waits_spec hw
  cases hc : L.getD j true with
  | false => rfl
  | true =>
    have h1 := h.down j o ho hc e he hb
    have hlt : e.on < L.size := by
      rcases Nat.lt_or_ge e.on L.size with h' | h'
      · exact h'
      · simp [Array.getD, Nat.not_lt.2 h'] at h1
    rw [getD_any hlt false true, hi] at h1
    cases h1

theorem all_listed {aF a : Act} {L : Array Bool} (hok : planOk ops aF.tmps.size = true) (h : PlanInv ops aF L a) (hr : Region.ready .any ops L = []) : ∀ i, i < ops.size → L.getD i true = true := by
  intro i
  induction i using Nat.strongRecOn with
  | _ i ih =>
    intro hi
    cases hc : L.getD i true with
    | true => rfl
    | false =>
      exfalso
      have hl : lookAt ops aF.tmps.size i = true := List.all_eq_true.1 hok i (List.mem_range.2 hi)
      have ho : ops[i]? = some ops[i] := Array.getElem?_eq_getElem hi
      unfold lookAt at hl
      rw [ho] at hl
      simp only [Bool.and_eq_true] at hl
      have hm : i ∈ Region.ready .any ops L := by
        rw [mem_ready]
        refine ⟨hc, _, ho, fun e he hb => ?_⟩
        have h1 := Array.all_eq_true_iff_forall_mem.1 hl.1.1.2 e he
        rw [hb] at h1
        have h2 : e.on < i := by simpa using h1
        have h3 := ih e.on h2 (Nat.lt_trans h2 hi)
        rw [getD_any (by rw [h.ls]; omega) false true]
        exact h3
      rw [hr] at hm
      cases hm

theorem act_end {aF a : Act} {L : Array Bool} (h : PlanInv ops aF L a) (hall : ∀ i, i < ops.size → L.getD i true = true) : a = aF := by
  have ht : a.tmps = aF.tmps := by
    apply Array.ext h.size
    intro t h1 h2
    have := h.slots t (fun j o ho _ => hall j (Array.getElem?_eq_some_iff.1 ho).1)
    simpa [Array.getD, h1, h2] using this
  have hd := h.defers
  cases a
  cases aF
  simp_all

theorem step_inv {aF a : Act} {L : Array Bool} {i : Nat} {o : Oper} (hok : planOk ops aF.tmps.size = true) (h : PlanInv ops aF L a) (hr : i ∈ Region.ready .any ops L) (ho : ops[i]? = some o) {v : Value} (hv : ∀ d, o.dst = some d → v = aF.tmps.getD d undef) :
    PlanInv ops aF (L.setIfInBounds i true) (a.put o.dst v) := by
  have hi : i < ops.size := (Array.getElem?_eq_some_iff.1 ho).1
  have hl : lookAt ops aF.tmps.size i = true := List.all_eq_true.1 hok i (List.mem_range.2 hi)
  unfold lookAt at hl
  rw [ho] at hl
  simp only [Bool.and_eq_true] at hl
  obtain ⟨_, hdst⟩ := hl
  obtain ⟨_, o', ho', hedges⟩ := mem_ready.1 hr
  rw [ho] at ho'
  cases ho'
  have key : ∀ j, j ≠ i → (L.setIfInBounds i true).getD j true = L.getD j true := fun j hj => getD_set_ne true (Ne.symm hj)
  refine ⟨?_, ?_, ?_, ?_, ?_⟩
  · rw [← h.defers]; cases o.dst <;> rfl
  · rw [← h.size]; cases o.dst <;> simp [Act.put]
  · intro t ht
    cases hd : o.dst with
    | none =>
      refine h.slots t fun j oj hj hjd => ?_
      by_cases hji : j = i
      · subst hji; rw [ho] at hj; cases hj; rw [hd] at hjd; cases hjd
      · rw [← key j hji]; exact ht j oj hj hjd
    | some d =>
      rw [hd] at hdst
      simp only [Bool.and_eq_true, decide_eq_true_eq] at hdst
      by_cases htd : d = t
      · subst htd
        have hlt : d < a.tmps.size := by rw [h.size]; exact hdst.1
        have : (a.put (some d) v).tmps.getD d undef = v := by simp [Act.put, hlt]
        rw [this]
        exact hv d hd
      · have : (a.put (some d) v).tmps.getD t undef = a.tmps.getD t undef := by
          simp [Act.put, Array.getElem?_setIfInBounds_ne htd]
        rw [this]
        refine h.slots t fun j oj hj hjd => ?_
        by_cases hji : j = i
        · subst hji; rw [ho] at hj; cases hj; rw [hd] at hjd; cases hjd; exact absurd rfl htd
        · rw [← key j hji]; exact ht j oj hj hjd
  · simpa using h.ls
  · intro j oj hj hL e he hb
    by_cases hji : j = i
    · subst hji
      rw [ho] at hj
      cases hj
      exact getD_set_true (hedges e he hb)
    · rw [key j hji] at hL
      exact getD_set_true (h.down j oj hj hL e he hb)

theorem step_exec {aF a : Act} {L : Array Bool} {i : Nat} {o : Oper} (hok : planOk ops aF.tmps.size = true) (h : PlanInv ops aF L a) (hr : i ∈ Region.ready .any ops L) (ho : ops[i]? = some o) : execOp a.eval o = execOp aF.eval o ∧ o.guard = none := by
  have hi : i < ops.size := (Array.getElem?_eq_some_iff.1 ho).1
  have hl : lookAt ops aF.tmps.size i = true := List.all_eq_true.1 hok i (List.mem_range.2 hi)
  unfold lookAt at hl
  rw [ho] at hl
  simp only [Bool.and_eq_true] at hl
  obtain ⟨⟨⟨⟨hg, hs⟩, _⟩, hops⟩, _⟩ := hl
  obtain ⟨_, o', ho', hedges⟩ := mem_ready.1 hr
  rw [ho] at ho'
  cases ho'
  refine ⟨execOp_congr o (fun cs b hsel => by rw [hsel] at hs; cases hs) fun x hx => ?_, by simpa using hg⟩
  cases x with
  | tmp t =>
    have h1 := Array.all_eq_true_iff_forall_mem.1 hops _ hx
    simp only [List.all_eq_true, List.mem_range] at h1
    show a.tmps.getD t undef = aF.tmps.getD t undef
    refine h.slots t fun j oj hj hjd => ?_
    have h2 := h1 j (Array.getElem?_eq_some_iff.1 hj).1
    rw [hj] at h2
    simp only [hjd, bne_self_eq_false, Bool.false_or] at h2
    obtain ⟨o2, ho2, e, he, hb, rfl⟩ := waits_spec h2
    rw [ho] at ho2
    cases ho2
    have h3 := hedges e he hb
    rw [getD_any (by rw [h.ls]; exact (Array.getElem?_eq_some_iff.1 hj).1) true false]
    exact h3
  | _ => rfl

/-- How many have not come up. -/
def left (ops : Array Oper) (L : Array Bool) : Nat := (List.range ops.size).countP fun i => !L.getD i true

theorem left_zero {L : Array Bool} (h : left ops L = 0) : ∀ i, i < ops.size → L.getD i true = true := by
  intro i hi
  have := List.countP_eq_zero.1 h i (List.mem_range.2 hi)
  simpa using this

theorem countP_lt {p q : Nat → Bool} : ∀ (l : List Nat) (i : Nat), i ∈ l → (∀ j, q j = true → p j = true) → p i = true → q i = false → l.countP q < l.countP p
  | [], _, hi, _, _, _ => by cases hi
  | x :: l, i, hi, h, hp, hq => by
    have hle : l.countP q ≤ l.countP p := List.countP_mono_left fun j _ hj => h j hj
    rcases List.mem_cons.1 hi with rfl | hi'
    · rw [List.countP_cons_of_pos hp, List.countP_cons_of_neg (by simp [hq])]
      omega
    · have ih := countP_lt l i hi' h hp hq
      cases hx : q x with
      | true => rw [List.countP_cons_of_pos hx, List.countP_cons_of_pos (h x hx)]; omega
      | false =>
        rw [List.countP_cons_of_neg (by simp [hx])]
        cases hpx : p x with
        | true => rw [List.countP_cons_of_pos hpx]; omega
        | false => rw [List.countP_cons_of_neg (by simp [hpx])]; exact ih

theorem left_lt {L : Array Bool} {i : Nat} (hls : L.size = ops.size) (hi : i < ops.size) (hL : L.getD i true = false) : left ops (L.setIfInBounds i true) < left ops L := by
  refine countP_lt _ i (List.mem_range.2 hi) (fun j hj => ?_) (by rw [hL]; rfl) ?_
  · by_cases hji : i = j
    · subst hji; rw [hL]; rfl
    · rw [getD_set_ne true hji] at hj; exact hj
  · have : i < L.size := by omega
    simp [this]

theorem wpAny_plan {aF : Act} {N : World → Prop} {W0 : World} {sts : List (Nat × World)} (hok : planOk ops aF.tmps.size = true) (hN0 : N W0) (hN : ∀ p ∈ sts, N p.2)
    (hop : ∀ i, i < ops.size → OpOk P ops aF.eval N W0 sts i) (hst : ∀ p ∈ sts, p.1 < ops.size) (hQ : Q .normal aF (headWorld W0 sts)) :
    ∀ (fuel : Nat) (L : Array Bool) (a : Act), PlanInv ops aF L a → left ops L ≤ fuel → wpAny P .any ops Q fuel L a (worldOf W0 sts L) := by
  have fin : ∀ (L : Array Bool) (a : Act), PlanInv ops aF L a → (∀ i, i < ops.size → L.getD i true = true) → Q .normal a (worldOf W0 sts L) := by
    intro L a h hall
    rw [act_end h hall]
    cases sts with
    | nil => exact hQ
    | cons p sts =>
      unfold worldOf
      rw [if_pos (hall _ (hst p (by simp)))]
      exact hQ
  intro fuel
  induction fuel with
  | zero =>
    intro L a h hl
    have hall := left_zero (Nat.le_zero.1 hl)
    refine ⟨?_, fin L a h hall⟩
    rw [List.eq_nil_iff_forall_not_mem]
    intro i hi
    obtain ⟨h0, o, ho, _⟩ := mem_ready.1 hi
    rw [hall i (Array.getElem?_eq_some_iff.1 ho).1] at h0
    cases h0
  | succ fuel ih =>
    intro L a h hl
    refine ⟨fun hr => fin L a h (all_listed hok h hr), fun i hr => ?_⟩
    obtain ⟨hL, o1, ho1, hedges⟩ := mem_ready.1 hr
    have hi : i < ops.size := (Array.getElem?_eq_some_iff.1 ho1).1
    obtain ⟨o, ho, hcase⟩ := hop i hi
    have ho2 := ho
    rw [ho1] at ho2
    cases ho2
    obtain ⟨hex, hg⟩ := step_exec hok h hr ho
    have hlt : left ops (L.setIfInBounds i true) ≤ fuel := by have := left_lt (ops := ops) h.ls hi hL; omega
    have hwant : Region.wanted o1 (yielded ops a.tmps) = true := by unfold Region.wanted; rw [hg]
    unfold wpOp
    rw [ho]
    simp only [hwant, if_true]
    refine .inl ?_
    unfold Oper.wp
    rw [hex]
    rcases hcase with ⟨d, hd, hne, hrun⟩ | ⟨d, hd, hne, hrun⟩ | ⟨post, pre, Wn, hd, hs, hpost, hpre, hfirst, hrun⟩
    · rw [hrun _ (worldOf_all hN0 hN), Oper.upon_value]
      have hne' : ∀ p ∈ sts, p.1 ≠ i := fun p hp => by simpa using List.all_eq_true.1 hne p hp
      rw [← worldOf_set (W0 := W0) (L := L) hne']
      exact ih _ _ (step_inv hok h hr ho (fun d' hd' => by rw [hd] at hd'; cases hd'; rfl)) hlt
    · have hn : ∀ p ∈ sts, p.1 ≠ i ∧ L.getD p.1 true = false := fun p hp => by
        have := List.all_eq_true.1 hne p hp
        simp only [Bool.and_eq_true, bne_iff_ne, ne_eq] at this
        exact ⟨this.1, not_listed h hL this.2⟩
      have hw : worldOf W0 sts L = W0 := worldOf_none fun p hp => (hn p hp).2
      have hw2 : worldOf W0 sts (L.setIfInBounds i true) = W0 := by rw [worldOf_set fun p hp => (hn p hp).1]; exact hw
      rw [hw, hrun, Oper.upon_value]
      have := ih _ _ (step_inv hok h hr ho (v := aF.eval (.tmp d)) (fun d' hd' => by rw [hd] at hd'; cases hd'; rfl)) hlt
      rw [hw2] at this
      exact this
    · have hp1 : ∀ p ∈ post, p.1 ≠ i ∧ L.getD p.1 true = false := fun p hp => by
        have := List.all_eq_true.1 hpost p hp
        simp only [Bool.and_eq_true, bne_iff_ne, ne_eq] at this
        exact ⟨this.1, not_listed h hL this.2⟩
      have hp2 : ∀ p ∈ pre, p.1 ≠ i := fun p hp => by simpa using List.all_eq_true.1 hpre p hp
      have hw : worldOf W0 sts L = headWorld W0 pre := by
        rw [hs, worldOf_skip fun p hp => (hp1 p hp).2]
        unfold worldOf
        rw [hL]
        simp only [Bool.false_eq_true, if_false]
        cases pre with
        | nil => rfl
        | cons p pre =>
          have hwt : waits ops i p.1 = true := by simpa using hfirst
          obtain ⟨o3, ho3, e, he, hb, heq⟩ := waits_spec hwt
          rw [ho] at ho3
          cases ho3
          have h3 := hedges e he hb
          rw [heq] at h3
          have h4 : L.getD p.1 true = true := by
            have hlt2 : p.1 < ops.size := hst p (by rw [hs]; simp)
            rw [getD_any (by rw [h.ls]; exact hlt2) true false]
            exact h3
          unfold worldOf
          rw [if_pos h4]
          rfl
      have hw2 : worldOf W0 sts (L.setIfInBounds i true) = Wn := by
        rw [hs, worldOf_skip fun p hp => by rw [getD_set_ne true (Ne.symm (hp1 p hp).1)]; exact (hp1 p hp).2]
        unfold worldOf
        have : i < L.size := by rw [h.ls]; exact hi
        rw [if_pos (by simp [this])]
      rw [hw, hrun, Oper.upon_skip]
      have := ih _ _ (step_inv hok h hr ho (v := undef) (fun d' hd' => by rw [hd] at hd'; cases hd')) hlt
      rw [hw2] at this
      exact this

/-- Slots written one after the other. -/
def putAll (a : Act) (vals : List (Tmp × Value)) : Act := vals.foldl (fun a p => a.put (some p.1) p.2) a

theorem putAll_size : ∀ (vals : List (Tmp × Value)) (a : Act), (putAll a vals).tmps.size = a.tmps.size
  | [], _ => rfl
  | p :: vals, a => by
    show (putAll (a.put (some p.1) p.2) vals).tmps.size = _
    rw [putAll_size vals]
    simp [Act.put]
theorem putAll_defers : ∀ (vals : List (Tmp × Value)) (a : Act), (putAll a vals).defers = a.defers
  | [], _ => rfl
  | p :: vals, a => by
    show (putAll (a.put (some p.1) p.2) vals).defers = _
    rw [putAll_defers vals]
    rfl
theorem putAll_other {t : Tmp} : ∀ (vals : List (Tmp × Value)) (a : Act), (∀ p ∈ vals, p.1 ≠ t) → (putAll a vals).tmps.getD t undef = a.tmps.getD t undef
  | [], _, _ => rfl
  | p :: vals, a, h => by
    show (putAll (a.put (some p.1) p.2) vals).tmps.getD t undef = _
    rw [putAll_other vals _ fun q hq => h q (by simp [hq])]
    simp [Act.put, Array.getElem?_setIfInBounds_ne (h p (by simp))]

theorem wp_region_plan {id : Nat} {a : Act} {w : World} (hm : P.follows .mixedOrders = true) (vals : List (Tmp × Value)) (N : World → Prop) (sts : List (Nat × World))
    (hvals : (vals.all fun p => ops.any fun o => o.dst == some p.1) = true)
    (hok : planOk ops a.tmps.size = true) (hst : (sts.all fun p => decide (p.1 < ops.size)) = true)
    (hN0 : N w.drew) (hN : ∀ p ∈ sts, N p.2)
    (hop : ∀ i, i < ops.size → OpOk P ops (putAll a vals).eval N w.drew sts i)
    (hQ : Q .normal (putAll a vals) (headWorld w.drew sts)) : (Code.region id ops true).wp P Q a w := by
  refine wp_region_any hm ?_
  have hz : (putAll a vals).tmps.size = a.tmps.size := putAll_size vals a
  have hL : ∀ j, j < ops.size → (Array.replicate ops.size false).getD j true = false := fun j hj => by simp [hj]
  have inv : PlanInv ops (putAll a vals) (Array.replicate ops.size false) a := by
    refine ⟨(putAll_defers vals a).symm, hz.symm, ?_, by simp, ?_⟩
    · intro t ht
      symm
      refine putAll_other vals a fun p hp heq => ?_
      have h1 := List.all_eq_true.1 hvals p hp
      obtain ⟨o, ho, hb⟩ := Array.any_eq_true'.1 h1
      obtain ⟨j, hj, rfl⟩ := Array.mem_iff_getElem.1 ho
      have hd : ops[j].dst = some p.1 := by simpa using hb
      have := ht j ops[j] (Array.getElem?_eq_getElem hj) (by rw [hd, heq])
      rw [hL j hj] at this
      cases this
    · intro j o ho h
      rw [hL j (Array.getElem?_eq_some_iff.1 ho).1] at h
      cases h
  have h := wpAny_plan (P := P) (Q := Q) (aF := putAll a vals) (N := N) (W0 := w.drew) (sts := sts) (by rw [hz]; exact hok) hN0 hN hop (fun p hp => by simpa using List.all_eq_true.1 hst p hp) hQ ops.size (Array.replicate ops.size false) a inv
    (by unfold left; exact Nat.le_trans List.countP_le_length (by simp))
  rw [worldOf_none fun p hp => hL p.1 (by simpa using List.all_eq_true.1 hst p hp)] at h
  exact h

/-- What slots hold, one after the other. -/
def EnvOk (ρ : Operand → Value) : List (Tmp × Value) → Prop
  | [] => True
  | p :: r => ρ (.tmp p.1) = p.2 ∧ EnvOk ρ r
/-- p of every number below n. -/
def AllTo (p : Nat → Prop) : Nat → Prop
  | 0 => True
  | n + 1 => AllTo p n ∧ p n
theorem allTo_spec {p : Nat → Prop} : ∀ {n : Nat}, AllTo p n → ∀ i, i < n → p i
  | 0, _, i, hi => absurd hi (Nat.not_lt_zero i)
  | n + 1, h, i, hi => by
    rcases Nat.lt_or_ge i n with h1 | h1
    · exact allTo_spec h.1 i h1
    · have : i = n := by omega
      subst this
      exact h.2

/-- No slot twice. -/
def apartSlots : List (Tmp × Value) → Bool
  | [] => true
  | p :: r => (r.all fun q => q.1 != p.1) && apartSlots r

theorem env_vals : ∀ (vals : List (Tmp × Value)) (a : Act), apartSlots vals = true → (vals.all fun p => decide (p.1 < a.tmps.size)) = true → EnvOk (putAll a vals).eval vals
  | [], _, _, _ => trivial
  | p :: vals, a, h, hs => by
    unfold apartSlots at h
    simp only [Bool.and_eq_true] at h
    simp only [List.all_cons, Bool.and_eq_true, decide_eq_true_eq] at hs
    have e : putAll a (p :: vals) = putAll (a.put (some p.1) p.2) vals := rfl
    rw [e]
    refine ⟨?_, env_vals vals _ h.2 ?_⟩
    · show (putAll (a.put (some p.1) p.2) vals).tmps.getD p.1 undef = p.2
      rw [putAll_other vals _ fun q hq => by simpa using List.all_eq_true.1 h.1 q hq]
      simp [Act.put, hs.1]
    · have : (a.put (some p.1) p.2).tmps.size = a.tmps.size := by simp [Act.put]
      rw [this]; exact hs.2
theorem env_ext (vals : List (Tmp × Value)) (a : Act) : ∀ (ext : List (Tmp × Value)), (ext.all fun p => vals.all fun q => q.1 != p.1) = true → EnvOk a.eval ext → EnvOk (putAll a vals).eval ext
  | [], _, _ => trivial
  | p :: ext, h, he => by
    simp only [List.all_cons, Bool.and_eq_true] at h
    refine ⟨?_, env_ext vals a ext h.2 he.2⟩
    show (putAll a vals).tmps.getD p.1 undef = p.2
    rw [putAll_other vals _ fun q hq => by simpa using List.all_eq_true.1 h.1 q hq]
    exact he.1

theorem wp_region_plan2 {id : Nat} {a : Act} {w : World} (hm : P.follows .mixedOrders = true) (vals ext : List (Tmp × Value)) (N : World → Prop) (sts : List (Nat × World)) (n z : Nat)
    (hn : ops.size = n) (hz : a.tmps.size = z) (hvals : (vals.all fun p => ops.any fun o => o.dst == some p.1) = true)
    (hok : planOk ops z = true) (hst : (sts.all fun p => decide (p.1 < ops.size)) = true)
    (hap : apartSlots vals = true) (hin : (vals.all fun p => decide (p.1 < z)) = true) (hex : (ext.all fun p => vals.all fun q => q.1 != p.1) = true)
    (hext : EnvOk a.eval ext)
    (hN0 : N w.drew) (hN : ∀ p ∈ sts, N p.2)
    (hop : ∀ ρ : Operand → Value, EnvOk ρ ext → EnvOk ρ vals → (∀ c, ρ (.const c) = c) → AllTo (OpOk P ops ρ N w.drew sts) n)
    (hQ : Q .normal (putAll a vals) (headWorld w.drew sts)) : (Code.region id ops true).wp P Q a w :=
  wp_region_plan hm vals N sts hvals (by rw [hz]; exact hok) hst hN0 hN
    (by subst hn; exact allTo_spec (hop _ (env_ext vals a ext hex hext) (env_vals vals a hap (by rw [hz]; exact hin)) fun _ => rfl)) hQ

end
end Go.Proofs.Qxb6608872a
