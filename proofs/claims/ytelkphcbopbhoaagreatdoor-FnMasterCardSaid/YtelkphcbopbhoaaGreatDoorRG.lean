/-
  A rule for a region that draws its order: of each operation it is said what its value is good for, whenever it comes up; no order is looked at.
-/
import Derived.Orders
import Derived.Below
import Derived.KernelRfl
namespace Go.Proofs.YtelkphcbopbhoaaGreatDoor
open Go Go.RowKit

/-- Each slot is written once, lies in the frame, and no operation waits for a later one. -/
def okRegion (ops : Array Oper) (n : Nat) : Bool :=
  decide ((ops.toList.filterMap (·.dst)).Nodup) && (ops.toList.filterMap (·.dst)).all (fun d => decide (d < n)) &&
  (List.range ops.size).all (fun i => match ops[i]? with | some o => o.after.toList.all (fun e => !Region.binds .any e || decide (e.on < i)) | none => true)

theorem filterMap_nodup_inj {α β : Type} (f : α → Option β) : ∀ (l : List α), (l.filterMap f).Nodup → ∀ (i j : Nat) (x y : α) (b : β), l[i]? = some x → l[j]? = some y → f x = some b → f y = some b → i = j
  | [], _, i, _, x, _, _, hi, _, _, _ => by simp at hi
  | z :: r, hn, i, j, x, y, b, hi, hj, hx, hy => by
    have mem : ∀ (k : Nat) (u : α), r[k]? = some u → f u = some b → b ∈ r.filterMap f := fun k u hk hu => List.mem_filterMap.2 ⟨u, List.mem_of_getElem? hk, hu⟩
    cases hz : f z with
    | none =>
      have hn' : (r.filterMap f).Nodup := by simpa [List.filterMap_cons, hz] using hn
      cases i with
      | zero => simp at hi; subst hi; rw [hz] at hx; cases hx
      | succ i =>
        cases j with
        | zero => simp at hj; subst hj; rw [hz] at hy; cases hy
        | succ j => simp at hi hj; rw [filterMap_nodup_inj f r hn' i j x y b hi hj hx hy]
    | some c =>
      have hn' : c ∉ r.filterMap f ∧ (r.filterMap f).Nodup := by simpa only [List.filterMap_cons, hz, List.nodup_cons] using hn
      cases i with
      | zero =>
        simp at hi; subst hi
        rw [hz] at hx; cases hx
        cases j with
        | zero => rfl
        | succ j => simp at hj; exact absurd (mem j y hj hy) hn'.1
      | succ i =>
        simp at hi
        cases j with
        | zero => simp at hj; subst hj; rw [hz] at hy; cases hy; exact absurd (mem i x hi hx) hn'.1
        | succ j => simp at hj; rw [filterMap_nodup_inj f r hn'.2 i j x y b hi hj hx hy]

section
variable {ops : Array Oper} {n : Nat}
theorem ok_once (h : okRegion ops n = true) {i j : Nat} {oi oj : Oper} {d : Tmp} (hi : ops[i]? = some oi) (hj : ops[j]? = some oj) (hdi : oi.dst = some d) (hdj : oj.dst = some d) : i = j := by
  simp only [okRegion, Bool.and_eq_true, decide_eq_true_eq] at h
  exact filterMap_nodup_inj _ _ h.1.1 i j oi oj d (by simpa using hi) (by simpa using hj) hdi hdj
theorem ok_lt (h : okRegion ops n = true) {i : Nat} {o : Oper} {d : Tmp} (hi : ops[i]? = some o) (hd : o.dst = some d) : d < n := by
  simp only [okRegion, Bool.and_eq_true, List.all_eq_true, decide_eq_true_eq] at h
  exact h.1.2 d (List.mem_filterMap.2 ⟨o, by simpa using Array.mem_of_getElem? hi, hd⟩)
theorem ok_before (h : okRegion ops n = true) {i : Nat} {o : Oper} (hi : ops[i]? = some o) {e : Edge} (he : e ∈ o.after) (hb : Region.binds .any e = true) : e.on < i := by
  simp only [okRegion, Bool.and_eq_true, List.all_eq_true] at h
  have hlt : i < ops.size := by
    rcases Nat.lt_or_ge i ops.size with h' | h'
    · exact h'
    · rw [Array.getElem?_eq_none h'] at hi; cases hi
  have := h.2 i (List.mem_range.2 hlt)
  rw [hi] at this
  simp only [List.all_eq_true] at this
  have := this e (by simpa using he)
  simpa [hb] using this

/-- What is known in the middle of the region: of what has come up, and of the rest of the frame. -/
structure RI (ops : Array Oper) (post : Nat → Value → World → Prop) (J : Array Bool → Act → World → Prop) (a0 : Act) (listed : Array Bool) (a : Act) (w : World) : Prop where
  size : listed.size = ops.size
  defers : a.defers = a0.defers
  tsize : a.tmps.size = a0.tmps.size
  old : ∀ t, (∀ (i : Nat) (o : Oper), ops[i]? = some o → o.dst = some t → listed.getD i false = false) → a.tmps.getD t undef = a0.tmps.getD t undef
  new : ∀ (i : Nat) (o : Oper) (d : Tmp), ops[i]? = some o → o.dst = some d → listed.getD i false = true → post i (a.tmps.getD d undef) w
  inv : J listed a w
  closed : ∀ (j : Nat) (o : Oper), ops[j]? = some o → listed.getD j false = true → ∀ e ∈ o.after, Region.binds .any e = true → listed.getD e.on false = true

variable {post : Nat → Value → World → Prop} {J : Array Bool → Act → World → Prop} {a0 a : Act} {listed : Array Bool} {w : World}
/-- The value in a slot that operation j wrote. -/
theorem RI.at_ (H : RI ops post J a0 listed a w) (j : Nat) {d : Tmp} (hj : (ops[j]?).bind (·.dst) = some d) (hl : listed.getD j false = true) : post j (a.eval (.tmp d)) w := by
  obtain ⟨o, ho, hd⟩ := Option.bind_eq_some_iff.1 hj
  exact H.new j o d ho hd hl
/-- The value in a slot that the region does not write. -/
theorem RI.base (H : RI ops post J a0 listed a w) (t : Tmp) (ht : (ops.toList.any fun o => o.dst == some t) = false) : a.eval (.tmp t) = a0.eval (.tmp t) := by
  refine H.old t (fun i o hi hd => ?_)
  have := (List.any_eq_false.1 ht) o (by simpa using Array.mem_of_getElem? hi)
  simp [hd] at this

theorem getD_set_same {l : Array Bool} {i : Nat} (h : i < l.size) : (l.setIfInBounds i true).getD i false = true := by
  simp [Array.getD_eq_getD_getElem?, h]
theorem getD_set_other {l : Array Bool} {i j : Nat} (h : i ≠ j) : (l.setIfInBounds i true).getD j false = l.getD j false := by
  simp [Array.getD_eq_getD_getElem?, Array.getElem?_setIfInBounds_ne h]
theorem getD_put_other {a : Act} {dst : Option Tmp} {v : Value} {t : Tmp} (h : dst ≠ some t) : (a.put dst v).tmps.getD t undef = a.tmps.getD t undef := by
  cases dst with
  | none => rfl
  | some d =>
    have : d ≠ t := fun e => h (by rw [e])
    simp [Act.put, Array.getD_eq_getD_getElem?, Array.getElem?_setIfInBounds_ne this]
theorem getD_put_same {a : Act} {d : Tmp} {v : Value} (h : d < a.tmps.size) : (a.put (some d) v).tmps.getD d undef = v := by
  simp [Act.put, Array.getD_eq_getD_getElem?, h]

theorem ready_nil {ops : Array Oper} {n : Nat} (hok : okRegion ops n = true) {listed : Array Bool} (hs : listed.size = ops.size) (h : Region.ready .any ops listed = []) : ∀ i, i < ops.size → listed.getD i false = true := by
  intro i
  induction i using Nat.strongRecOn with
  | _ i ih =>
    intro hi
    cases hl : listed.getD i false with
    | true => rfl
    | false =>
      exfalso
      have hmem : i ∈ Region.ready .any ops listed := by
        unfold Region.ready
        refine List.mem_filter.2 ⟨List.mem_range.2 hi, ?_⟩
        have h1 : listed.getD i true = false := by
          simp only [Array.getD_eq_getD_getElem?, Array.getElem?_eq_getElem (show i < listed.size by omega), Option.getD_some] at hl ⊢
          exact hl
        have ho : ops[i]? = some ops[i] := Array.getElem?_eq_getElem hi
        rw [h1, ho]
        simp only [Bool.not_false, Bool.true_and, Option.map_some, Option.getD_some]
        rw [Array.all_eq_true']
        intro e he
        cases hb : Region.binds .any e with
        | false => simp
        | true =>
          have hlt := ok_before hok ho he hb
          simp [ih e.on hlt (by omega)]
      rw [h] at hmem
      cases hmem

theorem ready_mem {ops : Array Oper} {listed : Array Bool} {i : Nat} (h : i ∈ Region.ready .any ops listed) (hs : listed.size = ops.size) :
    ∃ o, ops[i]? = some o ∧ listed.getD i false = false ∧ ∀ e ∈ o.after, Region.binds .any e = true → listed.getD e.on false = true := by
  unfold Region.ready at h
  obtain ⟨hr, hp⟩ := List.mem_filter.1 h
  have hi := List.mem_range.1 hr
  have ho : ops[i]? = some ops[i] := Array.getElem?_eq_getElem hi
  rw [ho] at hp
  simp only [Option.map_some, Option.getD_some, Bool.and_eq_true, Bool.not_eq_true'] at hp
  refine ⟨_, ho, ?_, fun e he hb => ?_⟩
  · have := hp.1
    simp only [Array.getD_eq_getD_getElem?, Array.getElem?_eq_getElem (show i < listed.size by omega), Option.getD_some] at this ⊢
    exact this
  · have := (Array.all_eq_true'.1 hp.2) e he
    simpa [hb] using this

/-- How many have not come up yet. -/
def unlisted (ops : Array Oper) (listed : Array Bool) : Nat := ((List.range ops.size).filter fun i => !listed.getD i false).length
theorem unlisted_zero {ops : Array Oper} {listed : Array Bool} (h : unlisted ops listed = 0) : ∀ i, i < ops.size → listed.getD i false = true := by
  intro i hi
  cases hl : listed.getD i false with
  | true => rfl
  | false =>
    have : i ∈ (List.range ops.size).filter fun i => !listed.getD i false := List.mem_filter.2 ⟨List.mem_range.2 hi, by simp [hl]⟩
    rw [List.eq_nil_of_length_eq_zero h] at this
    cases this
theorem filter_shrinks {p q : Nat → Bool} : ∀ (l : List Nat) (i : Nat), i ∈ l → p i = true → q i = false → (∀ j, q j = true → p j = true) → (l.filter q).length < (l.filter p).length
  | [], i, hi, _, _, _ => by cases hi
  | z :: r, i, hi, hp, hq, hqp => by
    have le : ∀ l : List Nat, (l.filter q).length ≤ (l.filter p).length := by
      intro l
      induction l with
      | nil => simp
      | cons y t ih =>
        simp only [List.filter_cons]
        cases hy : q y with
        | true => simp [hqp y hy]; exact ih
        | false => cases p y <;> simp <;> omega
    simp only [List.filter_cons]
    rcases List.mem_cons.1 hi with rfl | hi
    · have := le r
      simp [hp, hq]; omega
    · have := filter_shrinks r i hi hp hq hqp
      cases hy : q z with
      | true => simp [hqp z hy]; exact this
      | false => cases p z <;> simp <;> omega
theorem unlisted_set {ops : Array Oper} {listed : Array Bool} {i : Nat} (hs : listed.size = ops.size) (hi : i < ops.size) (hl : listed.getD i false = false) : unlisted ops (listed.setIfInBounds i true) < unlisted ops listed := by
  refine filter_shrinks _ i (List.mem_range.2 hi) (by simp [hl]) (by simp [getD_set_same (show i < listed.size by omega)]) (fun j hj => ?_)
  by_cases e : i = j
  · subst e; rw [getD_set_same (show i < listed.size by omega)] at hj; cases hj
  · rwa [getD_set_other e] at hj

/-- THE RULE. -/
theorem wp_region_posts {P : Program} {ops : Array Oper} {Q : Exit → Act → World → Prop} {id : Nat} {a0 : Act} {w0 : World} (hm : P.follows .mixedOrders = true) (hok : okRegion ops a0.tmps.size = true)
    (post : Nat → Value → World → Prop) (J : Array Bool → Act → World → Prop)
    (start : J (Array.replicate ops.size false) a0 w0.drew)
    (step : ∀ (i : Nat) (o : Oper), ops[i]? = some o → ∀ listed a w, RI ops post J a0 listed a w → listed.getD i false = false → (∀ e ∈ o.after, Region.binds .any e = true → listed.getD e.on false = true) →
      wpOp P ops Q i (fun a' w' => ∃ v, a' = a.put o.dst v ∧ post i v w' ∧ (∀ j u, listed.getD j false = true → post j u w → post j u w') ∧ J (listed.setIfInBounds i true) (a.put o.dst v) w') a w)
    (fin : ∀ listed a w, RI ops post J a0 listed a w → (∀ i, i < ops.size → listed.getD i false = true) → Q .normal a w) :
    (Code.region id ops true).wp P Q a0 w0 := by
  refine wp_region_any hm ?_
  have main : ∀ (fuel : Nat) (listed : Array Bool) (a : Act) (w : World), RI ops post J a0 listed a w → unlisted ops listed ≤ fuel → wpAny P .any ops Q fuel listed a w := by
    intro fuel
    induction fuel with
    | zero =>
      intro listed a w H hu
      have hall := unlisted_zero (Nat.le_zero.1 hu)
      refine ⟨?_, fin listed a w H hall⟩
      cases hr : Region.ready .any ops listed with
      | nil => rfl
      | cons i r =>
        obtain ⟨o, ho, hl, _⟩ := ready_mem (i := i) (by rw [hr]; simp) H.size
        have hi : i < ops.size := (Array.getElem?_eq_some_iff.1 ho).1
        rw [hall i hi] at hl
        cases hl
    | succ fuel ih =>
      intro listed a w H hu
      refine ⟨fun hr => fin listed a w H (ready_nil hok H.size hr), fun i hi => ?_⟩
      obtain ⟨o, ho, hl, he⟩ := ready_mem hi H.size
      have hlt : i < ops.size := (Array.getElem?_eq_some_iff.1 ho).1
      refine wpOp_mono ?_ (step i o ho listed a w H hl he)
      rintro a' w' ⟨v, rfl, hp, hst, hj⟩
      refine ih _ _ _ ⟨by simp [H.size], ?_, ?_, ?_, ?_, hj, ?_⟩ (by have := unlisted_set H.size hlt hl; omega)
      · cases o.dst <;> exact H.defers
      · cases o.dst <;> simp [Act.put, H.tsize]
      · intro t ht
        have hne : o.dst ≠ some t := fun e => by
          have := ht i o ho e
          rw [getD_set_same (by rw [H.size]; exact hlt)] at this
          cases this
        rw [getD_put_other hne]
        refine H.old t (fun j oj hj hdj => ?_)
        have hij : i ≠ j := fun e => by
          subst e
          rw [ho] at hj
          cases hj
          exact hne hdj
        have := ht j oj hj hdj
        rwa [getD_set_other hij] at this
      · intro j oj d hj hdj hlj
        by_cases e : i = j
        · subst e
          rw [ho] at hj
          cases hj
          have hd := ok_lt hok ho hdj
          rw [hdj, getD_put_same (by rw [H.tsize]; exact hd)]
          exact hp
        · rw [getD_set_other e] at hlj
          have hne : o.dst ≠ some d := fun e' => e (ok_once hok ho hj e' hdj)
          rw [getD_put_other hne]
          exact hst _ _ hlj (H.new j oj d hj hdj hlj)
      · intro j oj hj hlj e he' hb
        have key : listed.getD e.on false = true := by
          by_cases hij : i = j
          · subst hij
            rw [ho] at hj
            cases hj
            exact he e he' hb
          · rw [getD_set_other hij] at hlj
            exact H.closed j oj hj hlj e he' hb
        by_cases hie : i = e.on
        · rw [← hie, getD_set_same (by rw [H.size]; exact hlt)]
        · rw [getD_set_other hie]; exact key
  refine main ops.size _ _ _ ⟨by simp, rfl, rfl, fun _ _ => rfl, fun i o d _ _ hl => ?_, start, fun j o _ hl => ?_⟩ ?_
  · simp [Array.getD_eq_getD_getElem?, Array.getElem?_replicate] at hl
    split at hl <;> simp at hl
  · simp [Array.getD_eq_getD_getElem?, Array.getElem?_replicate] at hl
    split at hl <;> simp at hl
  · unfold unlisted
    have := List.length_filter_le (fun i => !(Array.replicate ops.size false).getD i false) (List.range ops.size)
    simpa using this
theorem wpOp_plain {P : Program} {ops : Array Oper} {Q : Exit → Act → World → Prop} {i : Nat} {o : Oper} {K : Act → World → Prop} {a : Act} {w : World} (h : ops[i]? = some o) (hg : o.guard = none) (ho : o.wp P a w K Q) : wpOp P ops Q i K a w := by
  simp only [wpOp, h, Region.wanted, hg, if_true]
  exact .inl ho
end
end Go.Proofs.YtelkphcbopbhoaaGreatDoor
