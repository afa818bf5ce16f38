/-
  The rule for a region that draws its order, its end written out; and single operations.
-/
import Derived.Test.YtelkphcbopbhoaaGreatDoorW11
import Derived.Test.YtelkphcbopbhoaaGreatDoorRG
namespace Go.Proofs.YtelkphcbopbhoaaGreatDoor
open Go Go.RowKit

/-- The frame behind the region. -/
def fill (l : List (Option Tmp)) (vals : Nat → Value) (a : Act) : Act := l.foldl (fun a d => match d with | some d => a.put (some d) (vals d) | none => a) a
theorem fill_size (l : List (Option Tmp)) (vals : Nat → Value) : ∀ a : Act, (fill l vals a).tmps.size = a.tmps.size := by
  induction l with
  | nil => intro a; rfl
  | cons d r ih =>
    intro a
    cases d with
    | none => exact ih a
    | some d => exact (ih _).trans (by simp [Act.put])
theorem fill_defers (l : List (Option Tmp)) (vals : Nat → Value) : ∀ a : Act, (fill l vals a).defers = a.defers := by
  induction l with
  | nil => intro a; rfl
  | cons d r ih =>
    intro a
    cases d with
    | none => exact ih a
    | some d => exact ih _
theorem fill_out (l : List (Option Tmp)) (vals : Nat → Value) (t : Nat) : ∀ a : Act, some t ∉ l → (fill l vals a).tmps.getD t undef = a.tmps.getD t undef := by
  induction l with
  | nil => intro a _; rfl
  | cons d r ih =>
    intro a h
    cases d with
    | none => exact ih a (fun h' => h (by simp [h']))
    | some d => exact (ih _ (fun h' => h (by simp [h']))).trans (getD_put_other (fun e => h (by simp [e])))
theorem fill_in (l : List (Option Tmp)) (vals : Nat → Value) (t : Nat) : ∀ a : Act, t < a.tmps.size → some t ∈ l → (fill l vals a).tmps.getD t undef = vals t := by
  induction l with
  | nil => intro a _ h; simp at h
  | cons d r ih =>
    intro a ht h
    by_cases hr : some t ∈ r
    · cases d with
      | none => exact ih a ht hr
      | some d => exact ih _ (by simpa [Act.put] using ht) hr
    · have hd : d = some t := by
        rcases List.mem_cons.1 h with h | h
        · exact h.symm
        · exact absurd h hr
      subst hd
      exact (fill_out r vals t _ hr).trans (getD_put_same ht)
theorem fill_eval {l : List (Option Tmp)} {vals : Nat → Value} {t : Nat} {a : Act} {v : Value} (h : (fill l vals a).eval (.tmp t) = v) (h2 : some t ∈ l) (h1 : t < a.tmps.size) : vals t = v := (fill_in l vals t a h1 h2).symm.trans h
theorem act_ext {a b : Act} (h1 : a.tmps.size = b.tmps.size) (h2 : a.defers = b.defers) (h : ∀ t, t < a.tmps.size → a.tmps.getD t undef = b.tmps.getD t undef) : a = b := by
  obtain ⟨t, d⟩ := a
  obtain ⟨t', d'⟩ := b
  simp only at h1 h2 h
  subst h2
  congr 1
  apply Array.ext h1
  intro i hi hi'
  have := h i hi
  simpa [Array.getD_eq_getD_getElem?, hi, hi'] using this

theorem wp_region_fill {P : Program} {ops : Array Oper} {Q : Exit → Act → World → Prop} {id : Nat} {a0 : Act} {w0 : World} (dl : List (Option Tmp)) (hdl : ops.toList.map (·.dst) = dl) (hm : P.follows .mixedOrders = true) (hok : okRegion ops a0.tmps.size = true)
    (post : Nat → Value → World → Prop) (J : Array Bool → Act → World → Prop)
    (start : J (Array.replicate ops.size false) a0 w0.drew)
    (step : ∀ (i : Nat) (o : Oper), ops[i]? = some o → ∀ listed a w, RI ops post J a0 listed a w → listed.getD i false = false → (∀ e ∈ o.after, Region.binds .any e = true → listed.getD e.on false = true) →
      wpOp P ops Q i (fun a' w' => ∃ v, a' = a.put o.dst v ∧ post i v w' ∧ (∀ j u, listed.getD j false = true → post j u w → post j u w') ∧ J (listed.setIfInBounds i true) (a.put o.dst v) w') a w)
    (fin : ∀ (vals : Nat → Value) (listed : Array Bool) w, (∀ (i : Nat) (o : Oper) (d : Tmp), ops[i]? = some o → o.dst = some d → post i (vals d) w) → (∀ i, i < ops.size → listed.getD i false = true) → J listed (fill dl vals a0) w →
      Q .normal (fill dl vals a0) w) :
    (Code.region id ops true).wp P Q a0 w0 := by
  subst hdl
  refine wp_region_posts hm hok post J start step ?_
  intro listed a w H hall
  have hget : ∀ (i : Nat) (o : Oper), ops[i]? = some o → i < ops.size := fun i o h => (Array.getElem?_eq_some_iff.1 h).1
  have e : a = fill (ops.toList.map (·.dst)) (fun d => a.tmps.getD d undef) a0 := by
    refine act_ext (by rw [fill_size, H.tsize]) (by rw [fill_defers, H.defers]) (fun t ht => ?_)
    by_cases hm : some t ∈ ops.toList.map (·.dst)
    · rw [fill_in _ _ _ _ (by rw [← H.tsize]; exact ht) hm]
    · rw [fill_out _ _ _ _ hm]
      refine H.old t (fun i o hi hd => ?_)
      exact absurd (List.mem_map.2 ⟨o, by simpa using Array.mem_of_getElem? hi, hd⟩) hm
  have hi := H.inv
  rw [e] at hi ⊢
  exact fin _ listed w (fun i o d hi hd => H.new i o d hi hd (hall i (hget i o hi))) hall hi

theorem op_val {P : Program} {Q : Exit → Act → World → Prop} {o : Oper} {a : Act} {w w' : World} {K : Act → World → Prop} {v : Value} (h : (execOp a.eval o).run P w = .ok (.value v) w') (hk : K (a.put o.dst v) w') : o.wp P a w K Q := by
  unfold Oper.wp
  rw [h]
  exact hk
theorem op_skip {P : Program} {Q : Exit → Act → World → Prop} {o : Oper} {a : Act} {w w' : World} {K : Act → World → Prop} (h : (execOp a.eval o).run P w = .ok .skip w') (hk : K (a.put o.dst undef) w') : o.wp P a w K Q := by
  unfold Oper.wp
  rw [h]
  exact hk
theorem op_call {P : Program} {Q : Exit → Act → World → Prop} {o : Oper} {a : Act} {w w' : World} {K : Act → World → Prop} {f : FuncId} {args : Array Value} (h : (execOp a.eval o).run P w = .ok (.enter f args) w') {R : Ending → World → Prop} (hc : Calls P f args w' R)
    (hR : ∀ e w2, R e w2 → ∃ v, e = .returned v ∧ K (a.put o.dst v) w2) : o.wp P a w K Q := by
  unfold Oper.wp
  rw [h]
  show Calls P f args w' _
  refine hc.mono ?_
  intro e w2 hr
  obtain ⟨v, rfl, hk⟩ := hR e w2 hr
  exact hk
end Go.Proofs.YtelkphcbopbhoaaGreatDoor
