/-
  What is read of a map of attributes while it is gone through; a rendition in the making.
-/
import Derived.Test.YtelkphcbopbhoaaGreatDoorW23
import Derived.Maps.RangeWalk
import Derived.Maps.StringElems
namespace Go.Proofs.YtelkphcbopbhoaaGreatDoor
open Go Go.RowKit
open Go.Maps (Keyed)

theorem key9_inv {key : Value} {kl : Lit} (h : keyOf Tryz.prog 9 key = some kl) : ∃ s : ByteArray, key = .string s ∧ kl = .string s.data.toList := by
  rw [keyOf_string Tryz.underlying9] at h
  unfold mapKey at h
  rw [Tryz.underlying9] at h
  cases key <;> simp at h
  exact ⟨_, rfl, h.2.symm⟩
theorem pe_inv {v : Value} {y : DataW Unit × List MemPlace} (h : PE v = some y) : ∃ s : ByteArray, v = .string s ∧ y = (.lit (.string s.data.toList), []) := by
  obtain ⟨s, h1, h2, _⟩ := plainElem_string_inv Tryz.underlying9 h
  exact ⟨s, h1, h2⟩
theorem look_some {l : List (Bs × Bs)} {k v : Bs} (h : look l k = some v) : (k, v) ∈ l := by
  induction l with
  | nil => cases h
  | cons p r ih =>
    simp only [look] at h
    split at h
    · rename_i x hx
      cases h
      exact List.mem_cons_of_mem _ (ih hx)
    · split at h
      · rename_i hk
        cases h
        subst hk
        simp
      · cases h

/-- A text of attributes of these, in whatever order. -/
structure Attrs (al : List Attr) (J : Bs) (L : Bs → Option Bs) : Prop where
  is : look (trimP (kv J)) = L
  all : ∀ a ∈ al, L a.name = if a.val = [] then none else some a.val
  only : ∀ k v, L k = some v → ∃ a ∈ al, a.name = k ∧ a.val = v
theorem attrs_of {all : List Attr} (hn : (all.map (·.name)).Nodup) (hg : ∀ a ∈ keep all, a.Good) {L : List Bs} (hL : L.Perm ((keep all).map Attr.line)) : ∃ F, Attrs all (joined L) F := by
  obtain ⟨m, hm, _, hk⟩ := kv_mixed hg hL
  have e : trimP (kv (joined L)) = m.map Attr.pair := hk
  refine ⟨look (m.map Attr.pair), by rw [e], fun a ha => look_keep hn hm ha, fun k v h => ?_⟩
  obtain ⟨a, ha, hp⟩ := List.mem_map.1 (look_some h)
  have h2 := keep_mem (hm.mem_iff.1 ha)
  unfold Attr.pair at hp
  simp only [Prod.mk.injEq] at hp
  exact ⟨a, h2.1, hp.1, hp.2⟩

/-- What comes out of the map. -/
theorem entry_is {D : DataW Unit} {F : Bs → Option Bs} (hD : MapIs D F) {x c : ByteArray} {kl : Lit} {y : DataW Unit × List MemPlace} (hkey : keyOf Tryz.prog 9 (.string x) = some kl) (hval : PE (.string c) = some y) (hat : ∀ zd, D.atKey kl zd = y.1) (hs : ∀ k, kl = .string k → (F k).isSome = true) :
    kl = .string x.data.toList ∧ F x.data.toList = some c.data.toList := by
  obtain ⟨s, h1, rfl⟩ := key9_inv hkey
  cases h1
  refine ⟨rfl, ?_⟩
  obtain ⟨v, hv⟩ := Option.isSome_iff_exists.1 (hs _ rfl)
  obtain ⟨s2, h2, rfl⟩ := pe_inv hval
  cases h2
  have h3 := hat (.lit (.string []))
  rw [(hD.2 _).2 v hv] at h3
  simp only [DataW.lit.injEq, Lit.string.injEq] at h3
  rw [hv, h3]

/-- A rendition in the making: what is still to come is not there yet. -/
def aPart (a : Alt) (p : Bs → Bool) : List Value :=
  [.string (S (if p kGROUP then [] else a.group)), .string (S (if p kURI then [] else a.uri)), .string (S (if p kTYPE then [] else a.type)), .string (S (if p kLANG then [] else a.lang)), .string (S (if p kNAME then [] else a.name)),
   .bool (if p kDEFAULT then false else a.dflt), .string (S (if p kAUTO then [] else a.auto)), .string ⟨#[]⟩, .string ⟨#[]⟩, .string ⟨#[]⟩]
theorem aPart_end (a : Alt) (p : Bs → Bool) (h : ∀ k, p k = false) : aPart a p = aCells a := by
  unfold aPart aCells
  simp only [h, Bool.false_eq_true, if_false]
theorem ite_absent {q : Bool} {v : Bs} {o : Option Bs} (h : o = if v = [] then none else some v) (hq : q = o.isSome) : (if q = true then [] else v) = [] := by
  subst hq h
  by_cases e : v = [] <;> simp [e]
theorem aPart_start (a : Alt) {J : Bs} {F : Bs → Option Bs} (h : Attrs a.all J F) (p : Bs → Bool) (hp : ∀ k, p k = (F k).isSome) :
    aPart a p = [.string ⟨#[]⟩, .string ⟨#[]⟩, .string ⟨#[]⟩, .string ⟨#[]⟩, .string ⟨#[]⟩, .bool false, .string ⟨#[]⟩, .string ⟨#[]⟩, .string ⟨#[]⟩, .string ⟨#[]⟩] := by
  have e0 := ite_absent (h.all ⟨kTYPE, a.type, false⟩ (by simp [Alt.all])) (hp _)
  have e1 := ite_absent (h.all ⟨kGROUP, a.group, true⟩ (by simp [Alt.all])) (hp _)
  have e2 := ite_absent (h.all ⟨kNAME, a.name, true⟩ (by simp [Alt.all])) (hp _)
  have e4 := ite_absent (h.all ⟨kAUTO, a.auto, false⟩ (by simp [Alt.all])) (hp _)
  have e5 := ite_absent (h.all ⟨kLANG, a.lang, true⟩ (by simp [Alt.all])) (hp _)
  have e6 := ite_absent (h.all ⟨kURI, a.uri, true⟩ (by simp [Alt.all])) (hp _)
  have e3 : p kDEFAULT = true := by
    rw [hp, h.all ⟨kDEFAULT, if a.dflt then vYES else vNO, false⟩ (by simp [Alt.all])]
    cases a.dflt <;> rfl
  unfold aPart
  simp only at e0 e1 e2 e4 e5 e6
  rw [e0, e1, e2, e4, e5, e6, e3]
  rfl
def minus (p : Bs → Bool) (x : Bs) : Bs → Bool := fun k => p k && !(k == x)
theorem minus_self (p : Bs → Bool) (x : Bs) : minus p x x = false := by simp [minus]
theorem minus_other (p : Bs → Bool) {x k : Bs} (h : (k == x) = false) : minus p x k = p k := by simp [minus, h]
theorem aPart_set (a : Alt) (p : Bs → Bool) (x : Bs) (k : Nat) (v : Value) (h : (k = 0 ∧ x = kGROUP ∧ v = .string (S a.group)) ∨ (k = 1 ∧ x = kURI ∧ v = .string (S a.uri)) ∨ (k = 2 ∧ x = kTYPE ∧ v = .string (S a.type)) ∨ (k = 3 ∧ x = kLANG ∧ v = .string (S a.lang)) ∨ (k = 4 ∧ x = kNAME ∧ v = .string (S a.name)) ∨ (k = 5 ∧ x = kDEFAULT ∧ v = .bool a.dflt) ∨ (k = 6 ∧ x = kAUTO ∧ v = .string (S a.auto))) :
    (aPart a p).set k v = aPart a (minus p x) := by
  unfold aPart
  rcases h with ⟨rfl, rfl, rfl⟩ | ⟨rfl, rfl, rfl⟩ | ⟨rfl, rfl, rfl⟩ | ⟨rfl, rfl, rfl⟩ | ⟨rfl, rfl, rfl⟩ | ⟨rfl, rfl, rfl⟩ | ⟨rfl, rfl, rfl⟩
  all_goals simp only [minus_self, Bool.false_eq_true, if_false, List.set_cons_zero, List.set_cons_succ]
  all_goals simp only [minus_other p (show (kGROUP == kURI) = false by decide), minus_other p (show (kTYPE == kURI) = false by decide), minus_other p (show (kLANG == kURI) = false by decide), minus_other p (show (kNAME == kURI) = false by decide), minus_other p (show (kDEFAULT == kURI) = false by decide), minus_other p (show (kAUTO == kURI) = false by decide),
    minus_other p (show (kURI == kGROUP) = false by decide), minus_other p (show (kTYPE == kGROUP) = false by decide), minus_other p (show (kLANG == kGROUP) = false by decide), minus_other p (show (kNAME == kGROUP) = false by decide), minus_other p (show (kDEFAULT == kGROUP) = false by decide), minus_other p (show (kAUTO == kGROUP) = false by decide),
    minus_other p (show (kURI == kTYPE) = false by decide), minus_other p (show (kGROUP == kTYPE) = false by decide), minus_other p (show (kLANG == kTYPE) = false by decide), minus_other p (show (kNAME == kTYPE) = false by decide), minus_other p (show (kDEFAULT == kTYPE) = false by decide), minus_other p (show (kAUTO == kTYPE) = false by decide),
    minus_other p (show (kURI == kLANG) = false by decide), minus_other p (show (kGROUP == kLANG) = false by decide), minus_other p (show (kTYPE == kLANG) = false by decide), minus_other p (show (kNAME == kLANG) = false by decide), minus_other p (show (kDEFAULT == kLANG) = false by decide), minus_other p (show (kAUTO == kLANG) = false by decide),
    minus_other p (show (kURI == kNAME) = false by decide), minus_other p (show (kGROUP == kNAME) = false by decide), minus_other p (show (kTYPE == kNAME) = false by decide), minus_other p (show (kLANG == kNAME) = false by decide), minus_other p (show (kDEFAULT == kNAME) = false by decide), minus_other p (show (kAUTO == kNAME) = false by decide),
    minus_other p (show (kURI == kDEFAULT) = false by decide), minus_other p (show (kGROUP == kDEFAULT) = false by decide), minus_other p (show (kTYPE == kDEFAULT) = false by decide), minus_other p (show (kLANG == kDEFAULT) = false by decide), minus_other p (show (kNAME == kDEFAULT) = false by decide), minus_other p (show (kAUTO == kDEFAULT) = false by decide),
    minus_other p (show (kURI == kAUTO) = false by decide), minus_other p (show (kGROUP == kAUTO) = false by decide), minus_other p (show (kTYPE == kAUTO) = false by decide), minus_other p (show (kLANG == kAUTO) = false by decide), minus_other p (show (kNAME == kAUTO) = false by decide), minus_other p (show (kDEFAULT == kAUTO) = false by decide)]
theorem rows_apart {w : World} {B B' n n' e e' size size' : Nat} {v v' : Value} {xs xs' : List Value} (h : w.ownsRow B e size v n xs) (h' : w.ownsRow B' e' size' v' n' xs') (hne : e ≠ e') : ∀ i, v.ownBlock = some i → v'.ownBlock = some i → False := by
  intro i h1 h2
  rcases h.2 with ⟨rfl, _⟩ | ⟨g, cap, cur, rfl, _, h5, _⟩
  · cases h1
  · rcases h'.2 with ⟨rfl, _⟩ | ⟨g', cap', cur', rfl, _, h6, _⟩
    · cases h2
    · have e1 : g = i := Option.some.inj h1
      have e2 : g' = i := Option.some.inj h2
      subst e1 e2
      rw [h5] at h6
      simp only [Option.some.injEq, Obj.cells.injEq] at h6
      exact hne h6.2.1
/-- A pointer more. -/
theorem PRow.app {α : Type} {w w6 : World} {B pt st : Nat} {cells : α → List Value} {v v' : Value} {bs : List Nat} {xs : List α} {A : Nat} {x : α} (h : PRow w B pt st cells v bs xs) (hne : pt ≠ st) (hb : Box w A st (cells x)) (hA : B ≤ A) (hAn : A ∉ bs)
    (hown : w6.ownsRow B pt 1 v' (bs.length + 1) (bs.map ptr ++ [ptr A])) (hc : Chg (fun i => v.ownBlock = some i) w w6) : PRow w6 B pt st cells v' (bs ++ [A]) (xs ++ [x]) := by
  refine ⟨by rw [List.length_append, List.map_append]; exact hown, by rw [List.length_append, List.length_append, h.len]; rfl, ?_, ?_, ?_⟩
  · intro b hbm
    rcases List.mem_append.1 hbm with hbm | hbm
    · exact h.ge b hbm
    · rw [List.mem_singleton.1 hbm]; exact hA
  · intro i c y h1 h2
    by_cases hi : i < bs.length
    · rw [List.getElem?_append_left hi] at h1
      rw [List.getElem?_append_left (by rw [h.len]; exact hi)] at h2
      have hbx := h.box i c y h1 h2
      exact hbx.chg hc (fun e => row_ne_box h.row hbx hne e)
    · have hi2 : i = bs.length := by
        have := (List.getElem?_eq_some_iff.1 h1).1
        simp at this
        omega
      subst hi2
      have e1 : A = c := by simpa using h1
      have e2 : x = y := by
        rw [← h.len] at h2
        simpa using h2
      subst e1 e2
      exact hb.chg hc (fun e => row_ne_box h.row hb hne e)
  · rw [List.nodup_append]
    refine ⟨h.nodup, by simp, ?_⟩
    intro p hp q hq e
    rw [List.mem_singleton.1 hq] at e
    exact hAn (e ▸ hp)
theorem PRow.low_mem {α : Type} {w : World} {B pt st : Nat} {cells : α → List Value} {v : Value} {bs : List Nat} {xs : List α} (h : PRow w B pt st cells v bs xs) : ∀ b ∈ bs, b < w.heap.size := by
  intro b hb
  obtain ⟨i, hi, rfl⟩ := List.getElem_of_mem hb
  have hx : i < xs.length := by rw [h.len]; exact hi
  exact (h.box i _ xs[i] (List.getElem?_eq_getElem hi) (List.getElem?_eq_getElem hx)).lt
/-- Another slice's row has turned. -/
theorem PRow.apart {α : Type} {w w6 : World} {B B' pt st e' n' size' : Nat} {cells : α → List Value} {v v2 : Value} {bs : List Nat} {xs : List α} {zs : List Value} (h : PRow w B pt st cells v bs xs) (h2 : w.ownsRow B' e' size' v2 n' zs) (hne : pt ≠ e') (hst : ∀ i, v2.ownBlock = some i → ∀ l, ¬ Box w i st l) (hc : Chg (fun i => v2.ownBlock = some i) w w6) : PRow w6 B pt st cells v bs xs := by
  refine h.chg hc (fun i hi => rows_apart h.row h2 hne i hi) (fun b hb => ?_)
  obtain ⟨i, hi, rfl⟩ := List.getElem_of_mem hb
  have hx : i < xs.length := by rw [h.len]; exact hi
  have hbx := h.box i _ xs[i] (List.getElem?_eq_getElem hi) (List.getElem?_eq_getElem hx)
  exact fun e => hst _ e _ hbx
theorem row_not_box {w : World} {B pt n st : Nat} {v : Value} {xs : List Value} (h : w.ownsRow B pt 1 v n xs) (hne : pt ≠ st) : ∀ i, v.ownBlock = some i → ∀ l, ¬ Box w i st l := fun _ hi _ hb => row_ne_box h hb hne hi
theorem HD.app_alt {w w6 : World} {B P St : Nat} {vv va va' : Value} {cp cs : List Value} {vbs abs : List Nat} {vs : List Vrt} {ats : List Alt} {A : Nat} {a : Alt} (h : HD w B P St vv va cp cs vbs vs abs ats) (hb : Box w A 97 (aCells a)) (hA : B ≤ A) (hAn : A ∉ abs)
    (hown : w6.ownsRow B 95 1 va' (abs.length + 1) (abs.map ptr ++ [ptr A])) (hc : Chg (fun i => va.ownBlock = some i) w w6) : HD w6 B P St vv va' cp cs vbs vs (abs ++ [A]) (ats ++ [a]) := by
  obtain ⟨h1, h2, h3, h4, h5, h6, h7⟩ := h
  have hge : ∀ i, va.ownBlock = some i → B ≤ i := fun i hi => (World.ownsRow.lt h4.row i hi).1
  exact ⟨h1.chg hc (fun e => by have := hge _ e; omega), h2.chg hc (fun e => by have := hge _ e; omega), h3.apart h4.row (by decide) (row_not_box h4.row (by decide)) hc, h4.app (by decide) hb hA hAn hown hc, h5, h6, h7⟩
theorem HD.app_vrt {w w6 : World} {B P St : Nat} {vv va vv' : Value} {cp cs : List Value} {vbs abs : List Nat} {vs : List Vrt} {ats : List Alt} {A : Nat} {x : Vrt} (h : HD w B P St vv va cp cs vbs vs abs ats) (hb : Box w A 94 (vCells x nilS)) (hA : B ≤ A) (hAn : A ∉ vbs)
    (hown : w6.ownsRow B 88 1 vv' (vbs.length + 1) (vbs.map ptr ++ [ptr A])) (hc : Chg (fun i => vv.ownBlock = some i) w w6) : HD w6 B P St vv' va cp cs (vbs ++ [A]) (vs ++ [x]) abs ats := by
  obtain ⟨h1, h2, h3, h4, h5, h6, h7⟩ := h
  have hge : ∀ i, vv.ownBlock = some i → B ≤ i := fun i hi => (World.ownsRow.lt h3.row i hi).1
  exact ⟨h1.chg hc (fun e => by have := hge _ e; omega), h2.chg hc (fun e => by have := hge _ e; omega), h3.app (by decide) hb hA hAn hown hc, h4.apart h3.row (by decide) (row_not_box h3.row (by decide)) hc, h5, h6, h7⟩
theorem PRow.off {α : Type} {S : Nat → Prop} {w w' : World} {B pt st : Nat} {cells : α → List Value} {v : Value} {bs : List Nat} {xs : List α} (h : PRow w B pt st cells v bs xs) (k : Chg S w w') (hr : ∀ i, S i → ∀ l fr, w.heap[i]? ≠ some (.cells l pt fr)) (hb : ∀ b ∈ bs, ¬ S b) : PRow w' B pt st cells v bs xs := by
  refine h.chg k (fun i hi hs => ?_) hb
  rcases h.row.2 with ⟨rfl, _⟩ | ⟨g, cap, cur, rfl, _, h5, _⟩
  · cases hi
  · have e : g = i := Option.some.inj hi
    subst e
    exact hr g hs _ _ h5
theorem PRow.not_mem {α : Type} {w : World} {B pt st : Nat} {cells : α → List Value} {v : Value} {bs : List Nat} {xs : List α} (h : PRow w B pt st cells v bs xs) {R : Nat} (hR : ∀ l, ¬ Box w R st l) : R ∉ bs := by
  intro hm
  obtain ⟨i, hi, rfl⟩ := List.getElem_of_mem hm
  have hx : i < xs.length := by rw [h.len]; exact hi
  exact hR _ (h.box i _ xs[i] (List.getElem?_eq_getElem hi) (List.getElem?_eq_getElem hx))
/-- A block that is no cells has turned. -/
theorem HD.iter {w w1 : World} {B P St R : Nat} {vv va : Value} {cp cs : List Value} {vbs abs : List Nat} {vs : List Vrt} {ats : List Alt} (h : HD w B P St vv va cp cs vbs vs abs ats) (hR : ∀ l t fr, w.heap[R]? ≠ some (.cells l t fr)) (hg : w.grownBy w1 (some R)) : HD w1 B P St vv va cp cs vbs vs abs ats := by
  obtain ⟨h1, h2, h3, h4, h5, h6, h7⟩ := h
  have hc : Chg (fun i => i = R) w w1 := (Chg.refl _ w).grown hg (fun i hi _ => by cases hi; rfl)
  refine ⟨h1.chg hc (fun e => ?_), h2.chg hc (fun e => ?_), h3.off hc (fun i e l fr => by subst e; exact hR l _ fr) (fun b hb e => ?_), h4.off hc (fun i e l fr => by subst e; exact hR l _ fr) (fun b hb e => ?_), h5, h6, h7⟩
  · subst e; exact hR _ _ _ h1
  · subst e; exact hR _ _ _ h2
  · subst e; exact h3.not_mem (fun l hb => hR _ _ _ hb) hb
  · subst e; exact h4.not_mem (fun l hb => hR _ _ _ hb) hb
theorem box_type {w : World} {b t t' : Nat} {l l' : List Value} (h : Box w b t l) (h' : Box w b t' l') : t = t' := by
  unfold Box at h h'
  rw [h] at h'
  simp only [Option.some.injEq, Obj.cells.injEq] at h'
  exact h'.2.1
/-- A rendition that is not listed yet has turned. -/
theorem HD.setNew {w : World} {B P St A : Nat} {vv va : Value} {cp cs l : List Value} {vbs abs : List Nat} {vs : List Vrt} {ats : List Alt} (h : HD w B P St vv va cp cs vbs vs abs ats) (hb : Box w A 97 l) (hA : B ≤ A) (hAn : A ∉ abs) (k : Nat) (u : Value) : HD (w.setCell ⟨A, k, none⟩ u) B P St vv va cp cs vbs vs abs ats := by
  obtain ⟨h1, h2, h3, h4, h5, h6, h7⟩ := h
  have hc : Chg (fun i => i = A) w (w.setCell ⟨A, k, none⟩ u) := (Chg.refl _ w).setCell _ _ (fun _ => rfl)
  refine ⟨h1.chg hc (by omega), h2.chg hc (by omega), h3.chg hc (fun i hi e => ?_) (fun b hbm e => ?_), h4.chg hc (fun i hi e => ?_) (fun b hbm e => ?_), h5, h6, h7⟩
  · subst e; exact row_ne_box h3.row hb (by decide) hi
  · subst e; exact h3.not_mem (fun l' hb' => by have := box_type hb hb'; revert this; decide) hbm
  · subst e; exact row_ne_box h4.row hb (by decide) hi
  · subst e; exact hAn hbm
theorem ranges_iter {w : World} {b r n cnt : Nat} {D : DataW Unit} {left : Lit → Bool} (h : w.ranges Tryz.prog 9 PE b r n D left cnt) : ∀ l t fr, w.heap[r]? ≠ some (.cells l t fr) := by
  obtain ⟨es, clock, since, seen, c0, _, _, _, _, hr, _⟩ := h
  intro l t fr e
  rw [hr] at e
  cases e
theorem sameKey_string (k x : Bs) : (Lit.string k).sameKey (.string x) = (k == x) := rfl
theorem Tryz.info95 : (Tryz.prog.info? 95).map (fun i => (i.zero, i.size, i.bytes)) = some (some (.pointer none), 1, 8) := by kernel_rfl
theorem Tryz.info88 : (Tryz.prog.info? 88).map (fun i => (i.zero, i.size, i.bytes)) = some (some (.pointer none), 1, 8) := by kernel_rfl
end Go.Proofs.YtelkphcbopbhoaaGreatDoor
