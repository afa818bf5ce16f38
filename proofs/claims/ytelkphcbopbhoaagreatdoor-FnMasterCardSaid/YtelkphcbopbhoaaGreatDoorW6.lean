/-
  Walks: a rendition's and a variant's attributes.
-/
import Derived.Test.YtelkphcbopbhoaaGreatDoorW5
import Derived.StillTailTactics
import Derived.Deep.DeepCutAuto
namespace Go.Proofs.YtelkphcbopbhoaaGreatDoor
open Go Go.RowKit

def altCells (a : Alt) : List Value := [.string (S a.type), .string (S a.group), .string (S a.name), .bool a.dflt, .string (S a.auto), .string (S a.lang), .string (S a.uri)]
def altVal (a : Alt) : Value := .agg (altCells a).toArray

/-- A region whose last operations stand in one order, and whose others only read: the world behind a name. -/
theorem still_tail {P : Program} {id : Nat} {Q : Exit → Act → World → Prop} {a : Act} {w : World} {l : List Oper} (n : Nat) (hm : P.follows .mixedOrders = true) (hB : Region.lexTailB .any l.toArray n = true)
    (h : ∀ w2 : World, Hid (w2 = w.drew) → wpStill P l.toArray w2 (fun a' => wpList P l.toArray Q (l.drop n) a' w2) (l.take n) a) : (Code.region id l.toArray true).wp P Q a w :=
  wp_region_still_tail n hm hB (h _ (show _ = _ from rfl))

theorem line_still (a b : Bs) (q : Bool) (w : World) (h : a.length + b.length ≤ 1000000) :
    Calls Tryz.prog 30 #[.string (S a), .string (S b), .bool q] w fun e w' => e = .returned (.string (S (Attr.line ⟨a, b, q⟩))) ∧ w' = w :=
  (line_any a b q w h).mono fun _ _ h => ⟨h.1, h.2.symm⟩


/-- A block of cells. -/
def Box (w : World) (b : Nat) (t : TypeId) (l : List Value) : Prop := w.heap[b]? = some (.cells l.toArray t (0, 0))
theorem Box.cell {w : World} {b : Nat} {t : TypeId} {l : List Value} (h : Box w b t l) (k : Nat) {v : Value} (hv : l[k]? = some v) : w.cell? ⟨b, k, none⟩ = some v := by
  unfold Box at h
  simp [World.cell?, h, hv]
/-- A slice of strings. -/
def Row (w : World) (base : Nat) (v : Value) (L : List Bs) : Prop := w.ownsRow base 9 1 v L.length (L.map fun t => .string (S t))
theorem Tryz.info9 : (Tryz.prog.info? 9).map (fun i => (i.zero, i.size, i.bytes)) = some (some (.string ⟨#[]⟩), 1, 16) := by kernel_rfl

theorem wpList_app_str {w : World} {ops : Array Oper} {rest : List Oper} {o : Oper} {a : Act} {Q : Exit → Act → World → Prop} (hgd : o.guard = none) (s x : Operand)
    (ho : o.op = .call { callee := .builtin .append, args := #[s, x], argTypes := #[39, 39] }) (base : Nat) (L : List Bs) (v : Value) (hs : a.eval s = v) (hown : Row w base v L) (g : Nat) (t : ByteArray)
    (hx : a.eval x = .slice (some ⟨g, 0, none⟩) 1 1) (hg : w.heap[g]? = some (.cells #[.string t] 9 (0, 0))) (hL : L.length ≤ 1000000) (hb : base ≤ w.heap.size)
    (h : ∀ v' w', Row w' base v' (L ++ [t.data.toList]) → w.grownBy w' v.ownBlock → wpList Tryz.prog ops Q rest (a.put o.dst v') w') : wpList Tryz.prog ops Q (o :: rest) a w := by
  obtain ⟨i0, hi, hz0, hz1, hz2⟩ := info_parts Tryz.info9
  refine wpList_append_lies w hgd s x 39 ho base 9 i0 (.string ⟨#[]⟩) 1 16 Tryz.underlying39 hi hz0 hz1 hz2 rfl (by decide) v L.length (L.map fun t => .string (S t)) hs hown ⟨g, 0, none⟩ 1 1 [.string t] hx rfl
    (World.news_of_block hg) (by intro u hu; simp at hu; subst hu; rfl) (by omega) (by unfold maxLen; omega) (by omega) hb _ rfl ?_
  intro g2 cap w' h1 h2 _ _
  refine h _ w' ?_ h2
  unfold Row
  rw [List.map_append, List.length_append]
  exact h1

theorem row_mono {w : World} {base base' n : Nat} {e : TypeId} {size : Nat} {v : Value} {xs : List Value} (h : w.ownsRow base e size v n xs) (hb : base' ≤ base) : w.ownsRow base' e size v n xs := by
  refine ⟨h.1, ?_⟩
  rcases h.2 with h2 | ⟨g, cap, cur, h3, h4, h5⟩
  · exact .inl h2
  · exact .inr ⟨g, cap, cur, h3, Nat.le_trans hb h4, h5⟩
theorem Row.kept {w w' : World} {base : Nat} {v : Value} {L : List Bs} (h : Row w base v L) (hg : w.grownBy w' none) : Row w' base v L := World.ownsRow.kept h hg (by cases v.ownBlock <;> simp)
theorem Row.alloc {w : World} {base : Nat} {v : Value} {L : List Bs} (h : Row w base v L) (o : Obj) : Row (w.alloc o) base v L := World.ownsRow.alloc h o
theorem Row.below {w w1 : World} {base : Nat} {v : Value} {L : List Bs} (h : Row w base v L) (hb : Below w.heap.size w w1) : Row w1 base v L := row_below h hb
theorem Row.mono {w : World} {base base' : Nat} {v : Value} {L : List Bs} (h : Row w base v L) (hb : base' ≤ base) : Row w base' v L := row_mono h hb
theorem Box.below {w w1 : World} {b : Nat} {t : TypeId} {l : List Value} (h : Box w b t l) (hb : Below w.heap.size w w1) : Box w1 b t l := by
  unfold Box at h ⊢
  have hlt : b < w.heap.size := (Array.getElem?_eq_some_iff.1 h).1
  rw [hb.block b hlt]
  exact h
theorem Box.alloc {w : World} {b : Nat} {t : TypeId} {l : List Value} (h : Box w b t l) (o : Obj) : Box (w.alloc o) b t l := h.below ((Below.refl _ _).alloc (Nat.le_refl _) _)

/-- In the middle of a list's making: what was boxed, and what has been made. -/
structure AInv (w : World) (ty : TypeId) (cells : List Value) (L : List Bs) (v : Value) (wx : World) : Prop where
  row : Row wx (w.heap.size + 1) v L
  box : Box wx w.heap.size ty cells
  bel : Below w.heap.size w wx
  sz : w.heap.size + 1 ≤ wx.heap.size
theorem AInv.step {w : World} {ty : TypeId} {cells : List Value} {L L' : List Bs} {v v' : Value} {wx w' : World} (h : AInv w ty cells L v wx) (o : Obj) (hr : Row w' (w.heap.size + 1) v' L') (hg : (wx.alloc o).grownBy w' v.ownBlock) : AInv w ty cells L' v' w' := by
  have hne : ∀ k, v.ownBlock = some k → w.heap.size + 1 ≤ k := fun k hk => ((World.ownsRow.lt h.row) k hk).1
  refine ⟨hr, ?_, (h.bel.alloc (by have := h.sz; omega) o).grown hg (by have := h.sz; simp; omega) (fun k hk => by have := hne k hk; omega), ?_⟩
  · have hb := h.box.alloc o
    have hlt : w.heap.size < (wx.alloc o).heap.size := by have := h.sz; simp; omega
    unfold Box at hb ⊢
    rw [hg.block w.heap.size hlt (fun e => by have := hne _ e.symm; omega)]
    exact hb
  · have := hg.size
    have := h.sz
    simp at *
    omega
theorem AInv.below {w : World} {ty : TypeId} {cells : List Value} {L : List Bs} {v : Value} {wx w' : World} (h : AInv w ty cells L v wx) (hb : Below wx.heap.size wx w') : AInv w ty cells L v w' :=
  ⟨h.row.below hb, h.box.below hb, h.bel.trans ⟨hb.os, hb.tape, hb.output, hb.size, fun i hi => hb.block i (by have := h.sz; omega)⟩, Nat.le_trans h.sz hb.size⟩

theorem keep_snoc (l : List Attr) (a : Attr) : keep (l ++ [a]) = if a.val = [] then keep l else keep l ++ [a] := by
  unfold keep
  rw [List.filter_append]
  by_cases h : a.val = [] <;> simp [h]
theorem keep_len (l : List Attr) : (keep l).length ≤ l.length := List.length_filter_le _ _
theorem keep_take (l : List Attr) (k : Nat) (h : k < l.length) : keep (l.take (k + 1)) = if (l[k]).val = [] then keep (l.take k) else keep (l.take k) ++ [l[k]] := by
  rw [List.take_succ_eq_append_getElem h, keep_snoc]
theorem row_lit (w : World) (base : Nat) (L : List Bs) (n : Nat) (cs : Array Value) (hb : base ≤ w.heap.size) (hm : n ≤ 1000) (hn : L.length = n) (hc : cs.toList = L.map fun t => .string (S t)) :
    Row (w.alloc (.cells cs 9)) base (.slice (some ⟨w.heap.size, 0, none⟩) n n) L := by
  unfold Row
  rw [hn, ← hc]
  exact World.ownsRow_lit w cs n hb (by unfold maxLen; omega) (by have := congrArg List.length hc; simp at this; omega)
theorem empty_is (x : Bs) : (S x).toList.isEmpty = decide (x = []) := by
  rw [ba_toList, S_list]
  cases x <;> rfl
theorem empty_test (x : Bs) : ((S x).toList == (⟨#[]⟩ : ByteArray).toList) = decide (x = []) := by
  rw [ba_toList, ba_toList, S_list]
  cases x <;> rfl

set_option maxHeartbeats 4000000 in
set_option maxRecDepth 100000 in
theorem altAttrs_any (a : Alt) (w : World) (hg : a.Good) :
    Calls Tryz.prog 17 #[altVal a] w fun e w' => ∃ v, e = .returned v ∧ Row w' w.heap.size v ((keep a.all).map Attr.line) ∧ Below w.heap.size w w' := by
  have l0 : a.type.length ≤ 100 := by rcases hg.type with h | h | h <;> rw [h] <;> decide
  have l1 : a.group.length ≤ 100 := by rcases hg.group with h | h <;> rw [h] <;> decide
  have l2 : a.name.length ≤ 100 := by obtain ⟨k, hk, h⟩ := hg.name; rw [h, Lib.decDigits_one (by omega)]; simp
  have l4 : a.auto.length ≤ 100 := by rcases hg.auto with h | h | h <;> rw [h] <;> decide
  have l5 : a.lang.length ≤ 100 := by rcases hg.lang with h | h | h <;> rw [h] <;> decide
  have l6 : a.uri.length ≤ 100 := by rcases hg.uri with h | h | h <;> rw [h] <;> decide
  have n0 : a.type ≠ [] := by rcases hg.type with h | h | h <;> rw [h] <;> decide
  have n1 : a.group ≠ [] := by rcases hg.group with h | h <;> rw [h] <;> decide
  have n2 : a.name ≠ [] := by obtain ⟨k, hk, h⟩ := hg.name; rw [h]; simp
  have HG := Lib.hid hg
  clear hg
  have HN := Lib.hid (And.intro n0 (And.intro n1 n2))
  clear n0 n1 n2
  unfold altVal altCells
  go_enter Tryz.func17, Tryz.ntmps17
  go_upto_region 1 with fail
  go_cut [0, 3] (fun _ v wx => AInv w 44 (altCells a) ((keep (a.all.take 3)).map Attr.line) v wx)
  case first =>
    refine still_tail 9 (by kernel_rfl) (by kernel_rfl) ?_
    intro w2 hw2
    simp only [List.take_succ_cons, List.take_zero, List.drop_succ_cons, List.drop_zero]
    have hbox : Box w2 w.heap.size 44 (altCells a) := by rw [hw2.out]; exact heap_alloc_new _ _
    have hbel : Below w.heap.size w w2 := by rw [hw2.out]; exact ((Below.refl _ _).alloc (Nat.le_refl _) _).drew
    have hsz : w.heap.size + 1 ≤ w2.heap.size := by rw [hw2.out]; simp
    have c0 := hbox.cell 0 rfl
    have c1 := hbox.cell 1 rfl
    have c2 := hbox.cell 2 rfl
    repeat (refine wpStill_step (fun K hK => ?_); go_simp; first | (refine hK _ ?_; clear hK K) | (refine ⟨_, (line_still _ _ _ _ (by simp; omega)), hK _ ?_⟩; clear hK K))
    refine wpStill_nil ?_
    go_wp2
    go_meet
    case rel =>
      have hk : keep (a.all.take 3) = a.all.take 3 := by simp [keep, Alt.all, HN.out]
      rw [hk]
      exact ⟨row_lit _ _ _ 3 _ (by omega) (by omega) rfl rfl, hbox.alloc _, hbel.alloc (by omega) _, by simp; omega⟩
  case rest =>
  have c3 := hcut.box.cell 3 rfl
  have HI := Lib.hid hcut
  clear hcut
  go_upto_if 15 with fail
  go_cut [3] (fun v wx => AInv w 44 (altCells a) ((keep (a.all.take 4)).map Attr.line) v wx)
  case first =>
    have e := keep_take a.all 3 (by simp [Alt.all])
    have hlen : ((keep (a.all.take 3)).map Attr.line).length ≤ 1000000 := by rw [List.length_map]; exact Nat.le_trans (keep_len _) (Nat.le_trans (List.length_take_le _ _) (by decide))
    by_cases h : a.dflt = true
    · have e2 : (keep (a.all.take 4)).map Attr.line = (keep (a.all.take 3)).map Attr.line ++ [Attr.line ⟨kDEFAULT, vYES, false⟩] := by rw [e]; simp [Alt.all, h, vYES]
      have E2 := Lib.hid e2
      clear e e2
      rw [h]
      go_wp2_with (first | (go_at_call 30; refine (line_any _ _ _ _ (by simp <;> omega)).mono ?_; rintro e w' ⟨rfl, rfl⟩) | (at_builtin; refine wpList_app_str rfl _ _ rfl (w.heap.size + 1) _ _ rfl (HI.out.row.alloc _) _ _ rfl (heap_alloc_new _ _) hlen (by have := HI.out.sz; simp; omega) ?_; intro v' w' hr hg))
      go_meet
      case rel => rw [E2.out]; exact HI.out.step _ hr hg
    · have h : a.dflt = false := by simpa using h
      have e2 : (keep (a.all.take 4)).map Attr.line = (keep (a.all.take 3)).map Attr.line ++ [Attr.line ⟨kDEFAULT, vNO, false⟩] := by rw [e]; simp [Alt.all, h, vNO]
      have E2 := Lib.hid e2
      clear e e2
      rw [h]
      go_wp2_with (first | (go_at_call 30; refine (line_any _ _ _ _ (by simp <;> omega)).mono ?_; rintro e w' ⟨rfl, rfl⟩) | (at_builtin; refine wpList_app_str rfl _ _ rfl (w.heap.size + 1) _ _ rfl (HI.out.row.alloc _) _ _ rfl (heap_alloc_new _ _) hlen (by have := HI.out.sz; simp; omega) ?_; intro v' w' hr hg))
      go_meet
      case rel => rw [E2.out]; exact HI.out.step _ hr hg
  case rest =>
  have c4 := hcut.box.cell 4 rfl
  have HI := Lib.hid hcut
  clear hcut
  go_upto_if 26 with fail
  go_cut [3] (fun v wx => AInv w 44 (altCells a) ((keep (a.all.take 5)).map Attr.line) v wx)
  case first =>
    have e := keep_take a.all 4 (by simp [Alt.all])
    by_cases h : a.auto = []
    · have tt : (!(S a.auto).toList.isEmpty) = false := by rw [empty_is, decide_eq_true h]; rfl
      have e2 : keep (a.all.take 5) = keep (a.all.take 4) := by rw [e]; simp [Alt.all, h]
      have E2 := Lib.hid e2
      clear e e2 h
      rw [tt]
      go_wp2_with fail
      go_meet
      case rel => rw [E2.out]; exact HI.out
    · have tt : (!(S a.auto).toList.isEmpty) = true := by rw [empty_is, decide_eq_false h]; rfl
      have e2 : (keep (a.all.take 5)).map Attr.line = (keep (a.all.take 4)).map Attr.line ++ [Attr.line ⟨kAUTO, a.auto, false⟩] := by rw [e]; simp [Alt.all, h]
      have E2 := Lib.hid e2
      have hlen : ((keep (a.all.take 4)).map Attr.line).length ≤ 1000000 := by rw [List.length_map]; exact Nat.le_trans (keep_len _) (Nat.le_trans (List.length_take_le _ _) (by decide))
      clear e e2 h
      rw [tt]
      go_wp2_with (first | (go_at_call 30; refine (line_any _ _ _ _ (by simp <;> omega)).mono ?_; rintro e w' ⟨rfl, rfl⟩) | (at_builtin; refine wpList_app_str rfl _ _ rfl (w.heap.size + 1) _ _ rfl (HI.out.row.alloc _) _ _ rfl (heap_alloc_new _ _) hlen (by have := HI.out.sz; simp; omega) ?_; intro v' w' hr hg))
      go_meet
      case rel => rw [E2.out]; exact HI.out.step _ hr hg
  case rest =>
  have c5 := hcut.box.cell 5 rfl
  have HI := Lib.hid hcut
  clear hcut
  go_upto_if 35 with fail
  go_cut [3] (fun v wx => AInv w 44 (altCells a) ((keep (a.all.take 6)).map Attr.line) v wx)
  case first =>
    have e := keep_take a.all 5 (by simp [Alt.all])
    by_cases h : a.lang = []
    · have tt : (!(S a.lang).toList.isEmpty) = false := by rw [empty_is, decide_eq_true h]; rfl
      have e2 : keep (a.all.take 6) = keep (a.all.take 5) := by rw [e]; simp [Alt.all, h]
      have E2 := Lib.hid e2
      clear e e2 h
      rw [tt]
      go_wp2_with fail
      go_meet
      case rel => rw [E2.out]; exact HI.out
    · have tt : (!(S a.lang).toList.isEmpty) = true := by rw [empty_is, decide_eq_false h]; rfl
      have e2 : (keep (a.all.take 6)).map Attr.line = (keep (a.all.take 5)).map Attr.line ++ [Attr.line ⟨kLANG, a.lang, true⟩] := by rw [e]; simp [Alt.all, h]
      have E2 := Lib.hid e2
      have hlen : ((keep (a.all.take 5)).map Attr.line).length ≤ 1000000 := by rw [List.length_map]; exact Nat.le_trans (keep_len _) (Nat.le_trans (List.length_take_le _ _) (by decide))
      clear e e2 h
      rw [tt]
      go_wp2_with (first | (go_at_call 30; refine (line_any _ _ _ _ (by simp <;> omega)).mono ?_; rintro e w' ⟨rfl, rfl⟩) | (at_builtin; refine wpList_app_str rfl _ _ rfl (w.heap.size + 1) _ _ rfl (HI.out.row.alloc _) _ _ rfl (heap_alloc_new _ _) hlen (by have := HI.out.sz; simp; omega) ?_; intro v' w' hr hg))
      go_meet
      case rel => rw [E2.out]; exact HI.out.step _ hr hg
  case rest =>
  have c6 := hcut.box.cell 6 rfl
  have HI := Lib.hid hcut
  clear hcut
  go_upto_if 44 with fail
  go_cut [3] (fun v wx => AInv w 44 (altCells a) ((keep (a.all.take 7)).map Attr.line) v wx)
  case first =>
    have e := keep_take a.all 6 (by simp [Alt.all])
    by_cases h : a.uri = []
    · have tt : (!(S a.uri).toList.isEmpty) = false := by rw [empty_is, decide_eq_true h]; rfl
      have e2 : keep (a.all.take 7) = keep (a.all.take 6) := by rw [e]; simp [Alt.all, h]
      have E2 := Lib.hid e2
      clear e e2 h
      rw [tt]
      go_wp2_with fail
      go_meet
      case rel => rw [E2.out]; exact HI.out
    · have tt : (!(S a.uri).toList.isEmpty) = true := by rw [empty_is, decide_eq_false h]; rfl
      have e2 : (keep (a.all.take 7)).map Attr.line = (keep (a.all.take 6)).map Attr.line ++ [Attr.line ⟨kURI, a.uri, true⟩] := by rw [e]; simp [Alt.all, h]
      have E2 := Lib.hid e2
      have hlen : ((keep (a.all.take 6)).map Attr.line).length ≤ 1000000 := by rw [List.length_map]; exact Nat.le_trans (keep_len _) (Nat.le_trans (List.length_take_le _ _) (by decide))
      clear e e2 h
      rw [tt]
      go_wp2_with (first | (go_at_call 30; refine (line_any _ _ _ _ (by simp <;> omega)).mono ?_; rintro e w' ⟨rfl, rfl⟩) | (at_builtin; refine wpList_app_str rfl _ _ rfl (w.heap.size + 1) _ _ rfl (HI.out.row.alloc _) _ _ rfl (heap_alloc_new _ _) hlen (by have := HI.out.sz; simp; omega) ?_; intro v' w' hr hg))
      go_meet
      case rel => rw [E2.out]; exact HI.out.step _ hr hg
  case rest =>
  have HI := Lib.hid hcut
  clear hcut
  go_wp2
  go_ret
  refine ⟨_, rfl, ?_, HI.out.bel⟩
  have := HI.out.row
  rw [show a.all.take 7 = a.all from rfl] at this
  exact this.mono (by omega)
end Go.Proofs.YtelkphcbopbhoaaGreatDoor
