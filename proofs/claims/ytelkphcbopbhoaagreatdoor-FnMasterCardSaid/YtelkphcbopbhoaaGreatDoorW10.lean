/-
  Walks: Write.
-/
import Derived.Test.YtelkphcbopbhoaaGreatDoorW9
import Derived.Test.YtelkphcbopbhoaaGreatDoorLA
import Derived.Deep.LoopGhost
namespace Go.Proofs.YtelkphcbopbhoaaGreatDoor
open Go Go.RowKit

theorem flatMap_get {α β : Type} (f : α → List β) (m : Nat) (hf : ∀ a, (f a).length = m) : ∀ (l : List α) (k j : Nat) (h : k < l.length), j < m → (l.flatMap f)[k * m + j]? = (f l[k])[j]?
  | [], k, j, h, _ => by simp at h
  | a :: r, 0, j, h, hj => by
    simp only [List.flatMap_cons, Nat.zero_mul, Nat.zero_add, List.getElem_cons_zero]
    rw [List.getElem?_append_left (by rw [hf]; exact hj)]
  | a :: r, k + 1, j, h, hj => by
    simp only [List.flatMap_cons, List.getElem_cons_succ]
    rw [List.getElem?_append_right (by rw [hf, Nat.add_mul]; omega), hf, show (k + 1) * m + j - m = k * m + j from by rw [Nat.add_mul]; omega]
    exact flatMap_get f m hf r k j (by simpa using h) hj

def ARow (w : World) (base : Nat) (v : Value) (l : List Alt) : Prop := w.ownsRow base 44 7 v l.length (l.flatMap altCells)
def VRow (w : World) (base : Nat) (v : Value) (l : List Vrt) : Prop := w.ownsRow base 46 13 v l.length (l.flatMap vrtCells)
theorem ARow.cell {w : World} {base g n cap : Nat} {l : List Alt} (h : ARow w base (.slice (some ⟨g, 0, none⟩) n cap) l) (hn : n = l.length) (k j : Nat) (hk : k < l.length) {u : Value} (hj : j < 7) (hu : (altCells l[k])[j]? = some u) : w.cell? ⟨g, k * 7 + j, none⟩ = some u := by
  subst hn
  refine own_cell h ?_
  rw [flatMap_get altCells 7 (fun _ => rfl) l k j hk hj]
  exact hu
theorem VRow.cell {w : World} {base g n cap : Nat} {l : List Vrt} (h : VRow w base (.slice (some ⟨g, 0, none⟩) n cap) l) (hn : n = l.length) (k j : Nat) (hk : k < l.length) {u : Value} (hj : j < 13) (hu : (vrtCells l[k])[j]? = some u) : w.cell? ⟨g, k * 13 + j, none⟩ = some u := by
  subst hn
  refine own_cell h ?_
  rw [flatMap_get vrtCells 13 (fun _ => rfl) l k j hk hj]
  exact hu

theorem Row.drewN {w : World} {base : Nat} {v : Value} {L : List Bs} (h : Row w base v L) (m : Nat) : Row (w.drewN m) base v L := h
theorem below_back {b c : World} {B : Nat} (hB : B ≤ b.heap.size) (h : Below b.heap.size b c) : Below B b c := ⟨h.os, h.tape, h.output, h.size, fun i hi => h.block i (by omega)⟩
theorem alt_keep_ne {a : Alt} (h : a.Good) : keep a.all ≠ [] := by
  have hg : a.group ≠ [] := by rcases h.group with h | h <;> rw [h] <;> decide
  have : (⟨kGROUP, a.group, true⟩ : Attr) ∈ keep a.all := List.mem_filter.2 ⟨by simp [Alt.all], by simpa using hg⟩
  exact List.ne_nil_of_mem this
theorem vrt_keep_ne (v : Vrt) : keep v.all ≠ [] := by
  have : (⟨kBAND, Lib.decDigits v.band, false⟩ : Attr) ∈ keep v.all := List.mem_filter.2 ⟨by simp [Vrt.all], by simpa using dec_ne _⟩
  exact List.ne_nil_of_mem this
def mstCells (ver : Nat) (ind : Bool) (va vv : Value) : List Value := [.int .i64 ver, .bool ind, va, vv]

set_option maxHeartbeats 8000000 in
set_option maxRecDepth 100000 in
theorem write_any (ver : Nat) (ind mix : Bool) (va vv : Value) (n : Int) (alts : List Alt) (vrts : List Vrt) (b : Nat) (w : World) (hver : ver < 8)
    (ha : ARow w b va alts) (hv : VRow w b vv vrts) (hal : alts.length ≤ 4) (hvl : vrts.length ≤ 4) (hag : ∀ a ∈ alts, a.Good) (hvg : ∀ v ∈ vrts, v.Good) (_hn0 : 0 ≤ n) (_hn1 : n < 4294967296) :
    Calls Tryz.prog 6 #[.agg (mstCells ver ind va vv).toArray, .bool mix, .int .u32 n] w fun e w' => ∃ la lv, e = .returned (.string (S (unlines (headLines ver ind ++ la ++ lv)))) ∧ Cat AltLines alts la ∧ Cat VrtLines vrts lv ∧ Below w.heap.size w w' := by
  obtain ⟨A, c, rfl⟩ := own_shape ha
  obtain ⟨A2, c2, rfl⟩ := own_shape hv
  have hdl : (S (Lib.decDigits ver)).size ≤ 20 := dec_length_le _ 20 (by omega) (by omega)
  have HAG := Lib.hid hag
  have HVG := Lib.hid hvg
  clear hag hvg
  unfold mstCells
  go_enter Tryz.func6, Tryz.ntmps6
  go_upto_region 1 with fail
  obtain ⟨w0, hw0⟩ : ∃ w0, w0 = w.alloc (.cells #[.int .i64 ver, .bool ind, .slice A alts.length c, .slice A2 vrts.length c2] 27) := ⟨_, rfl⟩
  rw [← hw0]
  have hbox : Box w0 w.heap.size 27 [.int .i64 ver, .bool ind, .slice A alts.length c, .slice A2 vrts.length c2] := by rw [hw0]; exact heap_alloc_new _ _
  have hbel0 : Hid (Below w.heap.size w w0) := by show Below _ _ _; rw [hw0]; exact (Below.refl _ _).alloc (Nat.le_refl _) _
  have hsz0 : w.heap.size + 1 ≤ w0.heap.size := by rw [hw0]; simp
  have hA0 : Hid (ARow w0 b (.slice A alts.length c) alts) := by show ARow _ _ _ _; rw [hw0]; exact ha.alloc _
  have hV0 : Hid (VRow w0 b (.slice A2 vrts.length c2) vrts) := by show VRow _ _ _ _; rw [hw0]; exact hv.alloc _
  clear hw0 ha hv
  have x0 := hbox.cell 0 rfl
  have x1 := hbox.cell 1 rfl
  have x2 := hbox.cell 2 rfl
  have HB := Lib.hid hbox
  clear hbox
  go_upto_if 21 with (go_at_call 10; refine (dec_any ver _ (by omega)).mono ?_; rintro e w' ⟨rfl, rfl⟩)
  go_cut [0, 7] (fun _ s wx => s = .string (S (unlines (headLines ver ind))) ∧ wx = w0)
  case first =>
    cases ind
    · go_wp2_with fail
      go_meet
      case rel =>
        refine ⟨?_, rfl⟩
        rw [show (⟨#[35, 69, 88, 84, 77, 51, 85, 10, 35, 69, 88, 84, 45, 88, 45, 86, 69, 82, 83, 73, 79, 78, 58]⟩ : ByteArray) = S (tM3U ++ 10 :: tVER) from rfl, show (⟨#[10]⟩ : ByteArray) = S [10] from rfl, S_append, S_append]
        simp [unlines, headLines]
    · go_wp2_with fail
      go_meet
      case rel =>
        refine ⟨?_, rfl⟩
        rw [show (⟨#[35, 69, 88, 84, 77, 51, 85, 10, 35, 69, 88, 84, 45, 88, 45, 86, 69, 82, 83, 73, 79, 78, 58]⟩ : ByteArray) = S (tM3U ++ 10 :: tVER) from rfl, show (⟨#[10]⟩ : ByteArray) = S [10] from rfl,
          show (⟨#[35, 69, 88, 84, 45, 88, 45, 73, 78, 68, 69, 80, 69, 78, 68, 69, 78, 84, 45, 83, 69, 71, 77, 69, 78, 84, 83, 10]⟩ : ByteArray) = S (tIND ++ [10]) from rfl, S_append, S_append, S_append]
        simp [unlines, headLines]
  case rest =>
  obtain ⟨rfl, rfl⟩ := hcut
  have hhead : (unlines (headLines ver ind)).length ≤ 100 := by
    have := dec_length_le ver 20 (by omega) (by omega)
    cases ind <;> simp [unlines, headLines, tM3U, tVER, tIND] <;> omega
  generalize hH : headLines ver ind = H at *
  have HH := Lib.hid hH
  clear hH
  have hali : (alts.length : Int) ≤ 4 := by omega
  have hvli : (vrts.length : Int) ≤ 4 := by omega
  go_wp2_with fail
  go_loopg [7, 27] alts.length (fun gk s a wr => ∃ (k : Nat) (la : List Bs), k + gk = alts.length ∧ a = .int .i64 k ∧ s = .string (S (unlines (H ++ la))) ∧ Hid (Cat AltLines (alts.take k) la) ∧ Below wc.heap.size wc wr)
  case atStart => exact ⟨0, [], by omega, rfl, by rw [List.append_nil], Cat.nil, Below.refl _ _⟩
  case round =>
    obtain ⟨k, la, hk, rfl, rfl, hcat, hbel⟩ := hrel
    by_cases hlt : k < alts.length
    · have hlt' : (k : Int) < (alts.length : Int) := by omega
      have hA1 : ARow wr b (.slice A alts.length c) alts := row_below hA0.out hbel
      obtain ⟨g, cap, hv, hg1, hg2⟩ := World.ownsRow.form hA1 (by omega)
      cases hv
      obtain ⟨x, hx⟩ : ∃ x, x = alts[k] := ⟨_, rfl⟩
      have hcel : ∀ (j : Nat) (u : Value), j < 7 → (altCells x)[j]? = some u → wr.cell? ⟨g, k * 7 + j, none⟩ = some u := fun j u hj hu => hA1.cell rfl k j hlt hj (by rw [← hx]; exact hu)
      have y0 := hcel 0 _ (by omega) rfl
      have y1 := hcel 1 _ (by omega) rfl
      have y2 := hcel 2 _ (by omega) rfl
      have y3 := hcel 3 _ (by omega) rfl
      have y4 := hcel 4 _ (by omega) rfl
      have y5 := hcel 5 _ (by omega) rfl
      have y6 := hcel 6 _ (by omega) rfl
      rw [Nat.add_zero] at y0
      have hxg : Hid (x.Good) := by show x.Good; rw [hx]; exact HAG.out _ (List.getElem_mem hlt)
      have HX := Lib.hid hx
      have HBE := Lib.hid hbel
      clear hx hcel hA1 hbel x0 x1 x2
      go_upto_if 34 with (go_at_call 17; refine (altAttrs_any x _ hxg.out).mono ?_; rintro e w' ⟨r, rfl, hr, hb2⟩)
      have B1 : Below wc.heap.size wc w' := HBE.out.trans (below_back (HBE.out.size) (below_then' ((Below.refl _ _).alloc (Nat.le_refl _) _) hb2))
      have R1 : Row w' 0 r ((x.all |> keep).map Attr.line) := Row.mono hr (Nat.zero_le _)
      clear hb2 hr
      have hk0 : 0 < ((keep x.all).map Attr.line).length := by rw [List.length_map]; exact List.length_pos_iff.2 (alt_keep_ne hxg.out)
      have hk1 : ((keep x.all).map Attr.line).length ≤ 100 := by rw [List.length_map]; exact Nat.le_trans (keep_len _) (by simp [Alt.all])
      go_cut [10] from 28 to 48 (fun v wx => ∃ L, Hid (L.Perm ((keep x.all).map Attr.line)) ∧ Hid (Row wx 0 v L) ∧ Hid (Below wc.heap.size wc wx))
      case first =>
        cases mix
        · go_wp2_with fail
          go_meet
          case rel => exact ⟨_, List.Perm.refl _, R1, B1⟩
        · go_wp2_with (go_at_call 18; refine (mixed_any _ _ 0 _ _ R1 hk0 (by omega) (by omega) (by omega)).mono ?_; rintro e w2 ⟨v2, L, rfl, hp, hr2, hb2⟩)
          go_meet
          case rel => exact ⟨_, hp, Row.mono hr2 (Nat.zero_le _), B1.trans (below_back B1.size hb2)⟩
      case rest =>
      obtain ⟨L, hp, HRO, HBO⟩ := hcut
      clear R1 B1
      have hL0 : 0 < L.length := by have := hp.out.length_eq; omega
      have hL1 : L.length ≤ 100 := by have := hp.out.length_eq; omega
      have hjl := alt_joined_le hxg.out hp.out
      have hcl := hcat.out.len (m := 371) (fun a ha u h => h.len (HAG.out a (List.mem_of_mem_take ha)))
      have hul : (unlines (H ++ la)).length ≤ 2000 := by
        rw [unlines_append, List.length_append]
        have : (List.take k alts).length ≤ 4 := by simp; omega
        have : (List.take k alts).length * 371 ≤ 4 * 371 := Nat.mul_le_mul_right _ this
        omega
      have hs1 : (S (unlines (H ++ la))).size ≤ 2000 := hul
      have hs2 : (S (joined L)).size ≤ 357 := hjl
      obtain ⟨U, hU⟩ : ∃ U, U = S (unlines (H ++ la)) := ⟨_, rfl⟩
      rw [← hU] at hs1 ⊢
      have HU := Lib.hid hU
      clear hU hul hcl hk0 hk1
      go_wp2_with (go_at_call 19; refine (joined_any _ L 0 _ HRO.out hL0 (by omega) (by omega)).mono ?_; rintro e w' ⟨rfl, rfl⟩)
      go_roundg (gk - 1)
      case measure => omega
      case rel =>
        refine ⟨k + 1, la ++ [tMEDIA ++ joined L], by omega, by go_num, ?_, ?_, HBO.out⟩
        · rw [HU.out, show (⟨#[35, 69, 88, 84, 45, 88, 45, 77, 69, 68, 73, 65, 58]⟩ : ByteArray) = S tMEDIA from rfl, show (⟨#[10]⟩ : ByteArray) = S [10] from rfl, S_append, S_append, S_append]
          simp [unlines]
        · show Cat _ _ _
          rw [List.take_succ_eq_append_getElem hlt, ← HX.out]
          exact .snoc hcat.out ⟨L, hp.out, rfl⟩
    · obtain rfl : k = alts.length := by omega
      have hge : ¬ (alts.length : Int) < (alts.length : Int) := by omega
      have hbx := HB.out.below hbel
      have x3 := hbx.cell 3 rfl
      have HBX := Lib.hid hbx
      have hlaT : Hid (Cat AltLines alts la) := by have := hcat.out; rwa [List.take_length] at this
      have hcl := hlaT.out.len (m := 371) (fun a ha u h => h.len (HAG.out a ha))
      have hul : (unlines (H ++ la)).length ≤ 2000 := by
        rw [unlines_append, List.length_append]
        have : alts.length * 371 ≤ 4 * 371 := Nat.mul_le_mul_right _ hal
        omega
      have HBE := Lib.hid hbel
      clear hcat hbx hbel hlt hk hcl x0 x1 x2
      obtain ⟨H2, hH2⟩ : ∃ H2, H2 = H ++ la := ⟨_, rfl⟩
      rw [← hH2] at hul ⊢
      have HH2 := Lib.hid hH2
      clear hH2
      obtain ⟨wo, hwo⟩ : ∃ wo : World, wo = wr := ⟨_, rfl⟩
      subst hwo
      go_wp2_with fail
      go_loopg [7, 52] vrts.length (fun gk s a wq => ∃ (k : Nat) (lv : List Bs), k + gk = vrts.length ∧ a = .int .i64 k ∧ s = .string (S (unlines (H2 ++ lv))) ∧ Hid (Cat VrtLines (vrts.take k) lv) ∧ Below wo.heap.size wo wq)
      case atStart => exact ⟨0, [], by omega, rfl, by rw [List.append_nil], Cat.nil, Below.refl _ _⟩
      case round =>
        obtain ⟨k, lv, hk, rfl, rfl, hcat, hbel⟩ := hrel
        by_cases hlt : k < vrts.length
        · have hlt' : (k : Int) < (vrts.length : Int) := by omega
          have hV1 : VRow wr b (.slice A2 vrts.length c2) vrts := row_below (row_below hV0.out HBE.out) hbel
          obtain ⟨g, cap, hv, hg1, hg2⟩ := World.ownsRow.form hV1 (by omega)
          cases hv
          obtain ⟨x, hx⟩ : ∃ x, x = vrts[k] := ⟨_, rfl⟩
          have hcel : ∀ (j : Nat) (u : Value), j < 13 → (vrtCells x)[j]? = some u → wr.cell? ⟨g, k * 13 + j, none⟩ = some u := fun j u hj hu => hV1.cell rfl k j hlt hj (by rw [← hx]; exact hu)
          have y0 := hcel 0 _ (by omega) rfl
          have y1 := hcel 1 _ (by omega) rfl
          have y2 := hcel 2 _ (by omega) rfl
          have y3 := hcel 3 _ (by omega) rfl
          have y4 := hcel 4 _ (by omega) rfl
          have y5 := hcel 5 _ (by omega) rfl
          have y6 := hcel 6 _ (by omega) rfl
          have y7 := hcel 7 _ (by omega) rfl
          have y8 := hcel 8 _ (by omega) rfl
          have y9 := hcel 9 _ (by omega) rfl
          have y10 := hcel 10 _ (by omega) rfl
          have y11 := hcel 11 _ (by omega) rfl
          have y12 := hcel 12 _ (by omega) rfl
          rw [Nat.add_zero] at y0
          have hxg : Hid (x.Good) := by show x.Good; rw [hx]; exact HVG.out _ (List.getElem_mem hlt)
          have HX := Lib.hid hx
          have HBQ := Lib.hid hbel
          clear hx hcel hV1 hbel x3
          go_upto_if 59 with (go_at_call 20; refine (vrtAttrs_any x _ hxg.out).mono ?_; rintro e w' ⟨r, rfl, hr, hb2⟩)
          have nb : Hid (Box (wr.alloc (.cells (vrtCells x).toArray 46)) wr.heap.size 46 (vrtCells x)) := heap_alloc_new _ _
          have B1 : Below wo.heap.size wo w' := HBQ.out.trans (below_back (HBQ.out.size) (below_then' ((Below.refl _ _).alloc (Nat.le_refl _) _) hb2))
          have R1 : Row w' 0 r ((keep x.all).map Attr.line) := Row.mono hr (Nat.zero_le _)
          have N1 : Box w' wr.heap.size 46 (vrtCells x) := nb.out.below hb2
          clear hb2 hr
          have hk0 : 0 < ((keep x.all).map Attr.line).length := by rw [List.length_map]; exact List.length_pos_iff.2 (vrt_keep_ne x)
          have hk1 : ((keep x.all).map Attr.line).length ≤ 100 := by rw [List.length_map]; exact Nat.le_trans (keep_len _) (by simp [Vrt.all])
          go_cut [13] from 53 to 78 (fun v wx => ∃ L, Hid (L.Perm ((keep x.all).map Attr.line)) ∧ Hid (Row wx 0 v L) ∧ Hid (Below wo.heap.size wo wx) ∧ Hid (Box wx wr.heap.size 46 (vrtCells x)))
          case first =>
            cases mix
            · go_wp2_with fail
              go_meet
              case rel => exact ⟨_, List.Perm.refl _, R1, B1, N1⟩
            · go_wp2_with (go_at_call 18; refine (mixed_any _ _ 0 _ _ R1 hk0 (by omega) (by omega) (by omega)).mono ?_; rintro e w2 ⟨v2, L, rfl, hp, hr2, hb2⟩)
              go_meet
              case rel => exact ⟨_, hp, Row.mono hr2 (Nat.zero_le _), B1.trans (below_back B1.size hb2), N1.below hb2⟩
          case rest =>
          obtain ⟨L, hp, HRO, HBO, HNO⟩ := hcut
          clear R1 B1 N1
          have hL0 : 0 < L.length := by have := hp.out.length_eq; omega
          have hL1 : L.length ≤ 100 := by have := hp.out.length_eq; omega
          have hjl := vrt_joined_le hxg.out hp.out
          have hcl := hcat.out.len (m := 600) (fun a ha u h => h.len (HVG.out a (List.mem_of_mem_take ha)))
          have hul2 : (unlines (H2 ++ lv)).length ≤ 6000 := by
            rw [unlines_append, List.length_append]
            have : (List.take k vrts).length ≤ 4 := by simp; omega
            have : (List.take k vrts).length * 600 ≤ 4 * 600 := Nat.mul_le_mul_right _ this
            omega
          have hs1 : (S (unlines (H2 ++ lv))).size ≤ 6000 := hul2
          have hs2 : (S (joined L)).size ≤ 561 := hjl
          have hs3 : (S x.uri).size ≤ 20 := by obtain ⟨t, ht, ht2, _⟩ := hxg.out.uri; rw [ht, S_size]; simp; omega
          have z0 := HNO.out.cell 0 rfl
          obtain ⟨U, hU⟩ : ∃ U, U = S (unlines (H2 ++ lv)) := ⟨_, rfl⟩
          rw [← hU] at hs1 ⊢
          have HU := Lib.hid hU
          clear hU hul2 hcl hk0 hk1
          go_wp2_with fail
          go_quiet ((go_at_call 19; exact Calls.quiet_of_same ((joined_any _ L 0 _ (Row.drewN HRO.out _) hL0 (by omega) (by omega)).mono fun _ _ h => ⟨h.1, h.2.symm⟩)))
          go_wp2_with fail
          go_roundg (gk - 1)
          case measure => omega
          case rel =>
            refine ⟨k + 1, lv ++ [tINF ++ joined L, x.uri], by omega, by go_num, ?_, ?_, below_drewN' HBO.out _⟩
            · rw [HU.out, show (⟨#[35, 69, 88, 84, 45, 88, 45, 83, 84, 82, 69, 65, 77, 45, 73, 78, 70, 58]⟩ : ByteArray) = S tINF from rfl, show (⟨#[10]⟩ : ByteArray) = S [10] from rfl, S_append, S_append, S_append, S_append, S_append]
              simp [unlines]
            · show Cat _ _ _
              rw [List.take_succ_eq_append_getElem hlt, ← HX.out]
              exact .snoc hcat.out ⟨L, hp.out, rfl⟩
        · obtain rfl : k = vrts.length := by omega
          have hge : ¬ (vrts.length : Int) < (vrts.length : Int) := by omega
          have hlvT : Hid (Cat VrtLines vrts lv) := by have := hcat.out; rwa [List.take_length] at this
          have HBQ := Lib.hid hbel
          clear hbel x3
          go_wp2_with fail
          go_ret
          refine ⟨la, lv, ?_, hlaT.out, hlvT.out, hbel0.out.trans (below_back hbel0.out.size (HBE.out.trans (below_back HBE.out.size HBQ.out)))⟩
          rw [HH2.out, HH.out]
          show Ending.returned (.string _) = _
          simp
end Go.Proofs.YtelkphcbopbhoaaGreatDoor
