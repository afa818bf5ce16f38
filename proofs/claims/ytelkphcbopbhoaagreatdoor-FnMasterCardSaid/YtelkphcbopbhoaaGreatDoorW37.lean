/-
  The written lines, read.
  A written master playlist's lines take the reader to what was written.
-/
import Derived.Test.YtelkphcbopbhoaaGreatDoorW33
import Derived.Test.YtelkphcbopbhoaaGreatDoorLA
namespace Go.Proofs.YtelkphcbopbhoaaGreatDoor
open Go Go.RowKit

theorem tidy_asc {l : Bs} (h : Tidy l) : ∀ c ∈ l ++ [10], c.toNat < 128 := by
  intro c hc
  rcases List.mem_append.1 hc with h1 | h1
  · exact pr_lt (h.pr c h1)
  · rw [List.mem_singleton.1 h1]; decide
theorem line_m3u (s : DSt) : LineOK (tM3U ++ [10]) s { s with m3u := true } := by
  intro B0 B P St strict w h hE _ _ _ _
  obtain ⟨vbs, abs, h⟩ := h
  refine (dec_m3u (strict := strict) _ h hE (tidy_m3u.trim (by decide)).1 (by decide) (tidy_asc tidy_m3u)).mono ?_
  rintro e w' ⟨rfl, h1, h2⟩
  exact ⟨rfl, ⟨vbs, abs, h1⟩, h2⟩
theorem line_ind (s : DSt) : LineOK (tIND ++ [10]) s { s with ind := true } := by
  intro B0 B P St strict w h hE _ _ _ _
  obtain ⟨vbs, abs, h⟩ := h
  refine (dec_ind (strict := strict) _ h hE (tidy_ind.trim (by decide)).1 (by decide) (tidy_asc tidy_ind)).mono ?_
  rintro e w' ⟨rfl, h1, h2⟩
  exact ⟨rfl, ⟨vbs, abs, h1⟩, h2⟩
theorem line_ver (s : DSt) (n : Nat) (hn : n ≤ 255) : LineOK (tVER ++ Lib.decDigits n ++ [10]) s { s with ver := n } := by
  intro B0 B P St strict w h hE _ _ _ _
  obtain ⟨vbs, abs, h⟩ := h
  have hl := dec_length_le n 20 (by omega) (by omega)
  refine (dec_ver (strict := strict) _ n h hE ((tidy_ver n).trim (by simp [tVER])).1 (by simp [tVER]; omega) (tidy_asc (tidy_ver n)) hn).mono ?_
  rintro e w' ⟨rfl, h1, h2⟩
  exact ⟨rfl, ⟨vbs, abs, h1⟩, h2⟩
theorem last_tMEDIA : ∀ c, tMEDIA.getLast? = some c → c ≠ 32 := by
  intro c hc
  have : (58 : UInt8) = c := by simpa [tMEDIA] using hc
  rw [← this]; decide
theorem last_tINF : ∀ c, tINF.getLast? = some c → c ≠ 32 := by
  intro c hc
  have : (58 : UInt8) = c := by simpa [tINF] using hc
  rw [← this]; decide
theorem line_alt (s : DSt) {a : Alt} (hg : a.Good) {L : List Bs} (hL : L.Perm ((keep a.all).map Attr.line)) (hs : s.ats.length ≤ 1000) : LineOK (tMEDIA ++ joined L ++ [10]) s { s with ats := s.ats ++ [a] } := by
  intro B0 B P St strict w h hE _ _ _ hB
  obtain ⟨vbs, abs, h⟩ := h
  have hJ := alt_joined_le hg hL
  have ht : Tidy (tMEDIA ++ joined L) := tidy_attrs tMEDIA (List.all_eq_true.1 (by decide)) ⟨_, rfl⟩ last_tMEDIA (Alt.good_attrs hg) (Alt.vals_pr hg) hL
  obtain ⟨F, hF⟩ := attrs_of (all := a.all) (by simp only [Alt.all, List.map_cons, List.map_nil]; decide) (Alt.good_attrs hg) hL
  have hab : abs.length ≤ 1000 := by
    obtain ⟨vv, lt, lv, va, hD, _⟩ := h
    rw [← hD.a.len]; exact hs
  refine (dec_alt (strict := strict) _ _ a h hE hB hg hF (ht.trim (by simp [tMEDIA])).1 (by simp [tMEDIA]; omega) (tidy_asc ht) (by omega) hab).mono ?_
  rintro e w' ⟨rfl, ⟨A, h1⟩, h2⟩
  exact ⟨rfl, ⟨vbs, _, h1⟩, h2⟩
theorem line_inf (s : DSt) (hi : s.inf = false) {v : Vrt} (hg : v.Good) {L : List Bs} (hL : L.Perm ((keep v.all).map Attr.line)) (hs : s.vs.length ≤ 1000) : LineOK (tINF ++ joined L ++ [10]) s { s with inf := true, vs := s.vs ++ [{ v with uri := [] }] } := by
  intro B0 B P St strict w h hE h1 h2 h3 hB
  obtain ⟨vbs, abs, h⟩ := h
  rw [hi] at h
  have hJ := vrt_joined_le hg hL
  have ht : Tidy (tINF ++ joined L) := tidy_attrs tINF (List.all_eq_true.1 (by decide)) ⟨_, rfl⟩ last_tINF (Vrt.good_attrs hg) (Vrt.vals_pr hg) hL
  obtain ⟨F, hF⟩ := attrs_of (all := v.all) (by simp only [Vrt.all, List.map_cons, List.map_nil]; decide) (Vrt.good_attrs hg) hL
  have hvb : vbs.length ≤ 1000 := by
    obtain ⟨vv, lt, lv, va, hD, _⟩ := h
    rw [← hD.v.len]; exact hs
  refine (dec_inf (strict := strict) _ _ v h hE ⟨h1, h2, h3⟩ hB hg hF (ht.trim (by simp [tINF])).1 (by simp [tINF]; omega) (tidy_asc ht) (by omega) hvb).mono ?_
  rintro e w' ⟨rfl, ⟨A, h1⟩, h2⟩
  exact ⟨rfl, ⟨_, abs, h1⟩, h2⟩
theorem line_uri (s : DSt) (hi : s.inf = true) (vs : List Vrt) {v : Vrt} (hv : s.vs = vs ++ [{ v with uri := [] }]) (hg : v.Good) : LineOK (v.uri ++ [10]) s { s with inf := false, vs := vs ++ [v] } := by
  intro B0 B P St strict w h hE _ _ _ _
  obtain ⟨vbs, abs, h⟩ := h
  rw [hi, hv] at h
  obtain ⟨ht, c, t, hc, hc2⟩ := tidy_uri hg
  obtain ⟨t2, ht2, hl2, _⟩ := hg.uri
  refine (dec_uri (strict := strict) _ v.uri h hE (ht.trim (by rw [hc]; simp)).1 (by rw [List.length_append, ht2]; simp; omega) (tidy_asc ht) ⟨c, t, hc, hc2⟩).mono ?_
  rintro e w' ⟨rfl, h1, h2⟩
  exact ⟨rfl, ⟨vbs, abs, h1⟩, h2⟩
theorem Reads.append {s s1 s2 : DSt} {a b : List Bs} (h : Reads s a s1) (k : Reads s1 b s2) : Reads s (a ++ b) s2 := by
  induction h with
  | nil s => exact k
  | cons h1 h2 _ ih => exact .cons h1 h2 (ih k)
theorem Reads.one {r : Bs} {s s1 : DSt} (h1 : ∀ c ∈ r, c ≠ 10) (h2 : LineOK (r ++ [10]) s s1) : Reads s [r] s1 := .cons h1 h2 (.nil _)
theorem tidy_nl {l : Bs} (h : Tidy l) : ∀ c ∈ l, c ≠ 10 := fun c hc => pr_ne (h.pr c hc)
end Go.Proofs.YtelkphcbopbhoaaGreatDoor

namespace Go.Proofs.YtelkphcbopbhoaaGreatDoor
open Go Go.RowKit

theorem reads_alts {alts : List Alt} {la : List Bs} (h : Cat AltLines alts la) (hg : ∀ a ∈ alts, a.Good) (hl : alts.length ≤ 4) (s : DSt) (hs : s.ats = []) : Reads s la { s with ats := alts } := by
  induction h with
  | nil => rw [← hs]; exact .nil _
  | snoc h1 h2 ih =>
    rename_i l a t u
    have hl' : l.length ≤ 4 := by simp at hl; omega
    refine Reads.append (ih (fun x hx => hg x (by simp [hx])) hl') ?_
    obtain ⟨L, hL, rfl⟩ := h2
    have hga := hg a (by simp)
    have ht : Tidy (tMEDIA ++ joined L) := tidy_attrs tMEDIA (List.all_eq_true.1 (by decide)) ⟨_, rfl⟩ last_tMEDIA (Alt.good_attrs hga) (Alt.vals_pr hga) hL
    exact Reads.one (tidy_nl ht) (line_alt { s with ats := l } hga hL (by simp only; omega))
theorem reads_vrts {vrts : List Vrt} {lv : List Bs} (h : Cat VrtLines vrts lv) (hg : ∀ v ∈ vrts, v.Good) (hl : vrts.length ≤ 4) (s : DSt) (hs : s.vs = []) (hi : s.inf = false) : Reads s lv { s with vs := vrts } := by
  induction h with
  | nil => rw [← hs]; exact .nil _
  | snoc h1 h2 ih =>
    rename_i l v t u
    have hl' : l.length ≤ 4 := by simp at hl; omega
    refine Reads.append (ih (fun x hx => hg x (by simp [hx])) hl') ?_
    obtain ⟨L, hL, rfl⟩ := h2
    have hgv := hg v (by simp)
    have ht : Tidy (tINF ++ joined L) := tidy_attrs tINF (List.all_eq_true.1 (by decide)) ⟨_, rfl⟩ last_tINF (Vrt.good_attrs hgv) (Vrt.vals_pr hgv) hL
    have r1 := line_inf { s with vs := l } hi hgv hL (by simp only; omega)
    have r2 := line_uri { s with inf := true, vs := l ++ [{ v with uri := [] }] } rfl l rfl hgv
    refine .cons (tidy_nl ht) r1 (.cons (tidy_nl (tidy_uri hgv).1) r2 ?_)
    have e : ({ s with inf := false, vs := l ++ [v] } : DSt) = { s with vs := l ++ [v] } := by rw [← hi]
    rw [← e]
    exact .nil _
theorem reads_all {ver : Nat} {ind : Bool} {alts : List Alt} {vrts : List Vrt} {la lv : List Bs} (hver : ver < 8) (hA : Cat AltLines alts la) (hV : Cat VrtLines vrts lv) (hag : ∀ a ∈ alts, a.Good) (hvg : ∀ v ∈ vrts, v.Good) (hal : alts.length ≤ 4) (hvl : vrts.length ≤ 4) :
    Reads ⟨3, false, false, false, [], []⟩ (headLines ver ind ++ la ++ lv) ⟨ver, ind, true, false, vrts, alts⟩ := by
  have h1 : Reads ⟨3, false, false, false, [], []⟩ (headLines ver ind) ⟨ver, ind, true, false, [], []⟩ := by
    refine .cons (tidy_nl tidy_m3u) (line_m3u _) (.cons (tidy_nl (tidy_ver ver)) (line_ver _ ver (by omega)) ?_)
    cases ind
    · exact .nil _
    · exact Reads.one (tidy_nl tidy_ind) (line_ind _)
  exact (h1.append (reads_alts hA hag hal _ rfl)).append (reads_vrts hV hvg hvl _ rfl rfl)
/-- A line that is no key and no map. -/
structure Fine (l : Bs) : Prop where
  tidy : Tidy l
  ne : l ≠ []
  key : tKEY.isPrefixOf l = false
  map : tMAP.isPrefixOf l = false
theorem cat_fine {α : Type} {R : α → List Bs → Prop} {l : List α} {t : List Bs} (h : Cat R l t) (hf : ∀ a ∈ l, ∀ u, R a u → ∀ x ∈ u, Fine x) : ∀ x ∈ t, Fine x := by
  induction h with
  | nil => intro x hx; cases hx
  | snoc h1 h2 ih =>
    intro x hx
    rcases List.mem_append.1 hx with hx | hx
    · exact ih (fun a ha => hf a (by simp [ha])) x hx
    · exact hf _ (by simp) _ h2 x hx
theorem fine_all {ver : Nat} {ind : Bool} {alts : List Alt} {vrts : List Vrt} {la lv : List Bs} (hA : Cat AltLines alts la) (hV : Cat VrtLines vrts lv) (hag : ∀ a ∈ alts, a.Good) (hvg : ∀ v ∈ vrts, v.Good) : ∀ x ∈ headLines ver ind ++ la ++ lv, Fine x := by
  intro x hx
  rcases List.mem_append.1 hx with hx | hx
  · rcases List.mem_append.1 hx with hx | hx
    · unfold headLines at hx
      rcases List.mem_append.1 hx with hx | hx
      · simp only [List.mem_cons, List.not_mem_nil, or_false] at hx
        rcases hx with rfl | rfl
        · exact ⟨tidy_m3u, by decide, by decide, by decide⟩
        · exact ⟨tidy_ver ver, by simp [tVER], by rfl, by rfl⟩
      · cases ind
        · cases hx
        · simp only [if_true, List.mem_singleton] at hx
          subst hx
          exact ⟨tidy_ind, by decide, by decide, by decide⟩
    · refine cat_fine hA (fun a ha u hu y hy => ?_) x hx
      obtain ⟨L, hL, rfl⟩ := hu
      rw [List.mem_singleton.1 hy]
      exact ⟨tidy_attrs tMEDIA (List.all_eq_true.1 (by decide)) ⟨_, rfl⟩ last_tMEDIA (Alt.good_attrs (hag a ha)) (Alt.vals_pr (hag a ha)) hL, by simp [tMEDIA], by rfl, by rfl⟩
  · refine cat_fine hV (fun v hv u hu y hy => ?_) x hx
    obtain ⟨L, hL, rfl⟩ := hu
    simp only [List.mem_cons, List.not_mem_nil, or_false] at hy
    rcases hy with rfl | rfl
    · exact ⟨tidy_attrs tINF (List.all_eq_true.1 (by decide)) ⟨_, rfl⟩ last_tINF (Vrt.good_attrs (hvg v hv)) (Vrt.vals_pr (hvg v hv)) hL, by simp [tINF], by rfl, by rfl⟩
    · obtain ⟨ht, c, t, hc, hc2⟩ := tidy_uri (hvg v hv)
      have h35 : ((35 : UInt8) == c) = false := by simpa using fun e => hc2 e.symm
      exact ⟨ht, by rw [hc]; simp, by rw [hc]; simp [tKEY, List.isPrefixOf, h35], by rw [hc]; simp [tMAP, List.isPrefixOf, h35]⟩
theorem text_len {ver : Nat} {ind : Bool} {alts : List Alt} {vrts : List Vrt} {la lv : List Bs} (hver : ver < 8) (hA : Cat AltLines alts la) (hV : Cat VrtLines vrts lv) (hag : ∀ a ∈ alts, a.Good) (hvg : ∀ v ∈ vrts, v.Good) (hal : alts.length ≤ 4) (hvl : vrts.length ≤ 4) :
    (unlines (headLines ver ind ++ la ++ lv)).length ≤ 8192 := by
  have h1 := hA.len (m := 371) (fun a ha u hu => AltLines.len (hag a ha) hu)
  have h2 := hV.len (m := 600) (fun v hv u hu => VrtLines.len (hvg v hv) hu)
  have h3 : (unlines (headLines ver ind)).length ≤ 100 := by
    have := dec_length_le ver 20 (by omega) (by omega)
    unfold headLines
    cases ind <;> simp [unlines, tM3U, tVER, tIND] <;> omega
  rw [unlines_append, unlines_append, List.length_append, List.length_append]
  have : alts.length * 371 ≤ 4 * 371 := Nat.mul_le_mul_right _ hal
  have : vrts.length * 600 ≤ 4 * 600 := Nat.mul_le_mul_right _ hvl
  omega
theorem text_fine {ls : List Bs} (hf : ∀ x ∈ ls, Fine x) (hl : (unlines ls).length ≤ 8192) : (∀ c ∈ unlines ls, c.toNat < 128) ∧ ∀ p ∈ (pieces (unlines ls)).map Lib.trimSpace, p.length ≤ 8192 ∧ tKEY.isPrefixOf p = false ∧ tMAP.isPrefixOf p = false := by
  refine ⟨?_, ?_⟩
  · intro c hc
    obtain ⟨x, hx, h⟩ := List.mem_flatMap.1 hc
    exact tidy_asc (hf x hx).tidy c h
  · intro p hp
    rw [pieces_unlines ls (fun l h => tidy_nl (hf l h).tidy)] at hp
    obtain ⟨q, hq, rfl⟩ := List.mem_map.1 hp
    rcases List.mem_append.1 hq with hq | hq
    · have h := hf q hq
      rw [(h.tidy.trim h.ne).2]
      refine ⟨?_, h.key, h.map⟩
      have hle : (q ++ [10]).length ≤ (unlines ls).length := by
        unfold unlines
        have : ∀ (l : List Bs), q ∈ l → (q ++ [10]).length ≤ (l.flatMap (· ++ [10])).length := by
          intro l
          induction l with
          | nil => intro h; cases h
          | cons a r ih =>
            intro h
            rcases List.mem_cons.1 h with h | h
            · rw [← h, List.flatMap_cons]
              simp
            · have h2 := ih h
              rw [List.flatMap_cons]
              simp only [List.length_append] at h2 ⊢
              omega
        exact this ls hq
      rw [List.length_append] at hle
      omega
    · rw [List.mem_singleton.1 hq]
      exact ⟨by decide, by decide, by decide⟩
end Go.Proofs.YtelkphcbopbhoaaGreatDoor
