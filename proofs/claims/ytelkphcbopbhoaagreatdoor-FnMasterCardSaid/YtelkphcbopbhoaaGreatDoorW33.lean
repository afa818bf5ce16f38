/-
  Walks: a master playlist's lines are read, one by one.
-/
import Derived.Test.YtelkphcbopbhoaaGreatDoorW27
import Derived.Test.YtelkphcbopbhoaaGreatDoorW29
import Derived.LaidEql
namespace Go.Proofs.YtelkphcbopbhoaaGreatDoor
open Go Go.RowKit

/-- What has been read. -/
structure DSt where
  ver : Nat
  ind : Bool
  m3u : Bool
  inf : Bool
  vs : List Vrt
  ats : List Alt
def HSt (w : World) (B P St : Nat) (s : DSt) : Prop := ∃ vbs abs, HS w B P St s.ver s.ind s.m3u s.inf vbs s.vs abs s.ats
/-- A line takes the reader from here to there. -/
def LineOK (r : Bs) (s s' : DSt) : Prop := ∀ (B0 B P St : Nat) (strict : Bool) (w : World), HSt w B P St s → EnvAt B0 w → B0 ≤ P → B0 ≤ St → B0 ≤ B → B ≤ w.heap.size →
  Calls Tryz.prog 35 #[ptr P, ptr St, .string (S r), .bool strict] w fun e w' => e = .returned .nilIface ∧ HSt w' B P St s' ∧ Chg (Sx B P St) w w'
inductive Reads : DSt → List Bs → DSt → Prop
  | nil (s : DSt) : Reads s [] s
  | cons {r : Bs} {l : List Bs} {s s1 s2 : DSt} : (∀ c ∈ r, c ≠ 10) → LineOK (r ++ [10]) s s1 → Reads s1 l s2 → Reads s (r :: l) s2
theorem PRow.off2 {α : Type} {S : Nat → Prop} {w w' : World} {B pt st : Nat} {cells : α → List Value} {v : Value} {bs : List Nat} {xs : List α} (h : PRow w B pt st cells v bs xs) (k : Chg S w w') (hS : ∀ i, S i → i < B) : PRow w' B pt st cells v bs xs := h.low k hS
theorem HSt.chg {S : Nat → Prop} {w w' : World} {B P St : Nat} {s : DSt} (h : HSt w B P St s) (k : Chg S w w') (hP : ¬ S P) (hSt : ¬ S St) (hS : ∀ i, S i → i < B) : HSt w' B P St s := by
  obtain ⟨vbs, abs, vv, lt, lv, va, ⟨h1, h2, h3, h4, h5, h6, h7⟩, hI⟩ := h
  exact ⟨vbs, abs, vv, lt, lv, va, ⟨h1.chg k hP, h2.chg k hSt, h3.low k hS, h4.low k hS, h5, h6, h7⟩, hI⟩
theorem unlines_cons (r : Bs) (l : List Bs) : unlines (r :: l) = r ++ 10 :: unlines l := by simp [unlines]

set_option maxRecDepth 100000 in
set_option maxHeartbeats 4000000 in
theorem decode_any {B0 P Pb g cap ver0 : Nat} {ind0 strict : Bool} {w : World} (T : Bs) (ls : List Bs) (s' : DSt) (hT : T = unlines ls) (hTl : T.length ≤ 100000) (hR : Reads ⟨ver0, ind0, false, false, [], []⟩ ls s') (hinf : s'.inf = false) (hm3u : s'.m3u = true) (hvl : s'.vs.length ≤ 1000) (hal : s'.ats.length ≤ 1000) (hg : ∀ a ∈ s'.ats, a.Good)
    (hP : Box w P 77 (mplCells nilS ver0 ind0)) (hBf : RBuf w Pb g cap T 0) (hE : EnvAt B0 w) (h0P : B0 ≤ P) (h0b : B0 ≤ Pb) (hP1 : P < Pb) (hP2 : Pb < g) (hP3 : g < w.heap.size) (h1 : 1 < Pb) :
    Calls Tryz.prog 27 #[ptr P, ptr Pb, .bool strict] w fun e w' => e = .returned .nilIface ∧ (∃ B vv va vbs abs, AD w' B P vv va (mplCells vv s'.ver s'.ind) vbs s'.vs abs s'.ats vbs.length) ∧ Chg (fun k => B0 ≤ k) w w' := by
  have H := Lib.hid (And.intro hP (And.intro hBf (And.intro hE (And.intro hR (And.intro hT hg)))))
  clear hP hBf hE hR hT hg
  unfold ptr
  go_enter Tryz.func27, Tryz.ntmps27
  go_upto_region 3 with fail
  obtain ⟨St, hSt⟩ : ∃ St, St = w.heap.size := ⟨_, rfl⟩
  obtain ⟨w1, hw1⟩ : ∃ w1, w1 = w.alloc (.cells (stCells 0 false false (.pointer none) nilS).toArray 110) := ⟨_, rfl⟩
  have hw1' := hw1
  simp only [stCells, nilS] at hw1'
  rw [← hSt]
  rw [← hw1']
  clear hw1'
  have hS1 : w1.heap.size = St + 1 := by rw [hw1, hSt]; simp
  have hC1 : Chg (fun _ => False) w w1 := by rw [hw1]; exact (Chg.refl _ w).alloc _
  have hH1 : HSt w1 (St + 1) P St ⟨ver0, ind0, false, false, [], []⟩ := by
    refine ⟨[], [], nilS, 0, .pointer none, nilS, ⟨H.out.1.chg hC1 id, ?_, ⟨World.ownsRow_nil _ _ _ _, rfl, (fun b hb => by cases hb), (fun i b x h1 _ => by cases h1), List.nodup_nil⟩, ⟨World.ownsRow_nil _ _ _ _, rfl, (fun b hb => by cases hb), (fun i b x h1 _ => by cases h1), List.nodup_nil⟩, by omega, by omega, by omega⟩, fun e => by cases e⟩
    rw [hw1]; exact Box.new hSt
  have hB1 : Hid (RBuf w1 Pb g cap T 0) := H.out.2.1.chg hC1 id id
  have HC1 := Lib.hid hC1
  have hB0 : B0 ≤ St := by rw [hSt]; exact H.out.2.2.1.le
  rw [← hSt] at hP3
  clear hw1 hC1 hSt
  go_loopg [7] (ls.length + 1) (fun gk e7 wr => ∃ (rest : List Bs) (o : Nat) (s : DSt), ((e7 = .bool false ∧ gk = rest.length + 1 ∧ Hid (T.drop o = unlines rest) ∧ Hid (RBuf wr Pb g cap T o) ∧ o ≤ T.length) ∨ (e7 = .bool true ∧ rest = [])) ∧ Hid (Reads s rest s') ∧ Hid (HSt wr (St + 1) P St s) ∧ Hid (Chg (fun k => k = P ∨ k = Pb ∨ St ≤ k) w1 wr))
  case atStart => exact ⟨ls, 0, _, .inl ⟨rfl, rfl, H.out.2.2.2.2.1, hB1.out, Nat.zero_le _⟩, H.out.2.2.2.1, hH1, Chg.refl _ _⟩
  case round =>
    clear hB1 hH1
    obtain ⟨rest, o, s, hcase, hRd, hHS, hCh⟩ := hrel
    rename World => w2
    have hEw : EnvAt B0 w2 := (H.out.2.2.1.chg HC1.out (fun _ h => h.elim)).chg hCh.out (by rintro i (rfl | rfl | hi) <;> omega)
    have hszw : St + 1 ≤ w2.heap.size := by rw [← hS1]; exact hCh.out.size
    obtain ⟨teof, veof, heof, heq⟩ := hEw.env.eof
    have hnl : ∀ w, (binOp .eql 51 .nilIface (.iface teof veof)).run Tryz.prog w = .ok (.bool false) w := fun w => run_eql_iface_nil_left w teof veof Tryz.underlying51
    have HEW := Lib.hid hEw
    have HEOF := Lib.hid heof
    clear hEw heof
    rcases hcase with ⟨rfl, hgk, hdr, hBuf, hol⟩ | ⟨rfl, rfl⟩
    · cases rest with
      | nil =>
        have hoT : o = T.length := by
          have := hdr.out
          have h2 := congrArg List.length this
          rw [List.length_drop] at h2
          simp [unlines] at h2
          omega
        subst hoT
        obtain rfl : s = s' := by
          cases hRd.out
          rfl
        go_upto_region 5 with (go_at_call 34; refine (string_end Pb g cap T _ w2 hBuf.out hTl HEOF.out ⟨_, _, rfl⟩ (by omega)).mono ?_; rintro e w3 ⟨rfl, hC3⟩)
        have heof3 : w3.cell? ⟨1, 0, none⟩ = some (.iface teof veof) := cell_chg HEOF.out hC3 (by show ¬ (1 = Pb); omega)
        have hH3 : Hid (HSt w3 (St + 1) P St s) := hHS.out.chg hC3 (by omega) (by omega) (fun i hi => by omega)
        have hE3 : Hid (EnvAt B0 w3) := HEW.out.chg hC3 (fun i hi => by omega)
        have HC3 := Lib.hid hC3
        clear hC3
        obtain ⟨vbs, abs, hhs⟩ := hH3.out
        rw [hinf] at hhs
        have HHS := Lib.hid hhs
        clear hhs
        go_upto_region 9 with (go_at_call 35; refine (dec_nil (strict := strict) HHS.out hE3.out).mono ?_; rintro e w4 ⟨rfl, hH4, hC4⟩)
        have HC4 : Hid (Chg (fun k => k = P ∨ k = Pb ∨ St ≤ k) w1 w4) := (hCh.out.trans (HC3.out.mono (fun i _ e => .inr (.inl e)))).trans (hC4.mono (fun i _ e => by rcases e with e | e | e; exact .inl e; exact .inr (.inr (by omega)); exact .inr (.inr (by omega))))
        have HH4 : Hid (HSt w4 (St + 1) P St s) := ⟨vbs, abs, by rw [hinf]; exact hH4⟩
        clear hC4 hH4 hCh hHS hBuf hdr HHS
        cases strict
        all_goals
          go_wp2_with fail
          go_roundg 0
          case measure => omega
          case rel => exact ⟨[], T.length, s, .inr ⟨rfl, rfl⟩, Reads.nil s, HH4.out, HC4.out⟩
      | cons r l =>
        have HR1 : Hid ((∀ c ∈ r, c ≠ 10) ∧ ∃ s1, LineOK (r ++ [10]) s s1 ∧ Reads s1 l s') := by
          show _ ∧ _
          cases hRd.out with
          | cons h1 h2 h3 => exact ⟨h1, _, h2, h3⟩
        obtain ⟨hr10, s1, hL, hR1⟩ := HR1.out
        have HL := Lib.hid (And.intro hr10 (And.intro hL hR1))
        have HDR : Hid (T.drop o = r ++ 10 :: unlines l) := by show _ = _; rw [hdr.out, unlines_cons]
        clear HR1 hr10 hL hR1
        go_upto_region 5 with (go_at_call 34; refine (string_line Pb g cap o T r (unlines l) w2 hBuf.out HDR HL.out.1 hTl).mono ?_; rintro e w3 ⟨rfl, hB3, hC3⟩)
        have heof3 : w3.cell? ⟨1, 0, none⟩ = some (.iface teof veof) := cell_chg HEOF.out hC3 (by show ¬ (1 = Pb); omega)
        have hH3 : Hid (HSt w3 (St + 1) P St s) := hHS.out.chg hC3 (by omega) (by omega) (fun i hi => by omega)
        have hE3 : Hid (EnvAt B0 w3) := HEW.out.chg hC3 (fun i hi => by omega)
        have hB3' := Lib.hid hB3
        have HC3 := Lib.hid hC3
        clear hB3 hC3
        go_upto_region 9 with (go_at_call 35; refine (HL.out.2.1 B0 (St + 1) P St strict _ hH3.out hE3.out h0P hB0 (by omega) (by have := HC3.out.size; omega)).mono ?_; rintro e w4 ⟨rfl, hH4, hC4⟩)
        have HB4 : Hid (RBuf w4 Pb g cap T (o + r.length + 1)) := hB3'.out.chg hC4 (by rintro (e | e | e) <;> omega) (by rintro (e | e | e) <;> omega)
        have HC4 : Hid (Chg (fun k => k = P ∨ k = Pb ∨ St ≤ k) w1 w4) := (hCh.out.trans (HC3.out.mono (fun i _ e => .inr (.inl e)))).trans (hC4.mono (fun i _ e => by rcases e with e | e | e; exact .inl e; exact .inr (.inr (by omega)); exact .inr (.inr (by omega))))
        have HH4 := Lib.hid hH4
        have HD4 : Hid (T.drop (o + r.length + 1) = unlines l) := by
          show _ = _
          rw [show o + r.length + 1 = o + (r.length + 1) from by omega, ← List.drop_drop, HDR.out]
          rw [show r ++ 10 :: unlines l = (r ++ [10]) ++ unlines l from by simp]
          exact List.drop_left' (by simp)
        have hol4 : o + r.length + 1 ≤ T.length := by
          have h2 := congrArg List.length HDR.out
          rw [List.length_drop] at h2
          simp at h2
          omega
        clear hC4 hH4 hCh hHS hBuf hdr
        cases strict
        all_goals
          go_wp2_with fail
          go_roundg (l.length + 1)
          case measure => simp at hgk; omega
          case rel => exact ⟨l, o + r.length + 1, s1, .inl ⟨rfl, rfl, HD4.out, HB4.out, hol4⟩, HL.out.2.2, HH4.out, HC4.out⟩
    · obtain rfl : s = s' := by
        cases hRd.out
        rfl
      obtain ⟨vbs, abs, vv, lt, lv, va, hD, hI⟩ := hHS.out
      obtain ⟨A2, c2, rfl⟩ := own_shape hD.a.row
      have d16 := hD.s.cell 16 rfl
      have HDD := Lib.hid hD
      have hvl' : vbs.length ≤ 1000 := by rw [← hD.v.len]; exact hvl
      have hal' : abs.length ≤ 1000 := by rw [← hD.a.len]; exact hal
      clear hD hI
      go_upto_region 12 with (go_at_call 36; refine (attach_any (cp0 := nilS) HDD.out hszw H.out.2.2.2.2.2 hvl' hal').mono ?_; rintro e w5 ⟨rfl, hAD, hC5⟩)
      have d1 := (HDD.out.s.chg hC5 (by omega)).cell 1 rfl
      rw [hm3u] at d1
      have HF := Lib.hid (And.intro hAD hC5)
      clear hAD hC5 d16
      cases strict
      all_goals
        go_wp2_with fail
        go_ret
        exact ⟨rfl, ⟨St + 1, vv, _, vbs, abs, HF.out.1⟩, ((HC1.out.mono (fun _ _ h => h.elim)).trans (hCh.out.mono (fun i _ e => by rcases e with e | e | e <;> omega))).trans (HF.out.2.mono (fun i _ e => by omega))⟩
end Go.Proofs.YtelkphcbopbhoaaGreatDoor
