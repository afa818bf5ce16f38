/-
  Walks: DecodeFrom.
-/
import Derived.Test.YtelkphcbopbhoaaGreatDoorW33
import Derived.Test.YtelkphcbopbhoaaGreatDoorW19
namespace Go.Proofs.YtelkphcbopbhoaaGreatDoor
open Go Go.RowKit

set_option maxRecDepth 100000 in
set_option maxHeartbeats 4000000 in
theorem decodeFrom_any {B0 P R src c ver0 : Nat} {ind0 strict : Bool} {w : World} (T : Bs) (ls : List Bs) (s' : DSt) (hT : T = unlines ls) (hT0 : T ≠ []) (hTl : T.length ≤ 9000) (hR : Reads ⟨ver0, ind0, false, false, [], []⟩ ls s') (hinf : s'.inf = false) (hm3u : s'.m3u = true) (hvl : s'.vs.length ≤ 1000) (hal : s'.ats.length ≤ 1000) (hg : ∀ a ∈ s'.ats, a.Good)
    (hP : Box w P 77 (mplCells nilS ver0 ind0)) (hBR : Box w R 85 [.slice (some ⟨src, 0, none⟩) T.length c, .int .i64 0, .int .i64 (-1)]) (hLc : T.length ≤ c) (hcm : c ≤ 9223372036854775807)
    (hsrc : Hid (∀ j, j < T.length → w.cell? ⟨src, j, none⟩ = some (.int .u8 (T.getD j 0).toNat))) (hsR : src ≠ R) (hPR : P ≠ R) (hsw : src < w.heap.size) (hE : EnvAt B0 w) (h0P : B0 ≤ P) (h0R : B0 ≤ R) (hB1 : 1 < B0) :
    Calls Tryz.prog 14 #[ptr P, .iface 53 (ptr R), .bool strict] w fun e w' => e = .returned .nilIface ∧ (∃ B vv va vbs abs, AD w' B P vv va (mplCells vv s'.ver s'.ind) vbs s'.vs abs s'.ats vbs.length) ∧ Chg (fun k => B0 ≤ k) w w' := by
  have H := Lib.hid (And.intro hP (And.intro hBR (And.intro hE (And.intro hR (And.intro hT hg)))))
  clear hP hBR hE hR hT hg
  unfold ptr
  go_enter Tryz.func14, Tryz.ntmps14
  go_upto_region 2 with fail
  obtain ⟨b, hb⟩ : ∃ b, b = w.heap.size := ⟨_, rfl⟩
  obtain ⟨w1, hw1⟩ : ∃ w1, w1 = w.alloc (.cells #[.slice none 0 0, .int .i64 0, .int .i8 0] 75) := ⟨_, rfl⟩
  rw [← hb, ← hw1]
  have hC1 : Chg (fun _ => False) w w1 := by rw [hw1]; exact (Chg.refl _ w).alloc _
  have hIs : Lib.IsBuffer 75 5 b b [] w1 := by
    have h0 : w1.heap[b]? = some (.cells #[.slice none 0 0, .int .i64 0, .int .i8 0] 75 (0, 0)) := by rw [hw1, hb]; exact heap_alloc_new _ _
    exact ⟨Nat.le_refl _, _, _, h0, World.ownsRow_nil _ _ _ _, by simp [Value.ownBlock]⟩
  have hP1 : Box w1 P 77 (mplCells nilS ver0 ind0) := H.out.1.chg hC1 id
  have hR1 : Box w1 R 85 [.slice (some ⟨src, 0, none⟩) T.length c, .int .i64 0, .int .i64 (-1)] := H.out.2.1.chg hC1 id
  have hE1 : EnvAt B0 w1 := H.out.2.2.1.chg hC1 (fun _ h => h.elim)
  have hs1 : Hid (∀ j, j < T.length → w1.cell? ⟨src, j, none⟩ = some (.int .u8 (T.getD j 0).toNat)) := fun j hj => cell_chg (hsrc.out j hj) hC1 id
  obtain ⟨teof, veof, heof, heq⟩ := hE1.env.eof
  have hPb : P < b := by rw [hb]; exact H.out.1.lt
  have hRb : R < b := by rw [hb]; exact H.out.2.1.lt
  have hB0b : B0 ≤ b := by omega
  rw [← hb] at hsw
  have hq : Hid (∀ w, (binOp .eql 51 (.iface teof veof) (.iface teof veof)).run Tryz.prog w = .ok (.bool true) w) := heq
  have HIs := Lib.hid (And.intro hIs (And.intro hP1 (And.intro hR1 (And.intro hE1 (And.intro heof hC1)))))
  clear hIs hP1 hR1 hE1 heof hw1 hb hC1 heq
  go_upto_region 3 with (go_at_call 26; refine (readFrom_any R src c b T.length T w1 _ HIs.out.2.2.1 rfl hLc hTl hcm hs1 hsR hsw hRb HIs.out.1 HIs.out.2.2.2.2.1 ⟨_, _, rfl⟩ (by omega) (by omega) hq).mono ?_; rintro e w2 ⟨rfl, hIs2, hC2⟩)
  obtain ⟨g, cap, hbg, hBuf⟩ := RBuf.make hIs2 hT0
  have hP2 : Box w2 P 77 (mplCells nilS ver0 ind0) := HIs.out.2.1.chg hC2 (by omega)
  have hE2 : EnvAt B0 w2 := HIs.out.2.2.2.1.chg hC2 (fun i hi => by omega)
  have hgw : g < w2.heap.size := by
    have hT1 : 0 < T.length := List.length_pos_iff.2 hT0
    exact World.block_lt_of_cell? _ _ (hBuf.bytes 0 hT1)
  have H2 := Lib.hid (And.intro hBuf (And.intro hP2 (And.intro hE2 hC2)))
  clear hIs2 hBuf hP2 hE2 hC2 hs1
  go_wp2_with (go_at_call 27; refine (decode_any (strict := strict) T ls s' H.out.2.2.2.2.1 (by omega) H.out.2.2.2.1 hinf hm3u hvl hal H.out.2.2.2.2.2 H2.out.2.1 H2.out.1 H2.out.2.2.1 h0P hB0b hPb hbg hgw (by omega)).mono ?_; rintro e w3 ⟨rfl, hAD, hC3⟩)
  go_ret
  exact ⟨rfl, hAD, ((HIs.out.2.2.2.2.2.mono (fun _ _ h => h.elim)).trans (H2.out.2.2.2.mono (fun i _ e => by omega))).trans hC3⟩
end Go.Proofs.YtelkphcbopbhoaaGreatDoor
