/-
  Walks: a line of a master playlist, read: a variant's attributes.
-/
import Derived.Test.YtelkphcbopbhoaaGreatDoorW26
namespace Go.Proofs.YtelkphcbopbhoaaGreatDoor
open Go Go.RowKit
open Go.Maps (Keyed)

theorem atoi_n (n : Nat) (w : World) (hn : n < 4294967296) : Calls Tryz.prog 51 #[.string (S (Lib.decDigits n))] w fun e w' => e = .returned (.tuple #[.int .i64 n, .nilIface]) ∧ Below w.heap.size w w' := by
  have hl : (Lib.decDigits n).length ≤ 20 := dec_length_le n 20 (by omega) (by omega)
  refine (Tryz.strconv_Atoi_ok (S (Lib.decDigits n)) (by show (Lib.decDigits n).length ≤ _; omega) n (by rw [S_list]; exact atoi_dec n (by omega)) w).mono ?_
  rintro e w' ⟨rfl, rfl | ⟨t, rfl⟩⟩
  · exact ⟨rfl, Below.refl _ _⟩
  · exact ⟨rfl, below_bytes _ _ _⟩
theorem run_store_float (w : World) (a : Addr) (b : Nat) : (store a (.float .f64 b) .plain).run Tryz.prog w = stored Tryz.prog w a (.float .f64 b) .plain := run_store Tryz.prog w a _ _ rfl
theorem ranges_drew (w : World) (A k : Nat) (u : Value) : w.grownBy (w.drew.setCell ⟨A, k, none⟩ u) (some A) := by
  have h := Lib.grownBy_setCell w A k u
  exact ⟨h.os, h.tape, h.output, h.size, h.block⟩

set_option maxRecDepth 100000 in
set_option maxHeartbeats 16000000 in
theorem dec_inf {B0 B P St ver : Nat} {ind m3u strict : Bool} {vbs abs : List Nat} {vs : List Vrt} {ats : List Alt} {w : World} (r J : Bs) (v : Vrt) (h : HS w B P St ver ind m3u false vbs vs abs ats) (hE : EnvAt B0 w) (hB0 : B0 ≤ P ∧ B0 ≤ St ∧ B0 ≤ B) (hB : B ≤ w.heap.size)
    (hg : v.Good) {F : Bs → Option Bs} (hF : Attrs v.all J F) (hr : Lib.trimSpace r = tINF ++ J) (hlen : r.length ≤ 100000) (ha : ∀ c ∈ r, c.toNat < 128) (hJ : J.length ≤ 10000) (hvbs : vbs.length ≤ 1000) :
    Calls Tryz.prog 35 #[ptr P, ptr St, .string (S r), .bool strict] w fun e w' => e = .returned .nilIface ∧ (∃ A, HS w' B P St ver ind m3u true (vbs ++ [A]) (vs ++ [{ v with uri := [] }]) abs ats) ∧ Chg (Sx B P St) w w' := by
  obtain ⟨l, hl⟩ : ∃ l, l = tINF ++ J := ⟨_, rfl⟩
  rw [← hl] at hr
  have hll : (S l).size = 18 + J.length := by show l.length = _; rw [hl, List.length_append]; rfl
  have t1 : ((S l).toList == ([35, 69, 88, 84, 77, 51, 85] : List UInt8)) = false := by rw [ba_toList, S_list, hl]; rfl
  have p1 : hasPB ⟨#[35, 69, 88, 84, 45, 88, 45, 86, 69, 82, 83, 73, 79, 78, 58]⟩ l = false := by rw [hl]; rfl
  have t2 : ((S l).toList == ([35, 69, 88, 84, 45, 88, 45, 73, 78, 68, 69, 80, 69, 78, 68, 69, 78, 84, 45, 83, 69, 71, 77, 69, 78, 84, 83] : List UInt8)) = false := by rw [ba_toList, S_list, hl]; rfl
  have p2 : hasPB ⟨#[35, 69, 88, 84, 45, 88, 45, 77, 69, 68, 73, 65, 58]⟩ l = false := by rw [hl]; rfl
  have p3 : hasPB ⟨#[35, 69, 88, 84, 45, 88, 45, 83, 84, 82, 69, 65, 77, 45, 73, 78, 70, 58]⟩ l = true := by
    unfold hasPB
    rw [hl]
    exact List.isPrefixOf_iff_prefix.2 (List.prefix_append tINF _)
  have e18 : ((S l).extract 18 (S l).size).data.toList = J := by rw [S_drop, hl]; rfl
  have H18 : Hid (((S l).extract 18 (S l).size).size ≤ 1000000) := by show _ ≤ _; rw [← ba_size, e18]; omega
  have E18 := Lib.hid e18
  have i1 : (18 : Int) ≤ ((S l).size : Int) := by omega
  have i2 : ((S l).size : Int) ≤ 20000 := by omega
  have H := Lib.hid (And.intro h (And.intro hE (And.intro hr (And.intro hlen ha))))
  have HA := Lib.hid (And.intro hg hF)
  clear h hE hr hlen ha hl e18 hll hg hF
  unfold ptr
  go_enter Tryz.func35, Tryz.ntmps35
  go_wp2_with fail
  refine (trim_line r l w H.out.2.2.1 H.out.2.2.2.1 H.out.2.2.2.2 H.out.2.1.env).mono ?_
  rintro e w1 ⟨rfl, hb⟩
  obtain ⟨⟨vv, lt, lv, va, hD, hI⟩, _⟩ := H.out
  have h1 := hD.keep hb
  have hC1 : Chg (Sx B P St) w w1 := (Chg.refl _ w).below hb
  have c2 := h1.s.cell 2 rfl
  have f2 := h1.s.frozen 2
  have HX := Lib.hid (And.intro h1 hC1)
  clear h1 hI hC1 hb hD
  go_upto_region 47 with (go_at_call 46; refine (hasPrefix_all _ _ _).mono ?_; rintro e w' ⟨rfl, rfl⟩)
  obtain ⟨w2, hw2⟩ : ∃ w2, w2 = w1.setCell ⟨St, 2, none⟩ (.bool true) := ⟨_, rfl⟩
  rw [← hw2]
  have h2 : HD w2 B P St vv va (mplCells vv ver ind) (stCells lt m3u true lv va) vbs vs abs ats := by rw [hw2]; exact HX.out.1.setS 2 _
  have hC2 : Chg (Sx B P St) w w2 := by rw [hw2]; exact HX.out.2.setS 2 _
  have c0 := h2.s.cell 0 rfl
  have f0 := h2.s.frozen 0
  have H2 := Lib.hid (And.intro h2 hC2)
  clear hw2 h2 hC2 c2 f2
  go_upto_region 48 with fail
  obtain ⟨w3, hw3⟩ : ∃ w3, w3 = w2.setCell ⟨St, 0, none⟩ (.int .u64 1) := ⟨_, rfl⟩
  rw [← hw3]
  have h3 : HD w3 B P St vv va (mplCells vv ver ind) (stCells 1 m3u true lv va) vbs vs abs ats := by rw [hw3]; exact H2.out.1.setS 0 _
  have hC3 : Chg (Sx B P St) w w3 := by rw [hw3]; exact H2.out.2.setS 0 _
  have hb4 : Below w3.heap.size w3 (w3.alloc (.cells vZero.toArray 94)) := (Below.refl _ _).alloc (Nat.le_refl _) _
  have h4 := h3.keep hb4
  have c15 := h4.s.cell 15 rfl
  have f15 := h4.s.frozen 15
  simp only [vZero] at c15 f15
  have HC4 : Hid (Chg (Sx B P St) w (w3.alloc (.cells vZero.toArray 94))) := hC3.below hb4
  have HB4 : Hid (Box (w3.alloc (.cells vZero.toArray 94)) w3.heap.size 94 vZero) := Box.new rfl
  have HNA : Hid (w3.heap.size ∉ vbs) := by
    intro hm
    have := h3.v.low_mem _ hm
    omega
  have hBA : B ≤ w3.heap.size := Nat.le_trans hB hC3.size
  have H4 := Lib.hid h4
  clear hw3 h3 hC3 hb4 h4 c0 f0
  go_upto_region 49 with fail
  obtain ⟨w5, hw5⟩ : ∃ w5, w5 = (w3.alloc (.cells vZero.toArray 94)).setCell ⟨St, 15, none⟩ (.pointer (some ⟨w3.heap.size, 0, none⟩)) := ⟨_, rfl⟩
  have hw5' := hw5
  simp only [vZero] at hw5'
  rw [← hw5']
  clear hw5'
  obtain ⟨A, hA⟩ : ∃ A, A = w3.heap.size := ⟨_, rfl⟩
  rw [← hA] at hw5 HB4 HNA hBA ⊢
  have h5 : HD w5 B P St vv va (mplCells vv ver ind) (stCells 1 m3u true (ptr A) va) vbs vs abs ats := by rw [hw5]; exact H4.out.setS 15 _
  have hC5 : Chg (Sx B P St) w w5 := by rw [hw5]; exact HC4.out.setS 15 _
  have hb5 : Box w5 A 94 vZero := by
    rw [hw5]
    exact HB4.out.chg ((Chg.refl (fun k => k = St) _).setCell _ _ (fun _ => rfl)) (by have := H4.out.ltS; omega)
  have hB5 : B ≤ w5.heap.size := by have := hC5.size; omega
  obtain ⟨A5, k5, hV5⟩ := own_shape h5.v.row
  subst hV5
  have d0 := h5.p.cell 0 rfl
  have d15 := h5.s.cell 15 rfl
  have g0 := h5.p.frozen 0
  unfold ptr at d15
  have dA : (w5.alloc (.cells #[.pointer (some ⟨A, 0, none⟩)] 88)).cell? ⟨P, 0, none⟩ = some (.slice A5 vbs.length k5) := (h5.p.alloc _).cell 0 rfl
  have H5 := Lib.hid (And.intro h5 (And.intro hC5 hb5))
  have HB5 : Hid (Box w5 A 94 (vCells (vRes v (fun _ => true)) nilS)) := by show Box _ _ _ _; rw [vRes_cells]; exact hb5
  obtain ⟨i0, hi0, hz, hz1, hz2⟩ := info_parts Tryz.info88
  have HI0 := Lib.hid (And.intro hi0 (And.intro hz (And.intro hz1 hz2)))
  clear hw5 h5 hC5 hb5 H4 HC4 HB4 c15 f15 hA hi0 hz hz1 hz2
  go_cut [154] from 154 to 166 (fun _ wx => ∃ vv', Hid (HD wx B P St vv' va (mplCells vv' ver ind) (stCells 1 m3u true (ptr A) va) (vbs ++ [A]) (vs ++ [vRes v (fun _ => true)]) abs ats) ∧ Hid (Chg (Sx B P St) w wx))
  case first =>
    go_region_law ((refine step_append_lies _ (by rfl) _ _ 71 (by rfl) B 88 i0 (.pointer none) 1 8 Tryz.underlying71 HI0.out.1 HI0.out.2.1 HI0.out.2.2.1 HI0.out.2.2.2 rfl (by decide) (.slice A5 vbs.length k5) vbs.length (vbs.map ptr) (by rfl) (by exact H5.out.1.v.row.alloc _) ⟨w5.heap.size, 0, none⟩ 1 1 [ptr A] (by rfl) (by rfl) (World.news_of_block (t := 88) (fr := (0, 0)) (heap_alloc_new _ _)) (by intro u hu; rw [List.mem_singleton.1 hu]; rfl) (by omega) (by unfold maxLen; omega) (by omega) (by simp; omega) _ rfl ?_; intro g2 cap w6 hown6 hgrow6 _ _; have hcw : Chg (fun i => (Value.slice A5 vbs.length k5).ownBlock = some i) w5 w6 := ((Chg.refl _ w5).alloc (.cells #[ptr A] 88)).trans ⟨hgrow6.os, hgrow6.tape, hgrow6.output, hgrow6.size, fun i hi hn => hgrow6.block i hi (fun e => hn e.symm)⟩; have h6 := H5.out.1.app_vrt HB5.out hBA HNA.out hown6 hcw; have s0 := h6.p.cell 0 rfl; have fr0 := h6.p.frozen 0; have H6 := Lib.hid h6; have HCW := Lib.hid hcw; clear h6 hcw hown6 hgrow6))
    all_goals
      go_wp2_with fail
      go_meet
      case rel =>
        refine ⟨_, H6.out.setP 0 _, (H5.out.2.1.trans ⟨HCW.out.os, HCW.out.tape, HCW.out.output, HCW.out.size, fun k hk hn => HCW.out.block k hk (fun e => hn (.inr (.inr ?_)))⟩).setP 0 _⟩
        exact (World.ownsRow.lt H5.out.1.v.row k e).1
  case rest =>
  obtain ⟨vv', h6, hC6⟩ := hcut
  have hE6 := H.out.2.1.chg hC6.out (by rintro i (rfl | rfl | hi); exact hB0.1; exact hB0.2.1; exact Nat.le_trans hB0.2.2 hi)
  have HE6 := Lib.hid hE6
  clear hE6 d0 d15 dA g0
  go_wp2_with fail
  refine (params_any _ wc H18.out).mono ?_
  rintro e w7 ⟨M, n, D, rfl, hM, hn, hown, hmap, hbel⟩
  rw [E18.out, HA.out.2.is] at hmap
  have h7 := h6.out.keep hbel
  have hC7 : Chg (Sx B P St) w w7 := hC6.out.below hbel
  have hAlt : A < wc.heap.size := h6.out.v.lastBox.lt
  have hlt7 : wc.heap.size ≤ w7.heap.size := hbel.size
  have H7 := Lib.hid (And.intro h7 hC7)
  have HMAP := Lib.hid hmap
  have HOWN := Lib.hid hown
  clear h7 hC7 hbel hmap hown h6 hC6
  go_wp2_with (at_range; refine wpList_range_own _ rfl _ 129 rfl 9 9 law9 Tryz.underlying129 PE M n D rfl HOWN.out ?_; intro w8 hrg8 hg8 hs8)
  go_frame
  obtain ⟨R, hR⟩ : ∃ R, R = w7.heap.size := ⟨_, rfl⟩
  rw [← hR] at hrg8 ⊢
  have h8 := H7.out.1.keep ⟨hg8.os, hg8.tape, hg8.output, hg8.size, fun i hi => hg8.block i hi (by simp)⟩
  have h8' : HD w8 B P St vv' va (mplCells vv' ver ind) (stCells 1 m3u true (ptr A) va) (vbs ++ [A]) (vs ++ [vRes v (fun k => Maps.has D (.string k))]) abs ats := h8.castV (by rw [vRes_cells, vRes_cells, vPart_start v HA.out.2 _ (fun k => (HMAP.out.2 k).1)]; rfl)
  have hC8 : Chg (Sx B P St) w w8 := H7.out.2.grown hg8 (fun i hi => by cases hi)
  have hMA : A < M := by omega
  have hRM : M ≠ R := by have := HOWN.out.lt; omega
  have hRA : A ≠ R := by omega
  have hBR : B ≤ R := by omega
  clear hg8 hs8 HOWN H7 hR h8
  go_loopw [9] (fun e9 wr => e9 = .nilIface ∧ ∃ (left : Lit → Bool) (cnt : Nat), wr.ranges Tryz.prog 9 PE M R n D left cnt ∧ Hid (∀ k, left (.string k) = true → (F k).isSome = true) ∧ Hid (HD wr B P St vv' va (mplCells vv' ver ind) (stCells 1 m3u true (ptr A) va) (vbs ++ [A]) (vs ++ [vRes v (fun k => left (.string k))]) abs ats) ∧ Hid (Chg (Sx B P St) w wr)) (fun _ wr => wr.rangeLeft M R)
  case atStart => exact ⟨rfl, _, _, hrg8, fun k hk => by rw [← (HMAP.out.2 k).1]; exact hk, h8', hC8⟩
  case round =>
    clear hrg8 h8' hC8
    obtain ⟨rfl, left, cnt, hrg, hsub, hHD, hCh⟩ := hrel
    have HRG := Lib.hid hrg
    clear hrg
    go_wp2_with (at_next; refine wpList_next_ranges (α := ByteArray) (β := ByteArray) _ rfl _ rfl 9 law9 PE Value.string Value.string (fun key kl hk => by obtain ⟨s, h, _⟩ := key9_inv hk; exact ⟨s, h⟩) (fun v y hv => by obtain ⟨s, h, _⟩ := pe_inv hv; exact ⟨s, h⟩) M R n D left cnt rfl HRG.out ?_ ?_)
    · intro hc0 hl0
      have h9 := hHD.out
      rw [vRes_end v (fun k => left (.string k)) (fun k => hl0 _)] at h9
      have H9 := Lib.hid h9
      clear hc0 hl0 h9 HRG
      go_wp2_with fail
      go_ret
      exact ⟨rfl, ⟨A, vv', 1, ptr A, va, H9.out, fun _ => ⟨vbs, A, rfl, rfl⟩⟩, hCh.out⟩
    · intro x c kl ya yb w9 cnt' hkey hlk hval hat hrg1 hlt hgr hsz hen
      obtain ⟨hkl, hFx⟩ := entry_is (y := (ya, yb)) HMAP.out hkey hval hat (fun k e => hsub.out k (by rw [← e]; exact hlk))
      subst hkl
      obtain ⟨att, hat2, hnm, hvl⟩ := HA.out.2.only _ _ hFx
      have hne : c.data.toList ≠ [] := by
        intro e
        have := HA.out.2.all att hat2
        rw [hnm, hFx, hvl, if_pos e] at this
        cases this
      have h9 := hHD.out.iter (ranges_iter HRG.out) hgr
      have hC9 : Chg (Sx B P St) w w9 := hCh.out.grown hgr (fun i hi _ => by cases hi; exact .inr (.inr (by omega)))
      have hle := HRG.out.left_eq
      have HLE := Lib.hid hle
      have s15 := h9.s.cell 15 rfl
      unfold ptr at s15
      have H9 := Lib.hid (And.intro h9 hC9)
      have HR9 := Lib.hid hrg1
      have hsub2 : Hid (∀ k, (left (.string k) && !(Lit.string k).sameKey (.string x.data.toList)) = true → (F k).isSome = true) := fun k hk => hsub.out k (by revert hk; cases left (.string k) <;> simp)
      have HNE := Lib.hid hne
      clear hkey hlk hval hat hFx h9 hC9 hle hrg1 hgr hsz hsub hHD hCh HRG hne
      simp only [Vrt.all, List.mem_cons, List.not_mem_nil, or_false] at hat2
      rcases hat2 with rfl | rfl | rfl | rfl | rfl | rfl | rfl | rfl | rfl | rfl | rfl
      · as_aux_lemma =>
        simp only at hnm hvl
        have k0 : (x.toList == ([80, 82, 79, 71, 82, 65, 77, 45, 73, 68] : List UInt8)) = true := by rw [ba_toList, ← hnm]; rfl
        have HNM := Lib.hid hnm
        have hb32 : v.prog < 4294967296 := HA.out.1.prog
        obtain rfl : c = S (Lib.decDigits v.prog) := S_of hvl.symm
        clear hnm hvl
        have hb32' : (v.prog : Int) ≤ 4294967295 := by omega
        cases strict
        · go_wp2_with (go_at_call 51; refine (atoi_n v.prog _ hb32).mono ?_; rintro e w10 ⟨rfl, hb10⟩; have h10 := H9.out.1.keep hb10; have s15' := h10.s.cell 15 rfl; unfold ptr at s15'; have d := h10.v.lastBox.cell 2 rfl; have fr := h10.v.lastBox.frozen 2; have H10 := Lib.hid (And.intro h10 (H9.out.2.below hb10)); have HR10 := Lib.hid (HR9.out.kept (grown_below hb10 none) (by simp) (by simp)); clear h10 hb10)
          go_roundw
          case rel => exact ⟨rfl, _, cnt', HR10.out.kept (Lib.grownBy_setCell _ A 2 _) (by simp; omega) (by simp; omega), hsub2, H10.out.1.setV 2 _ (by rw [vRes_cells, vRes_cells, vPart_set v _ x.data.toList 2 _ (by rw [← HNM.out]; simp)]; rfl), H10.out.2.setCell _ _ (fun _ => .inr (.inr hBA))⟩
          case measure => rw [(HR10.out.kept (Lib.grownBy_setCell _ A 2 _) (by simp; omega) (by simp; omega)).left_eq, HLE.out]; exact hlt
        · go_wp2_with (go_at_call 51; refine (atoi_n v.prog _ hb32).mono ?_; rintro e w10 ⟨rfl, hb10⟩; have h10 := H9.out.1.keep hb10; have s15' := h10.s.cell 15 rfl; unfold ptr at s15'; have d := h10.v.lastBox.cell 2 rfl; have fr := h10.v.lastBox.frozen 2; have H10 := Lib.hid (And.intro h10 (H9.out.2.below hb10)); have HR10 := Lib.hid (HR9.out.kept (grown_below hb10 none) (by simp) (by simp)); clear h10 hb10)
          go_roundw
          case rel => exact ⟨rfl, _, cnt', HR10.out.kept (Lib.grownBy_setCell _ A 2 _) (by simp; omega) (by simp; omega), hsub2, H10.out.1.setV 2 _ (by rw [vRes_cells, vRes_cells, vPart_set v _ x.data.toList 2 _ (by rw [← HNM.out]; simp)]; rfl), H10.out.2.setCell _ _ (fun _ => .inr (.inr hBA))⟩
          case measure => rw [(HR10.out.kept (Lib.grownBy_setCell _ A 2 _) (by simp; omega) (by simp; omega)).left_eq, HLE.out]; exact hlt
      · as_aux_lemma =>
        simp only at hnm hvl
        have k0 : (x.toList == ([80, 82, 79, 71, 82, 65, 77, 45, 73, 68] : List UInt8)) = false := by rw [ba_toList, ← hnm]; rfl
        have k1 : (x.toList == ([66, 65, 78, 68, 87, 73, 68, 84, 72] : List UInt8)) = true := by rw [ba_toList, ← hnm]; rfl
        have HNM := Lib.hid hnm
        have hb32 : v.band < 4294967296 := HA.out.1.band
        obtain rfl : c = S (Lib.decDigits v.band) := S_of hvl.symm
        clear hnm hvl
        have hb32' : (v.band : Int) ≤ 4294967295 := by omega
        cases strict
        · go_wp2_with (go_at_call 51; refine (atoi_n v.band _ hb32).mono ?_; rintro e w10 ⟨rfl, hb10⟩; have h10 := H9.out.1.keep hb10; have s15' := h10.s.cell 15 rfl; unfold ptr at s15'; have d := h10.v.lastBox.cell 3 rfl; have fr := h10.v.lastBox.frozen 3; have H10 := Lib.hid (And.intro h10 (H9.out.2.below hb10)); have HR10 := Lib.hid (HR9.out.kept (grown_below hb10 none) (by simp) (by simp)); clear h10 hb10)
          go_roundw
          case rel => exact ⟨rfl, _, cnt', HR10.out.kept (Lib.grownBy_setCell _ A 3 _) (by simp; omega) (by simp; omega), hsub2, H10.out.1.setV 3 _ (by rw [vRes_cells, vRes_cells, vPart_set v _ x.data.toList 3 _ (by rw [← HNM.out]; simp)]; rfl), H10.out.2.setCell _ _ (fun _ => .inr (.inr hBA))⟩
          case measure => rw [(HR10.out.kept (Lib.grownBy_setCell _ A 3 _) (by simp; omega) (by simp; omega)).left_eq, HLE.out]; exact hlt
        · go_wp2_with (go_at_call 51; refine (atoi_n v.band _ hb32).mono ?_; rintro e w10 ⟨rfl, hb10⟩; have h10 := H9.out.1.keep hb10; have s15' := h10.s.cell 15 rfl; unfold ptr at s15'; have d := h10.v.lastBox.cell 3 rfl; have fr := h10.v.lastBox.frozen 3; have H10 := Lib.hid (And.intro h10 (H9.out.2.below hb10)); have HR10 := Lib.hid (HR9.out.kept (grown_below hb10 none) (by simp) (by simp)); clear h10 hb10)
          go_roundw
          case rel => exact ⟨rfl, _, cnt', HR10.out.kept (Lib.grownBy_setCell _ A 3 _) (by simp; omega) (by simp; omega), hsub2, H10.out.1.setV 3 _ (by rw [vRes_cells, vRes_cells, vPart_set v _ x.data.toList 3 _ (by rw [← HNM.out]; simp)]; rfl), H10.out.2.setCell _ _ (fun _ => .inr (.inr hBA))⟩
          case measure => rw [(HR10.out.kept (Lib.grownBy_setCell _ A 3 _) (by simp; omega) (by simp; omega)).left_eq, HLE.out]; exact hlt
      · as_aux_lemma =>
        simp only at hnm hvl
        have k0 : (x.toList == ([80, 82, 79, 71, 82, 65, 77, 45, 73, 68] : List UInt8)) = false := by rw [ba_toList, ← hnm]; rfl
        have k1 : (x.toList == ([66, 65, 78, 68, 87, 73, 68, 84, 72] : List UInt8)) = false := by rw [ba_toList, ← hnm]; rfl
        have k2 : (x.toList == ([67, 79, 68, 69, 67, 83] : List UInt8)) = false := by rw [ba_toList, ← hnm]; rfl
        have k3 : (x.toList == ([82, 69, 83, 79, 76, 85, 84, 73, 79, 78] : List UInt8)) = false := by rw [ba_toList, ← hnm]; rfl
        have k4 : (x.toList == ([65, 85, 68, 73, 79] : List UInt8)) = false := by rw [ba_toList, ← hnm]; rfl
        have k5 : (x.toList == ([86, 73, 68, 69, 79] : List UInt8)) = false := by rw [ba_toList, ← hnm]; rfl
        have k6 : (x.toList == ([83, 85, 66, 84, 73, 84, 76, 69, 83] : List UInt8)) = false := by rw [ba_toList, ← hnm]; rfl
        have k7 : (x.toList == ([67, 76, 79, 83, 69, 68, 45, 67, 65, 80, 84, 73, 79, 78, 83] : List UInt8)) = false := by rw [ba_toList, ← hnm]; rfl
        have k8 : (x.toList == ([78, 65, 77, 69] : List UInt8)) = false := by rw [ba_toList, ← hnm]; rfl
        have k9 : (x.toList == ([65, 86, 69, 82, 65, 71, 69, 45, 66, 65, 78, 68, 87, 73, 68, 84, 72] : List UInt8)) = true := by rw [ba_toList, ← hnm]; rfl
        have HNM := Lib.hid hnm
        have hav : ¬ v.avg = 0 := fun e => HNE.out (by rw [← hvl, if_pos e])
        rw [if_neg hav] at hvl
        have hb32 : v.avg < 4294967296 := HA.out.1.avg
        obtain rfl : c = S (Lib.decDigits v.avg) := S_of hvl.symm
        clear hnm hvl
        have hb32' : (v.avg : Int) ≤ 4294967295 := by omega
        cases strict
        · go_wp2_with (go_at_call 51; refine (atoi_n v.avg _ hb32).mono ?_; rintro e w10 ⟨rfl, hb10⟩; have h10 := H9.out.1.keep hb10; have s15' := h10.s.cell 15 rfl; unfold ptr at s15'; have d := h10.v.lastBox.cell 4 rfl; have fr := h10.v.lastBox.frozen 4; have H10 := Lib.hid (And.intro h10 (H9.out.2.below hb10)); have HR10 := Lib.hid (HR9.out.kept (grown_below hb10 none) (by simp) (by simp)); clear h10 hb10)
          go_roundw
          case rel => exact ⟨rfl, _, cnt', HR10.out.kept (Lib.grownBy_setCell _ A 4 _) (by simp; omega) (by simp; omega), hsub2, H10.out.1.setV 4 _ (by rw [vRes_cells, vRes_cells, vPart_set v _ x.data.toList 4 _ (by rw [← HNM.out]; simp)]; rfl), H10.out.2.setCell _ _ (fun _ => .inr (.inr hBA))⟩
          case measure => rw [(HR10.out.kept (Lib.grownBy_setCell _ A 4 _) (by simp; omega) (by simp; omega)).left_eq, HLE.out]; exact hlt
        · go_wp2_with (go_at_call 51; refine (atoi_n v.avg _ hb32).mono ?_; rintro e w10 ⟨rfl, hb10⟩; have h10 := H9.out.1.keep hb10; have s15' := h10.s.cell 15 rfl; unfold ptr at s15'; have d := h10.v.lastBox.cell 4 rfl; have fr := h10.v.lastBox.frozen 4; have H10 := Lib.hid (And.intro h10 (H9.out.2.below hb10)); have HR10 := Lib.hid (HR9.out.kept (grown_below hb10 none) (by simp) (by simp)); clear h10 hb10)
          go_roundw
          case rel => exact ⟨rfl, _, cnt', HR10.out.kept (Lib.grownBy_setCell _ A 4 _) (by simp; omega) (by simp; omega), hsub2, H10.out.1.setV 4 _ (by rw [vRes_cells, vRes_cells, vPart_set v _ x.data.toList 4 _ (by rw [← HNM.out]; simp)]; rfl), H10.out.2.setCell _ _ (fun _ => .inr (.inr hBA))⟩
          case measure => rw [(HR10.out.kept (Lib.grownBy_setCell _ A 4 _) (by simp; omega) (by simp; omega)).left_eq, HLE.out]; exact hlt
      · as_aux_lemma =>
        simp only at hnm hvl
        have k0 : (x.toList == ([80, 82, 79, 71, 82, 65, 77, 45, 73, 68] : List UInt8)) = false := by rw [ba_toList, ← hnm]; rfl
        have k1 : (x.toList == ([66, 65, 78, 68, 87, 73, 68, 84, 72] : List UInt8)) = false := by rw [ba_toList, ← hnm]; rfl
        have k2 : (x.toList == ([67, 79, 68, 69, 67, 83] : List UInt8)) = true := by rw [ba_toList, ← hnm]; rfl
        have HNM := Lib.hid hnm
        have d := H9.out.1.v.lastBox.cell 5 rfl
        have fr := H9.out.1.v.lastBox.frozen 5
        obtain rfl : c = S v.codecs := S_of hvl.symm
        clear hnm hvl
        go_wp2_with fail
        go_roundw
        case rel => exact ⟨rfl, _, cnt', HR9.out.kept (Lib.grownBy_setCell _ A 5 _) (by simp; omega) (by simp; omega), hsub2, H9.out.1.setV 5 _ (by rw [vRes_cells, vRes_cells, vPart_set v _ x.data.toList 5 _ (by rw [← HNM.out]; simp)]; rfl), H9.out.2.setCell _ _ (fun _ => .inr (.inr hBA))⟩
        case measure => rw [(HR9.out.kept (Lib.grownBy_setCell _ A 5 _) (by simp; omega) (by simp; omega)).left_eq, HLE.out]; exact hlt
      · as_aux_lemma =>
        simp only at hnm hvl
        have k0 : (x.toList == ([80, 82, 79, 71, 82, 65, 77, 45, 73, 68] : List UInt8)) = false := by rw [ba_toList, ← hnm]; rfl
        have k1 : (x.toList == ([66, 65, 78, 68, 87, 73, 68, 84, 72] : List UInt8)) = false := by rw [ba_toList, ← hnm]; rfl
        have k2 : (x.toList == ([67, 79, 68, 69, 67, 83] : List UInt8)) = false := by rw [ba_toList, ← hnm]; rfl
        have k3 : (x.toList == ([82, 69, 83, 79, 76, 85, 84, 73, 79, 78] : List UInt8)) = true := by rw [ba_toList, ← hnm]; rfl
        have HNM := Lib.hid hnm
        have d := H9.out.1.v.lastBox.cell 6 rfl
        have fr := H9.out.1.v.lastBox.frozen 6
        obtain rfl : c = S v.resolution := S_of hvl.symm
        clear hnm hvl
        go_wp2_with fail
        go_roundw
        case rel => exact ⟨rfl, _, cnt', HR9.out.kept (Lib.grownBy_setCell _ A 6 _) (by simp; omega) (by simp; omega), hsub2, H9.out.1.setV 6 _ (by rw [vRes_cells, vRes_cells, vPart_set v _ x.data.toList 6 _ (by rw [← HNM.out]; simp)]; rfl), H9.out.2.setCell _ _ (fun _ => .inr (.inr hBA))⟩
        case measure => rw [(HR9.out.kept (Lib.grownBy_setCell _ A 6 _) (by simp; omega) (by simp; omega)).left_eq, HLE.out]; exact hlt
      · as_aux_lemma =>
        simp only at hnm hvl
        have k0 : (x.toList == ([80, 82, 79, 71, 82, 65, 77, 45, 73, 68] : List UInt8)) = false := by rw [ba_toList, ← hnm]; rfl
        have k1 : (x.toList == ([66, 65, 78, 68, 87, 73, 68, 84, 72] : List UInt8)) = false := by rw [ba_toList, ← hnm]; rfl
        have k2 : (x.toList == ([67, 79, 68, 69, 67, 83] : List UInt8)) = false := by rw [ba_toList, ← hnm]; rfl
        have k3 : (x.toList == ([82, 69, 83, 79, 76, 85, 84, 73, 79, 78] : List UInt8)) = false := by rw [ba_toList, ← hnm]; rfl
        have k4 : (x.toList == ([65, 85, 68, 73, 79] : List UInt8)) = true := by rw [ba_toList, ← hnm]; rfl
        have HNM := Lib.hid hnm
        have d := H9.out.1.v.lastBox.cell 7 rfl
        have fr := H9.out.1.v.lastBox.frozen 7
        obtain rfl : c = S v.audio := S_of hvl.symm
        clear hnm hvl
        go_wp2_with fail
        go_roundw
        case rel => exact ⟨rfl, _, cnt', HR9.out.kept (Lib.grownBy_setCell _ A 7 _) (by simp; omega) (by simp; omega), hsub2, H9.out.1.setV 7 _ (by rw [vRes_cells, vRes_cells, vPart_set v _ x.data.toList 7 _ (by rw [← HNM.out]; simp)]; rfl), H9.out.2.setCell _ _ (fun _ => .inr (.inr hBA))⟩
        case measure => rw [(HR9.out.kept (Lib.grownBy_setCell _ A 7 _) (by simp; omega) (by simp; omega)).left_eq, HLE.out]; exact hlt
      · as_aux_lemma =>
        simp only at hnm hvl
        have k0 : (x.toList == ([80, 82, 79, 71, 82, 65, 77, 45, 73, 68] : List UInt8)) = false := by rw [ba_toList, ← hnm]; rfl
        have k1 : (x.toList == ([66, 65, 78, 68, 87, 73, 68, 84, 72] : List UInt8)) = false := by rw [ba_toList, ← hnm]; rfl
        have k2 : (x.toList == ([67, 79, 68, 69, 67, 83] : List UInt8)) = false := by rw [ba_toList, ← hnm]; rfl
        have k3 : (x.toList == ([82, 69, 83, 79, 76, 85, 84, 73, 79, 78] : List UInt8)) = false := by rw [ba_toList, ← hnm]; rfl
        have k4 : (x.toList == ([65, 85, 68, 73, 79] : List UInt8)) = false := by rw [ba_toList, ← hnm]; rfl
        have k5 : (x.toList == ([86, 73, 68, 69, 79] : List UInt8)) = true := by rw [ba_toList, ← hnm]; rfl
        have HNM := Lib.hid hnm
        have d := H9.out.1.v.lastBox.cell 8 rfl
        have fr := H9.out.1.v.lastBox.frozen 8
        obtain rfl : c = S v.video := S_of hvl.symm
        clear hnm hvl
        go_wp2_with fail
        go_roundw
        case rel => exact ⟨rfl, _, cnt', HR9.out.kept (Lib.grownBy_setCell _ A 8 _) (by simp; omega) (by simp; omega), hsub2, H9.out.1.setV 8 _ (by rw [vRes_cells, vRes_cells, vPart_set v _ x.data.toList 8 _ (by rw [← HNM.out]; simp)]; rfl), H9.out.2.setCell _ _ (fun _ => .inr (.inr hBA))⟩
        case measure => rw [(HR9.out.kept (Lib.grownBy_setCell _ A 8 _) (by simp; omega) (by simp; omega)).left_eq, HLE.out]; exact hlt
      · as_aux_lemma =>
        simp only at hnm hvl
        have k0 : (x.toList == ([80, 82, 79, 71, 82, 65, 77, 45, 73, 68] : List UInt8)) = false := by rw [ba_toList, ← hnm]; rfl
        have k1 : (x.toList == ([66, 65, 78, 68, 87, 73, 68, 84, 72] : List UInt8)) = false := by rw [ba_toList, ← hnm]; rfl
        have k2 : (x.toList == ([67, 79, 68, 69, 67, 83] : List UInt8)) = false := by rw [ba_toList, ← hnm]; rfl
        have k3 : (x.toList == ([82, 69, 83, 79, 76, 85, 84, 73, 79, 78] : List UInt8)) = false := by rw [ba_toList, ← hnm]; rfl
        have k4 : (x.toList == ([65, 85, 68, 73, 79] : List UInt8)) = false := by rw [ba_toList, ← hnm]; rfl
        have k5 : (x.toList == ([86, 73, 68, 69, 79] : List UInt8)) = false := by rw [ba_toList, ← hnm]; rfl
        have k6 : (x.toList == ([83, 85, 66, 84, 73, 84, 76, 69, 83] : List UInt8)) = false := by rw [ba_toList, ← hnm]; rfl
        have k7 : (x.toList == ([67, 76, 79, 83, 69, 68, 45, 67, 65, 80, 84, 73, 79, 78, 83] : List UInt8)) = true := by rw [ba_toList, ← hnm]; rfl
        have HNM := Lib.hid hnm
        have d := H9.out.1.v.lastBox.cell 10 rfl
        have fr := H9.out.1.v.lastBox.frozen 10
        obtain rfl : c = S v.caps := S_of hvl.symm
        clear hnm hvl
        go_wp2_with fail
        go_roundw
        case rel => exact ⟨rfl, _, cnt', HR9.out.kept (Lib.grownBy_setCell _ A 10 _) (by simp; omega) (by simp; omega), hsub2, H9.out.1.setV 10 _ (by rw [vRes_cells, vRes_cells, vPart_set v _ x.data.toList 10 _ (by rw [← HNM.out]; simp)]; rfl), H9.out.2.setCell _ _ (fun _ => .inr (.inr hBA))⟩
        case measure => rw [(HR9.out.kept (Lib.grownBy_setCell _ A 10 _) (by simp; omega) (by simp; omega)).left_eq, HLE.out]; exact hlt
      · as_aux_lemma =>
        simp only at hnm hvl
        have k0 : (x.toList == ([80, 82, 79, 71, 82, 65, 77, 45, 73, 68] : List UInt8)) = false := by rw [ba_toList, ← hnm]; rfl
        have k1 : (x.toList == ([66, 65, 78, 68, 87, 73, 68, 84, 72] : List UInt8)) = false := by rw [ba_toList, ← hnm]; rfl
        have k2 : (x.toList == ([67, 79, 68, 69, 67, 83] : List UInt8)) = false := by rw [ba_toList, ← hnm]; rfl
        have k3 : (x.toList == ([82, 69, 83, 79, 76, 85, 84, 73, 79, 78] : List UInt8)) = false := by rw [ba_toList, ← hnm]; rfl
        have k4 : (x.toList == ([65, 85, 68, 73, 79] : List UInt8)) = false := by rw [ba_toList, ← hnm]; rfl
        have k5 : (x.toList == ([86, 73, 68, 69, 79] : List UInt8)) = false := by rw [ba_toList, ← hnm]; rfl
        have k6 : (x.toList == ([83, 85, 66, 84, 73, 84, 76, 69, 83] : List UInt8)) = true := by rw [ba_toList, ← hnm]; rfl
        have HNM := Lib.hid hnm
        have d := H9.out.1.v.lastBox.cell 9 rfl
        have fr := H9.out.1.v.lastBox.frozen 9
        obtain rfl : c = S v.subs := S_of hvl.symm
        clear hnm hvl
        go_wp2_with fail
        go_roundw
        case rel => exact ⟨rfl, _, cnt', HR9.out.kept (Lib.grownBy_setCell _ A 9 _) (by simp; omega) (by simp; omega), hsub2, H9.out.1.setV 9 _ (by rw [vRes_cells, vRes_cells, vPart_set v _ x.data.toList 9 _ (by rw [← HNM.out]; simp)]; rfl), H9.out.2.setCell _ _ (fun _ => .inr (.inr hBA))⟩
        case measure => rw [(HR9.out.kept (Lib.grownBy_setCell _ A 9 _) (by simp; omega) (by simp; omega)).left_eq, HLE.out]; exact hlt
      · as_aux_lemma =>
        simp only at hnm hvl
        have k0 : (x.toList == ([80, 82, 79, 71, 82, 65, 77, 45, 73, 68] : List UInt8)) = false := by rw [ba_toList, ← hnm]; rfl
        have k1 : (x.toList == ([66, 65, 78, 68, 87, 73, 68, 84, 72] : List UInt8)) = false := by rw [ba_toList, ← hnm]; rfl
        have k2 : (x.toList == ([67, 79, 68, 69, 67, 83] : List UInt8)) = false := by rw [ba_toList, ← hnm]; rfl
        have k3 : (x.toList == ([82, 69, 83, 79, 76, 85, 84, 73, 79, 78] : List UInt8)) = false := by rw [ba_toList, ← hnm]; rfl
        have k4 : (x.toList == ([65, 85, 68, 73, 79] : List UInt8)) = false := by rw [ba_toList, ← hnm]; rfl
        have k5 : (x.toList == ([86, 73, 68, 69, 79] : List UInt8)) = false := by rw [ba_toList, ← hnm]; rfl
        have k6 : (x.toList == ([83, 85, 66, 84, 73, 84, 76, 69, 83] : List UInt8)) = false := by rw [ba_toList, ← hnm]; rfl
        have k7 : (x.toList == ([67, 76, 79, 83, 69, 68, 45, 67, 65, 80, 84, 73, 79, 78, 83] : List UInt8)) = false := by rw [ba_toList, ← hnm]; rfl
        have k8 : (x.toList == ([78, 65, 77, 69] : List UInt8)) = true := by rw [ba_toList, ← hnm]; rfl
        have HNM := Lib.hid hnm
        have d := H9.out.1.v.lastBox.cell 11 rfl
        have fr := H9.out.1.v.lastBox.frozen 11
        obtain rfl : c = S v.name := S_of hvl.symm
        clear hnm hvl
        go_wp2_with fail
        go_roundw
        case rel => exact ⟨rfl, _, cnt', HR9.out.kept (Lib.grownBy_setCell _ A 11 _) (by simp; omega) (by simp; omega), hsub2, H9.out.1.setV 11 _ (by rw [vRes_cells, vRes_cells, vPart_set v _ x.data.toList 11 _ (by rw [← HNM.out]; simp)]; rfl), H9.out.2.setCell _ _ (fun _ => .inr (.inr hBA))⟩
        case measure => rw [(HR9.out.kept (Lib.grownBy_setCell _ A 11 _) (by simp; omega) (by simp; omega)).left_eq, HLE.out]; exact hlt
      · skip
        simp only at hnm hvl
        have k0 : (x.toList == ([80, 82, 79, 71, 82, 65, 77, 45, 73, 68] : List UInt8)) = false := by rw [ba_toList, ← hnm]; rfl
        have k1 : (x.toList == ([66, 65, 78, 68, 87, 73, 68, 84, 72] : List UInt8)) = false := by rw [ba_toList, ← hnm]; rfl
        have k2 : (x.toList == ([67, 79, 68, 69, 67, 83] : List UInt8)) = false := by rw [ba_toList, ← hnm]; rfl
        have k3 : (x.toList == ([82, 69, 83, 79, 76, 85, 84, 73, 79, 78] : List UInt8)) = false := by rw [ba_toList, ← hnm]; rfl
        have k4 : (x.toList == ([65, 85, 68, 73, 79] : List UInt8)) = false := by rw [ba_toList, ← hnm]; rfl
        have k5 : (x.toList == ([86, 73, 68, 69, 79] : List UInt8)) = false := by rw [ba_toList, ← hnm]; rfl
        have k6 : (x.toList == ([83, 85, 66, 84, 73, 84, 76, 69, 83] : List UInt8)) = false := by rw [ba_toList, ← hnm]; rfl
        have k7 : (x.toList == ([67, 76, 79, 83, 69, 68, 45, 67, 65, 80, 84, 73, 79, 78, 83] : List UInt8)) = false := by rw [ba_toList, ← hnm]; rfl
        have k8 : (x.toList == ([78, 65, 77, 69] : List UInt8)) = false := by rw [ba_toList, ← hnm]; rfl
        have k9 : (x.toList == ([65, 86, 69, 82, 65, 71, 69, 45, 66, 65, 78, 68, 87, 73, 68, 84, 72] : List UInt8)) = false := by rw [ba_toList, ← hnm]; rfl
        have k10 : (x.toList == ([70, 82, 65, 77, 69, 45, 82, 65, 84, 69] : List UInt8)) = true := by rw [ba_toList, ← hnm]; rfl
        have HNM := Lib.hid hnm
        have hra : ¬ v.rate = 0 := fun e => HNE.out (by rw [← hvl, if_pos e])
        rw [if_neg hra] at hvl
        have hr2 : v.rate ≤ 1000 := HA.out.1.rate
        have hr1 : 1 ≤ v.rate := by omega
        have d := H9.out.1.v.lastBox.cell 15 rfl
        have fr := H9.out.1.v.lastBox.frozen 15
        have hE9 := H.out.2.1.chg H9.out.2 (by rintro i (rfl | rfl | hi); exact hB0.1; exact hB0.2.1; exact Nat.le_trans hB0.2.2 hi)
        have HE9 := Lib.hid hE9.env.num
        obtain rfl : c = S (seconds v.rate) := S_of hvl.symm
        have HRR := Lib.hid (And.intro hr1 hr2)
        clear hnm hvl hE9 hra hr1 hr2
        have hsf := run_store_float
        go_upto_region 87 with fail
        go_cut [9] from 315 to 326 (fun s wx => s = .nilIface ∧ ∃ left2 : Lit → Bool, Hid (wx.ranges Tryz.prog 9 PE M R n D left2 cnt') ∧ Hid (∀ k, left2 (.string k) = true → (F k).isSome = true) ∧ Hid (HD wx B P St vv' va (mplCells vv' ver ind) (stCells 1 m3u true (ptr A) va) (vbs ++ [A]) (vs ++ [vRes v (fun k => left2 (.string k))]) abs ats) ∧ Hid (Chg (Sx B P St) w wx))
        case first =>
          go_region_with ((go_at_call 52; refine (parseFloat_any v.rate _ HRR.out.1 HRR.out.2 (by exact ⟨HE9.out.opt, HE9.out.info, HE9.out.pow⟩)).mono ?_; rintro e w' ⟨rfl, rfl⟩))
          all_goals
            go_wp2_with fail
            go_meet
            case rel => exact ⟨rfl, _, World.ranges.kept (w := w9) HR9.out (ranges_drew w9 A 15 _) (by simp; omega) (by simp; omega), hsub2, HD.setV (w := w9.drew) H9.out.1.drew 15 _ (by rw [vRes_cells, vRes_cells, vPart_set v _ x.data.toList 15 _ (by rw [← HNM.out]; simp)]; rfl), H9.out.2.drew.setCell _ _ (fun _ => .inr (.inr hBA))⟩
        case rest =>
          obtain ⟨rfl, left2, hR2, hS2, hH2, hC2⟩ := hcut
          clear d fr hsf HNM HE9 HRR H9 HR9
          cases strict
          all_goals
            go_wp2_with fail
            go_roundw
            case rel => exact ⟨rfl, _, cnt', hR2.out, hS2, hH2, hC2⟩
            case measure => rw [hR2.out.left_eq, HLE.out]; exact hlt
end Go.Proofs.YtelkphcbopbhoaaGreatDoor
