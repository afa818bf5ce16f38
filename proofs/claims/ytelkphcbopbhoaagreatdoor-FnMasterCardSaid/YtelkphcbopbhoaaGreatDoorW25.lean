/-
  Walks: a line of a master playlist, read: a rendition.
-/
import Derived.Test.YtelkphcbopbhoaaGreatDoorW24
namespace Go.Proofs.YtelkphcbopbhoaaGreatDoor
open Go Go.RowKit
open Go.Maps (Keyed)

def aZero : List Value := [.string ⟨#[]⟩, .string ⟨#[]⟩, .string ⟨#[]⟩, .string ⟨#[]⟩, .string ⟨#[]⟩, .bool false, .string ⟨#[]⟩, .string ⟨#[]⟩, .string ⟨#[]⟩, .string ⟨#[]⟩]

set_option maxRecDepth 100000 in
set_option maxHeartbeats 4000000 in
theorem dec_alt {B0 B P St ver : Nat} {ind m3u inf strict : Bool} {vbs abs : List Nat} {vs : List Vrt} {ats : List Alt} {w : World} (r J : Bs) (a : Alt) (h : HS w B P St ver ind m3u inf vbs vs abs ats) (hE : EnvAt B0 w) (hB : B ≤ w.heap.size)
    (hg : a.Good) {F : Bs → Option Bs} (hF : Attrs a.all J F) (hr : Lib.trimSpace r = tMEDIA ++ J) (hlen : r.length ≤ 100000) (ha : ∀ c ∈ r, c.toNat < 128) (hJ : J.length ≤ 10000) (habs : abs.length ≤ 1000) :
    Calls Tryz.prog 35 #[ptr P, ptr St, .string (S r), .bool strict] w fun e w' => e = .returned .nilIface ∧ (∃ A, HS w' B P St ver ind m3u inf vbs vs (abs ++ [A]) (ats ++ [a])) ∧ Chg (Sx B P St) w w' := by
  obtain ⟨l, hl⟩ : ∃ l, l = tMEDIA ++ J := ⟨_, rfl⟩
  rw [← hl] at hr
  have hll : (S l).size = 13 + J.length := by show l.length = _; rw [hl, List.length_append]; rfl
  have t1 : ((S l).toList == ([35, 69, 88, 84, 77, 51, 85] : List UInt8)) = false := by rw [ba_toList, S_list, hl]; rfl
  have p1 : hasPB ⟨#[35, 69, 88, 84, 45, 88, 45, 86, 69, 82, 83, 73, 79, 78, 58]⟩ l = false := by rw [hl]; rfl
  have t2 : ((S l).toList == ([35, 69, 88, 84, 45, 88, 45, 73, 78, 68, 69, 80, 69, 78, 68, 69, 78, 84, 45, 83, 69, 71, 77, 69, 78, 84, 83] : List UInt8)) = false := by rw [ba_toList, S_list, hl]; rfl
  have p2 : hasPB ⟨#[35, 69, 88, 84, 45, 88, 45, 77, 69, 68, 73, 65, 58]⟩ l = true := by
    unfold hasPB
    rw [hl]
    exact List.isPrefixOf_iff_prefix.2 (List.prefix_append tMEDIA _)
  have e13 : ((S l).extract 13 (S l).size).data.toList = J := by rw [S_drop, hl]; rfl
  have H13 : Hid (((S l).extract 13 (S l).size).size ≤ 1000000) := by show _ ≤ _; rw [← ba_size, e13]; omega
  have E13 := Lib.hid e13
  have i1 : (13 : Int) ≤ ((S l).size : Int) := by omega
  have i2 : ((S l).size : Int) ≤ 20000 := by omega
  have H := Lib.hid (And.intro h (And.intro hE.env (And.intro hr (And.intro hlen ha))))
  have HA := Lib.hid (And.intro hg hF)
  clear h hE hr hlen ha hl e13 hll hg hF
  unfold ptr
  go_enter Tryz.func35, Tryz.ntmps35
  go_wp2_with fail
  refine (trim_line r l w H.out.2.2.1 H.out.2.2.2.1 H.out.2.2.2.2 H.out.2.1).mono ?_
  rintro e w1 ⟨rfl, hb⟩
  obtain ⟨⟨vv, lt, lv, va, hD, hI⟩, _⟩ := H.out
  have h1 := hD.keep hb
  have hC1 : Chg (Sx B P St) w w1 := (Chg.refl _ w).below hb
  have hB1 : B ≤ w1.heap.size := Nat.le_trans hB hb.size
  have c0 := h1.s.cell 0 rfl
  have f0 := h1.s.frozen 0
  have hSt : St ≠ w1.heap.size := by have := h1.ltS; omega
  have HX := Lib.hid (And.intro h1 (And.intro hI hC1))
  clear h1 hI hC1 hb hD
  clear c0 f0
  go_upto_region 14 with (go_at_call 46; refine (hasPrefix_all _ _ _).mono ?_; rintro e w' ⟨rfl, rfl⟩)
  obtain ⟨A, hA⟩ : ∃ A, A = w1.heap.size := ⟨_, rfl⟩
  obtain ⟨w2, hw2⟩ : ∃ w2, w2 = w1.alloc (.cells aZero.toArray 97) := ⟨_, rfl⟩
  have hw2' := hw2
  simp only [aZero] at hw2'
  rw [← hw2', ← hA]
  clear hw2'
  have hbA : Box w2 A 97 aZero := by rw [hw2]; exact Box.new hA
  have hbel2 : Below w1.heap.size w1 w2 := by rw [hw2]; exact (Below.refl _ _).alloc (Nat.le_refl _) _
  have h2 := HX.out.1.keep hbel2
  have hC2 : Chg (Sx B P St) w w2 := HX.out.2.2.below hbel2
  have hAs : A < w2.heap.size := hbA.lt
  have hBA : B ≤ A := by omega
  have c0 := h2.s.cell 0 rfl
  have f0 := h2.s.frozen 0
  have H2 := Lib.hid (And.intro h2 (And.intro hC2 hbA))
  have HNA : Hid (A ∉ abs) := by
    intro hm
    have := HX.out.1.a.low_mem A hm
    omega
  obtain ⟨i0, hi0, hz, hz1, hz2⟩ := info_parts Tryz.info95
  have HI0 := Lib.hid (And.intro hi0 (And.intro hz (And.intro hz1 hz2)))
  clear hw2 hA hbA hbel2 h2 hC2 hSt hi0 hz hz1 hz2
  go_upto_region 15 with fail
  obtain ⟨w3, hw3⟩ : ∃ w3, w3 = w2.setCell ⟨St, 0, none⟩ (.int .u64 1) := ⟨_, rfl⟩
  rw [← hw3]
  have h3 : HD w3 B P St vv va (mplCells vv ver ind) (stCells 1 m3u inf lv va) vbs vs abs ats := by rw [hw3]; exact H2.out.1.setS 0 _
  have hC3 : Chg (Sx B P St) w w3 := by rw [hw3]; exact H2.out.2.1.setS 0 _
  have hbA3 : Box w3 A 97 aZero := by
    rw [hw3]
    exact H2.out.2.2.chg ((Chg.refl (fun k => k = St) w2).setCell _ _ (fun _ => rfl)) (by have := H2.out.1.ltS; omega)
  have H3 := Lib.hid (And.intro h3 (And.intro hC3 hbA3))
  have hA3 : A < w3.heap.size := hbA3.lt
  clear hw3 h3 hC3 hbA3 c0 f0 hAs
  go_wp2_with fail
  refine (params_any _ w3 H13.out).mono ?_
  rintro e w4 ⟨M, n, D, rfl, hM, hn, hown, hmap, hbel⟩
  rw [E13.out, HA.out.2.is] at hmap
  have h4 := H3.out.1.keep hbel
  have hC4 : Chg (Sx B P St) w w4 := H3.out.2.1.below hbel
  have hbA4 : Box w4 A 97 aZero := H3.out.2.2.chg ((Chg.refl (fun _ => False) w3).below hbel) (fun h => h)
  have hlt4 : w3.heap.size ≤ w4.heap.size := hbel.size
  have H4 := Lib.hid (And.intro h4 (And.intro hC4 hbA4))
  have HMAP := Lib.hid hmap
  have HOWN := Lib.hid hown
  clear h4 hC4 hbA4 hbel hmap hown
  go_wp2_with (at_range; refine wpList_range_own _ rfl _ 129 rfl 9 9 law9 Tryz.underlying129 PE M n D rfl HOWN.out ?_; intro w5 hrg5 hg5 hs5)
  go_frame
  obtain ⟨R, hR⟩ : ∃ R, R = w4.heap.size := ⟨_, rfl⟩
  rw [← hR] at hrg5 ⊢
  have h5 := H4.out.1.keep ⟨hg5.os, hg5.tape, hg5.output, hg5.size, fun i hi => hg5.block i hi (by simp)⟩
  have hC5 : Chg (Sx B P St) w w5 := H4.out.2.1.grown hg5 (fun i hi => by cases hi)
  have hbA5 : Box w5 A 97 (aPart a (fun k => Maps.has D (.string k))) := by
    rw [aPart_start a HA.out.2 _ (fun k => (HMAP.out.2 k).1)]
    exact H4.out.2.2.chg ((Chg.refl (fun _ => False) w4).grown hg5 (fun i hi => by cases hi)) (fun h => h)
  have hMA : A < M := by omega
  have hRM : M ≠ R := by have := HOWN.out.lt; omega
  have hRA : A ≠ R := by omega
  have hBR : B ≤ R := by omega
  have hR5 : R < w5.heap.size := hrg5.lt
  clear hg5 hs5 HOWN H4 H3 hR
  go_loopw [12] (fun _ wr => ∃ (left : Lit → Bool) (cnt : Nat), wr.ranges Tryz.prog 9 PE M R n D left cnt ∧ Hid (∀ k, left (.string k) = true → (F k).isSome = true) ∧ Hid (HD wr B P St vv va (mplCells vv ver ind) (stCells 1 m3u inf lv va) vbs vs abs ats) ∧ Hid (Chg (Sx B P St) w wr) ∧ Hid (Box wr A 97 (aPart a (fun k => left (.string k))))) (fun _ wr => wr.rangeLeft M R)
  case atStart => exact ⟨_, _, hrg5, fun k hk => by rw [← (HMAP.out.2 k).1]; exact hk, h5, hC5, hbA5⟩
  case round =>
    clear hrg5 h5 hC5 hbA5 hR5
    obtain ⟨left, cnt, hrg, hsub, hHD, hCh, hBox⟩ := hrel
    have HRG := Lib.hid hrg
    clear hrg
    go_wp2_with (at_next; refine wpList_next_ranges (α := ByteArray) (β := ByteArray) _ rfl _ rfl 9 law9 PE Value.string Value.string (fun key kl hk => by obtain ⟨s, h, _⟩ := key9_inv hk; exact ⟨s, h⟩) (fun v y hv => by obtain ⟨s, h, _⟩ := pe_inv hv; exact ⟨s, h⟩) M R n D left cnt rfl HRG.out ?_ ?_)
    · intro hc0 hl0
      have hbx : Box wr A 97 (aCells a) := by rw [← aPart_end a (fun k => left (.string k)) (fun k => hl0 _)]; exact hBox.out
      obtain ⟨A5, c5, hV5⟩ := own_shape hHD.out.a.row
      subst hV5
      have c16 := hHD.out.s.cell 16 rfl
      have hBw : B ≤ wr.heap.size := Nat.le_trans hB hCh.out.size
      have HBX := Lib.hid hbx
      clear hbx hc0 hl0
      go_wp2_with (at_builtin; go_loud (refine wpList_append_lies _ rfl _ _ 90 rfl B 95 i0 (.pointer none) 1 8 Tryz.underlying90 HI0.out.1 HI0.out.2.1 HI0.out.2.2.1 HI0.out.2.2.2 rfl (by decide) (.slice A5 abs.length c5) abs.length (abs.map ptr) rfl (hHD.out.a.row.alloc _) ⟨wr.heap.size, 0, none⟩ 1 1 [ptr A] rfl rfl (World.news_of_block (t := 95) (fr := (0, 0)) (heap_alloc_new _ _)) (by intro u hu; rw [List.mem_singleton.1 hu]; rfl) (by omega) (by unfold maxLen; omega) (by omega) (by simp; omega) _ rfl ?_); intro g2 cap w6 hown6 hgrow6 _ _; have hcw : Chg (fun i => (Value.slice A5 abs.length c5).ownBlock = some i) wr w6 := ((Chg.refl _ wr).alloc _).grown hgrow6 (fun i hi _ => hi); have h6 := hHD.out.app_alt HBX.out hBA HNA.out hown6 hcw; have s16 := h6.s.cell 16 rfl; have fr16 := h6.s.frozen 16; have H6 := Lib.hid h6; have HCW := Lib.hid hcw; clear h6 hcw hown6 hgrow6)
      go_ret
      refine ⟨rfl, ⟨A, _, 1, lv, _, H6.out.setS 16 _, HX.out.2.1⟩, (hCh.out.trans ⟨HCW.out.os, HCW.out.tape, HCW.out.output, HCW.out.size, fun k hk hn => HCW.out.block k hk (fun e => hn (.inr (.inr ?_)))⟩).setS 16 _⟩
      exact (World.ownsRow.lt hHD.out.a.row k e).1
    · intro x c kl ya yb w6 cnt' hkey hlk hval hat hrg1 hlt hgr hsz hen
      obtain ⟨hkl, hFx⟩ := entry_is (y := (ya, yb)) HMAP.out hkey hval hat (fun k e => hsub.out k (by rw [← e]; exact hlk))
      subst hkl
      obtain ⟨att, hat2, hnm, hvl⟩ := HA.out.2.only _ _ hFx
      have h6 := hHD.out.iter (ranges_iter HRG.out) hgr
      have hC6 : Chg (Sx B P St) w w6 := hCh.out.grown hgr (fun i hi _ => by cases hi; exact .inr (.inr (by omega)))
      have hb6 : Box w6 A 97 (aPart a (fun k => left (.string k))) := hBox.out.chg ((Chg.refl (fun i => i = R) wr).grown hgr (fun i hi _ => by cases hi; rfl)) hRA
      have hle := HRG.out.left_eq
      have HLE := Lib.hid hle
      have H6 := Lib.hid (And.intro h6 (And.intro hC6 hb6))
      have HR6 := Lib.hid hrg1
      have hsub2 : Hid (∀ k, (left (.string k) && !(Lit.string k).sameKey (.string x.data.toList)) = true → (F k).isSome = true) := fun k hk => hsub.out k (by revert hk; cases left (.string k) <;> simp)
      clear hkey hlk hval hat hFx h6 hC6 hb6 hle hrg1 hgr hsz hsub hHD hCh hBox HRG
      simp only [Alt.all, List.mem_cons, List.not_mem_nil, or_false] at hat2
      rcases hat2 with rfl | rfl | rfl | rfl | rfl | rfl | rfl
      · simp only at hnm hvl
        have k0 : (x.toList == ([84, 89, 80, 69] : List UInt8)) = true := by rw [ba_toList, ← hnm]; rfl
        have s2 := H6.out.2.2.cell 2 rfl
        have fr2 := H6.out.2.2.frozen 2
        have HNM := Lib.hid hnm
        obtain rfl : c = S a.type := S_of hvl.symm
        clear hnm hvl
        go_wp2_with fail
        go_roundw
        case rel => exact ⟨_, cnt', HR6.out.kept (Lib.grownBy_setCell w6 A 2 _) (by simp; omega) (by simp; omega), hsub2, H6.out.1.setNew H6.out.2.2 hBA HNA.out 2 _, H6.out.2.1.setCell _ _ (fun _ => .inr (.inr hBA)), by have := H6.out.2.2.set 2 (.string (S a.type)); rw [aPart_set a _ x.data.toList 2 _ (by rw [← HNM.out]; simp)] at this; exact this⟩
        case measure => rw [(HR6.out.kept (Lib.grownBy_setCell w6 A 2 _) (by simp; omega) (by simp; omega)).left_eq, HLE.out]; exact hlt
      · simp only at hnm hvl
        have k0 : (x.toList == ([84, 89, 80, 69] : List UInt8)) = false := by rw [ba_toList, ← hnm]; rfl
        have k1 : (x.toList == ([71, 82, 79, 85, 80, 45, 73, 68] : List UInt8)) = true := by rw [ba_toList, ← hnm]; rfl
        have s0 := H6.out.2.2.cell 0 rfl
        have fr0 := H6.out.2.2.frozen 0
        have HNM := Lib.hid hnm
        obtain rfl : c = S a.group := S_of hvl.symm
        clear hnm hvl
        go_wp2_with fail
        go_roundw
        case rel => exact ⟨_, cnt', HR6.out.kept (Lib.grownBy_setCell w6 A 0 _) (by simp; omega) (by simp; omega), hsub2, H6.out.1.setNew H6.out.2.2 hBA HNA.out 0 _, H6.out.2.1.setCell _ _ (fun _ => .inr (.inr hBA)), by have := H6.out.2.2.set 0 (.string (S a.group)); rw [aPart_set a _ x.data.toList 0 _ (by rw [← HNM.out]; simp)] at this; exact this⟩
        case measure => rw [(HR6.out.kept (Lib.grownBy_setCell w6 A 0 _) (by simp; omega) (by simp; omega)).left_eq, HLE.out]; exact hlt
      · simp only at hnm hvl
        have k0 : (x.toList == ([84, 89, 80, 69] : List UInt8)) = false := by rw [ba_toList, ← hnm]; rfl
        have k1 : (x.toList == ([71, 82, 79, 85, 80, 45, 73, 68] : List UInt8)) = false := by rw [ba_toList, ← hnm]; rfl
        have k2 : (x.toList == ([76, 65, 78, 71, 85, 65, 71, 69] : List UInt8)) = false := by rw [ba_toList, ← hnm]; rfl
        have k3 : (x.toList == ([78, 65, 77, 69] : List UInt8)) = true := by rw [ba_toList, ← hnm]; rfl
        have s4 := H6.out.2.2.cell 4 rfl
        have fr4 := H6.out.2.2.frozen 4
        have HNM := Lib.hid hnm
        obtain rfl : c = S a.name := S_of hvl.symm
        clear hnm hvl
        go_wp2_with fail
        go_roundw
        case rel => exact ⟨_, cnt', HR6.out.kept (Lib.grownBy_setCell w6 A 4 _) (by simp; omega) (by simp; omega), hsub2, H6.out.1.setNew H6.out.2.2 hBA HNA.out 4 _, H6.out.2.1.setCell _ _ (fun _ => .inr (.inr hBA)), by have := H6.out.2.2.set 4 (.string (S a.name)); rw [aPart_set a _ x.data.toList 4 _ (by rw [← HNM.out]; simp)] at this; exact this⟩
        case measure => rw [(HR6.out.kept (Lib.grownBy_setCell w6 A 4 _) (by simp; omega) (by simp; omega)).left_eq, HLE.out]; exact hlt
      · simp only at hnm hvl
        have k0 : (x.toList == ([84, 89, 80, 69] : List UInt8)) = false := by rw [ba_toList, ← hnm]; rfl
        have k1 : (x.toList == ([71, 82, 79, 85, 80, 45, 73, 68] : List UInt8)) = false := by rw [ba_toList, ← hnm]; rfl
        have k2 : (x.toList == ([76, 65, 78, 71, 85, 65, 71, 69] : List UInt8)) = false := by rw [ba_toList, ← hnm]; rfl
        have k3 : (x.toList == ([78, 65, 77, 69] : List UInt8)) = false := by rw [ba_toList, ← hnm]; rfl
        have k4 : (x.toList == ([68, 69, 70, 65, 85, 76, 84] : List UInt8)) = true := by rw [ba_toList, ← hnm]; rfl
        have s5 := H6.out.2.2.cell 5 rfl
        have fr5 := H6.out.2.2.frozen 5
        have HNM := Lib.hid hnm
        cases hdf : a.dflt
        · rw [hdf] at hvl
          obtain rfl : c = ⟨#[78, 79]⟩ := S_of hvl.symm
          have HDF := Lib.hid hdf
          clear hnm hvl hdf
          go_wp2_with (go_at_call 50; refine (upper_no _).mono ?_; rintro e w' ⟨rfl, rfl⟩)
          go_roundw
          case rel => exact ⟨_, cnt', HR6.out.kept (Lib.grownBy_setCell w6 A 5 _) (by simp; omega) (by simp; omega), hsub2, H6.out.1.setNew H6.out.2.2 hBA HNA.out 5 _, H6.out.2.1.setCell _ _ (fun _ => .inr (.inr hBA)), by have := H6.out.2.2.set 5 (.bool false); rw [aPart_set a _ x.data.toList 5 _ (by rw [← HNM.out]; simp [HDF.out])] at this; exact this⟩
          case measure => rw [(HR6.out.kept (Lib.grownBy_setCell w6 A 5 _) (by simp; omega) (by simp; omega)).left_eq, HLE.out]; exact hlt
        · rw [hdf] at hvl
          obtain rfl : c = ⟨#[89, 69, 83]⟩ := S_of hvl.symm
          have HDF := Lib.hid hdf
          clear hnm hvl hdf
          go_wp2_with (go_at_call 50; refine (upper_yes _).mono ?_; rintro e w' ⟨rfl, rfl⟩)
          go_roundw
          case rel => exact ⟨_, cnt', HR6.out.kept (Lib.grownBy_setCell w6 A 5 _) (by simp; omega) (by simp; omega), hsub2, H6.out.1.setNew H6.out.2.2 hBA HNA.out 5 _, H6.out.2.1.setCell _ _ (fun _ => .inr (.inr hBA)), by have := H6.out.2.2.set 5 (.bool true); rw [aPart_set a _ x.data.toList 5 _ (by rw [← HNM.out]; simp [HDF.out])] at this; exact this⟩
          case measure => rw [(HR6.out.kept (Lib.grownBy_setCell w6 A 5 _) (by simp; omega) (by simp; omega)).left_eq, HLE.out]; exact hlt
      · simp only at hnm hvl
        have k0 : (x.toList == ([84, 89, 80, 69] : List UInt8)) = false := by rw [ba_toList, ← hnm]; rfl
        have k1 : (x.toList == ([71, 82, 79, 85, 80, 45, 73, 68] : List UInt8)) = false := by rw [ba_toList, ← hnm]; rfl
        have k2 : (x.toList == ([76, 65, 78, 71, 85, 65, 71, 69] : List UInt8)) = false := by rw [ba_toList, ← hnm]; rfl
        have k3 : (x.toList == ([78, 65, 77, 69] : List UInt8)) = false := by rw [ba_toList, ← hnm]; rfl
        have k4 : (x.toList == ([68, 69, 70, 65, 85, 76, 84] : List UInt8)) = false := by rw [ba_toList, ← hnm]; rfl
        have k5 : (x.toList == ([65, 85, 84, 79, 83, 69, 76, 69, 67, 84] : List UInt8)) = true := by rw [ba_toList, ← hnm]; rfl
        have s6 := H6.out.2.2.cell 6 rfl
        have fr6 := H6.out.2.2.frozen 6
        have HNM := Lib.hid hnm
        obtain rfl : c = S a.auto := S_of hvl.symm
        clear hnm hvl
        go_wp2_with fail
        go_roundw
        case rel => exact ⟨_, cnt', HR6.out.kept (Lib.grownBy_setCell w6 A 6 _) (by simp; omega) (by simp; omega), hsub2, H6.out.1.setNew H6.out.2.2 hBA HNA.out 6 _, H6.out.2.1.setCell _ _ (fun _ => .inr (.inr hBA)), by have := H6.out.2.2.set 6 (.string (S a.auto)); rw [aPart_set a _ x.data.toList 6 _ (by rw [← HNM.out]; simp)] at this; exact this⟩
        case measure => rw [(HR6.out.kept (Lib.grownBy_setCell w6 A 6 _) (by simp; omega) (by simp; omega)).left_eq, HLE.out]; exact hlt
      · simp only at hnm hvl
        have k0 : (x.toList == ([84, 89, 80, 69] : List UInt8)) = false := by rw [ba_toList, ← hnm]; rfl
        have k1 : (x.toList == ([71, 82, 79, 85, 80, 45, 73, 68] : List UInt8)) = false := by rw [ba_toList, ← hnm]; rfl
        have k2 : (x.toList == ([76, 65, 78, 71, 85, 65, 71, 69] : List UInt8)) = true := by rw [ba_toList, ← hnm]; rfl
        have s3 := H6.out.2.2.cell 3 rfl
        have fr3 := H6.out.2.2.frozen 3
        have HNM := Lib.hid hnm
        obtain rfl : c = S a.lang := S_of hvl.symm
        clear hnm hvl
        go_wp2_with fail
        go_roundw
        case rel => exact ⟨_, cnt', HR6.out.kept (Lib.grownBy_setCell w6 A 3 _) (by simp; omega) (by simp; omega), hsub2, H6.out.1.setNew H6.out.2.2 hBA HNA.out 3 _, H6.out.2.1.setCell _ _ (fun _ => .inr (.inr hBA)), by have := H6.out.2.2.set 3 (.string (S a.lang)); rw [aPart_set a _ x.data.toList 3 _ (by rw [← HNM.out]; simp)] at this; exact this⟩
        case measure => rw [(HR6.out.kept (Lib.grownBy_setCell w6 A 3 _) (by simp; omega) (by simp; omega)).left_eq, HLE.out]; exact hlt
      · simp only at hnm hvl
        have k0 : (x.toList == ([84, 89, 80, 69] : List UInt8)) = false := by rw [ba_toList, ← hnm]; rfl
        have k1 : (x.toList == ([71, 82, 79, 85, 80, 45, 73, 68] : List UInt8)) = false := by rw [ba_toList, ← hnm]; rfl
        have k2 : (x.toList == ([76, 65, 78, 71, 85, 65, 71, 69] : List UInt8)) = false := by rw [ba_toList, ← hnm]; rfl
        have k3 : (x.toList == ([78, 65, 77, 69] : List UInt8)) = false := by rw [ba_toList, ← hnm]; rfl
        have k4 : (x.toList == ([68, 69, 70, 65, 85, 76, 84] : List UInt8)) = false := by rw [ba_toList, ← hnm]; rfl
        have k5 : (x.toList == ([65, 85, 84, 79, 83, 69, 76, 69, 67, 84] : List UInt8)) = false := by rw [ba_toList, ← hnm]; rfl
        have k6 : (x.toList == ([70, 79, 82, 67, 69, 68] : List UInt8)) = false := by rw [ba_toList, ← hnm]; rfl
        have k7 : (x.toList == ([67, 72, 65, 82, 65, 67, 84, 69, 82, 73, 83, 84, 73, 67, 83] : List UInt8)) = false := by rw [ba_toList, ← hnm]; rfl
        have k8 : (x.toList == ([83, 85, 66, 84, 73, 84, 76, 69, 83] : List UInt8)) = false := by rw [ba_toList, ← hnm]; rfl
        have k9 : (x.toList == ([85, 82, 73] : List UInt8)) = true := by rw [ba_toList, ← hnm]; rfl
        have s1 := H6.out.2.2.cell 1 rfl
        have fr1 := H6.out.2.2.frozen 1
        have HNM := Lib.hid hnm
        obtain rfl : c = S a.uri := S_of hvl.symm
        clear hnm hvl
        go_wp2_with fail
        go_roundw
        case rel => exact ⟨_, cnt', HR6.out.kept (Lib.grownBy_setCell w6 A 1 _) (by simp; omega) (by simp; omega), hsub2, H6.out.1.setNew H6.out.2.2 hBA HNA.out 1 _, H6.out.2.1.setCell _ _ (fun _ => .inr (.inr hBA)), by have := H6.out.2.2.set 1 (.string (S a.uri)); rw [aPart_set a _ x.data.toList 1 _ (by rw [← HNM.out]; simp)] at this; exact this⟩
        case measure => rw [(HR6.out.kept (Lib.grownBy_setCell w6 A 1 _) (by simp; omega) (by simp; omega)).left_eq, HLE.out]; exact hlt
end Go.Proofs.YtelkphcbopbhoaaGreatDoor
