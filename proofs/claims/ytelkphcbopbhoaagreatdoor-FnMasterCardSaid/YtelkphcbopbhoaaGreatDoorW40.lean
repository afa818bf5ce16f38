/-
  What the row's listed variables give the walks: 'Env'.
-/
import Derived.Test.YtelkphcbopbhoaaGreatDoorRows
import Derived.Test.YtelkphcbopbhoaaGreatDoorW21
import Derived.ProofKit
import Derived.OpenShut
import Derived.LaidMore
import Derived.Lib.LaidTab
import Derived.LaidEql
import Derived.Stop.LaidErr
import Derived.Stop.Joined
import Derived.Deep.Strs
namespace Go.Proofs.YtelkphcbopbhoaaGreatDoor
open Go.RowKit Go.ChangeShapes Go.WideShapes

/-- The head of the list: the variable's cells, read. -/
theorem laid_head {P : Program} {n : String} {d : DataW Unit} {r : List (String × DataW Unit)} {W : World} {g : Nat} {t : TypeId} (h : laidMet P ((n, d) :: r) W) (hg : P.globalNamed n = some g) (ht : (P.globals[g]?).map (·.type) = some t) :
    ∃ cs fuel p, W.var? P n = some cs ∧ DataW.trod (fun _ => ()) P W 0 (fun _ => true) false fuel t cs.toList = some (d, p) := by
  obtain ⟨ps, ⟨g', t', cs, fuel, p, q, hg', ht', hvar, hd, _, _⟩, _⟩ := h
  obtain rfl := Option.some.inj (hg.symm.trans hg')
  obtain rfl := Option.some.inj (ht.symm.trans ht')
  exact ⟨cs, fuel, p, hvar, hd⟩

section
variable {H : Type} {enc : TypeId × Value → H} {P : Program} {w : World} {base : Nat} {spare : Nat → Bool} {held : Bool} {fuel : Nat} {t : TypeId} {cs : List Value}
theorem trod_float {k : FloatKind} {x : DataW H × List MemPlace} (ht : P.underlying t = some (.float k)) (h : DataW.trod enc P w base spare held fuel t cs = some x) : ∃ n, cs = [.float k n] ∧ x = (.lit (.float k n), []) := by
  cases fuel with
  | zero => simp [DataW.trod] at h
  | succ n =>
    unfold DataW.trod at h
    rw [ht] at h
    split at h <;> simp_all
theorem floats_at {e : TypeId} {zs : List Nat} {p : List MemPlace} (ht : P.underlying t = some (.slice e)) (he : P.underlying e = some (.float .f64)) (hc : P.cellsOf e = 1)
    (h : DataW.trod enc P w base spare held fuel t cs = some (.slice (zs.map fun z => .lit (.float .f64 z)) [], p)) (hz : 0 < zs.length) :
    ∃ g o c, cs = [.slice (some ⟨g, o, none⟩) zs.length c] ∧ ∀ j, j < zs.length → w.cell? ⟨g, o + j, none⟩ = some (.float .f64 (zs.getD j 0)) := by
  rcases DataW.trod_slice ht h with ⟨_, hx⟩ | ⟨a, len, cap, elems, rest, n, _, hcs, hx, _, _, _, hel, hE, _⟩
  · simp at hx
  · simp only [Prod.mk.injEq, DataW.slice.injEq] at hx
    have hl : elems.length = zs.length := by
      have := congrArg List.length hx.1.1
      simpa using this.symm
    have hcell : ∀ j, j < zs.length → w.cell? (a.add j) = some (.float .f64 (zs.getD j 0)) := by
      intro j hj
      have h1 := hE j (by omega)
      rw [hc, Nat.mul_one, List.getElem?_eq_getElem (by omega)] at h1
      obtain ⟨cs', h2, h3⟩ := Option.bind_eq_some_iff.1 h1
      obtain ⟨z, rfl, h4⟩ := trod_float he h3
      have h5 : (zs.map fun z => (DataW.lit (.float .f64 z) : DataW H))[j]? = (elems.map (·.1))[j]? := by rw [hx.1.1]
      rw [List.getElem?_map, List.getElem?_map, List.getElem?_eq_getElem hj, List.getElem?_eq_getElem (by omega : j < elems.length), h4] at h5
      simp only [Option.map_some, Option.some.injEq, DataW.lit.injEq, Lit.float.injEq, true_and] at h5
      have h6 : zs.getD j 0 = z := by rw [List.getD, List.getElem?_eq_getElem hj]; exact h5
      rw [h6]
      exact cell_of_cells?_one h2
    obtain ⟨b, off, spot⟩ := a
    have hspot : spot = none := by simpa [Addr.add] using World.cell?_spot (hcell 0 hz)
    subst hspot
    refine ⟨b, off, cap, by rw [hcs, ← hel, hl], fun j hj => ?_⟩
    rw [← Go.WideShapes.add_plain]
    exact hcell j hj
end

theorem g_eof : Tryz.prog.globalNamed "io.EOF" = some 1 := by kernel_rfl
theorem g_eofT : (Tryz.prog.globals[1]?).map (·.type) = some 51 := by kernel_rfl
theorem g_tabB : Tryz.prog.globalNamed "bytes.asciiSpace" = some 2 := by kernel_rfl
theorem g_tabBT : (Tryz.prog.globals[2]?).map (·.type) = some 118 := by kernel_rfl
theorem g_tabS : Tryz.prog.globalNamed "strings.asciiSpace" = some 5 := by kernel_rfl
theorem g_tabST : (Tryz.prog.globals[5]?).map (·.type) = some 118 := by kernel_rfl
theorem g_opt : Tryz.prog.globalNamed "internal/strconv.optimize" = some 13 := by kernel_rfl
theorem g_optT : (Tryz.prog.globals[13]?).map (·.type) = some 4 := by kernel_rfl
theorem g_info : Tryz.prog.globalNamed "internal/strconv.float64info" = some 14 := by kernel_rfl
theorem g_infoT : (Tryz.prog.globals[14]?).map (·.type) = some 216 := by kernel_rfl
theorem g_pow : Tryz.prog.globalNamed "internal/strconv.float64pow10" = some 17 := by kernel_rfl
theorem g_powT : (Tryz.prog.globals[17]?).map (·.type) = some 254 := by kernel_rfl
theorem c_5 : Tryz.prog.cellsOf 5 = 1 := by kernel_rfl
theorem c_9 : Tryz.prog.cellsOf 9 = 1 := by kernel_rfl
theorem c_60 : Tryz.prog.cellsOf 60 = 1 := by kernel_rfl
theorem c_118 : Tryz.prog.cellsOf 118 = 256 := by kernel_rfl
theorem c_136 : Tryz.prog.cellsOf 136 = 1 := by kernel_rfl
theorem c_37 : Tryz.prog.cellsOf 37 = 1 := by kernel_rfl
theorem row134 (u : TypeId) (h : Tryz.prog.typeName? 3 u = some "*errors.errorString") : u = 134 :=
  typeName_ptr_named (nm := "errors.errorString") (by kernel_rfl) (by kernel_rfl) (by decide) u h
theorem comp134 : (Tryz.prog.info? 134).map (·.comparable) = some true := by kernel_rfl
theorem size136 : (Tryz.prog.info? 136).map (·.size) = some 1 := by kernel_rfl
theorem is_tabB : (Rows.laid_bytes_asciiSpace : DataW Unit) = Lib.tabData .u8 Lib.asciiSpaceTab := by kernel_rfl
theorem is_tabS : (Rows.laid_strings_asciiSpace : DataW Unit) = Lib.tabData .u8 Lib.asciiSpaceTab := by kernel_rfl

set_option maxRecDepth 100000 in
theorem env_of_laid {W : World} (h : laidMetH Tryz.prog Rows.fnMasterRow.laid W) : Env W ∧ 1 < W.heap.size := by
  rw [MakeChecks.laidMetH_plain _ _ _ (by kernel_rfl)] at h
  have h3 := h.tail.tail
  have h4 := h3.tail
  have h5 := h4.tail
  have h6 := h5.tail
  have h7 := h6.tail
  have h8 := h7.tail
  have hopt : W.cell? ⟨13, 0, none⟩ = some (.bool true) := by
    obtain ⟨cs, fuel, p, hv, hd⟩ := laid_head h4 g_opt g_optT
    obtain ⟨b, e1, e2⟩ := DataW.trod_bool Tryz.underlying4 hd
    have := World.var?_cell g_opt hv 0
    rw [Array.eq_one_of_toList e1] at this
    simp only [Rows.laid_internal_strconv_optimize, Prod.mk.injEq, DataW.lit.injEq, Lit.bool.injEq] at e2
    rw [this, ← e2.1]; rfl
  have hinfo : W.cell? ⟨14, 0, none⟩ = some (.int .u64 52) := by
    obtain ⟨cs, fuel, p, hv, hd⟩ := laid_head h3 g_info g_infoT
    obtain ⟨xs, n, _, hx, hl, hlen, hf⟩ := DataW.trod_struct Tryz.underlying216 hd
    have h0 : DataW.trod (fun _ => ()) Tryz.prog W 0 (fun _ => true) false n 37 ((cs.toList.drop 0).take (Tryz.prog.cellsOf 37)) = xs[0]? := hf 0 _ rfl
    rw [c_37, List.drop_zero] at h0
    have hx0 : (xs.map (·.1))[0]? = some (.lit (.int .u64 52)) := by
      simp only [Rows.laid_internal_strconv_float64info, Prod.mk.injEq, DataW.agg.injEq] at hx
      rw [← hx.1]; rfl
    rw [List.getElem?_map] at hx0
    obtain ⟨y, hy, hy1⟩ := Option.map_eq_some_iff.1 hx0
    rw [hy] at h0
    obtain ⟨z, e1, e2, _⟩ := DataW.trod_int Tryz.underlying37 h0
    rw [e2] at hy1
    simp only [DataW.lit.injEq, Lit.int.injEq, true_and] at hy1
    have := World.var?_cell g_info hv 0
    rw [this]
    have h9 : cs.toList[0]? = some (.int .u64 z) := by
      have := congrArg (·[0]?) e1
      simpa [List.getElem?_take] using this
    rw [hy1] at h9
    simpa using h9
  have hpow : ∃ g o c, W.cell? ⟨17, 0, none⟩ = some (.slice (some ⟨g, o, none⟩) 23 c) ∧ W.cell? ⟨g, o + 3, none⟩ = some (.float .f64 4652007308841189376) := by
    obtain ⟨cs, fuel, p, hv, hd⟩ := laid_head h5 g_pow g_powT
    obtain ⟨g, o, c, e1, e2⟩ := floats_at (zs := [4607182418800017408, 4621819117588971520, 4636737291354636288, 4652007308841189376, 4666723172467343360, 4681608360884174848, 4696837146684686336, 4711630319722168320, 4726483295884279808, 4741671816366391296, 4756540486875873280, 4771362005757984768, 4786511204640096256, 4801453603149578240, 4816244402031689728, 4831355200913801216, 4846369599423283200, 4861130398305394688, 4876203697187506176, 4891288408196988160, 4906019910204099648, 4921056587992461136, 4936209963552724370]) Tryz.underlying254 Tryz.underlying60 c_60 hd (by decide)
    have := World.var?_cell g_pow hv 0
    rw [Array.eq_one_of_toList e1] at this
    exact ⟨g, o, c, by rw [this]; rfl, e2 3 (by decide)⟩
  obtain ⟨a0, s0, hv0, _, _, _⟩ := laid_sentinel h6 g_eof g_eofT Tryz.underlying51 row134 Tryz.underlying134 Tryz.underlying136 rfl rfl Tryz.underlying9 c_136 c_9
  have heof : W.cell? ⟨1, 0, none⟩ = some (.iface 134 (.pointer (some a0))) := by simpa using World.var?_cell g_eof hv0 0
  obtain ⟨i, hi, hcmp⟩ := Option.map_eq_some_iff.1 comp134
  obtain ⟨j, hj, _⟩ := Option.map_eq_some_iff.1 size136
  refine ⟨⟨?_, ?_, ⟨hopt, hinfo, hpow⟩, 134, .pointer (some a0), heof, fun w => run_eql_iface_ptr_same w a0 Tryz.underlying51 Tryz.underlying134 hi hcmp hj⟩, World.block_lt_of_cell? _ _ heof⟩
  · rw [is_tabB] at h7
    exact Lib.tabIs_of_head g_tabB g_tabBT Tryz.underlying118 Tryz.underlying5 c_5 c_118 h7
  · rw [is_tabS] at h8
    exact Lib.tabIs_of_head g_tabS g_tabST Tryz.underlying118 Tryz.underlying5 c_5 c_118 h8
end Go.Proofs.YtelkphcbopbhoaaGreatDoor
