/-
  The reader's state in memory, and what the reader asks of the world.
-/
import Derived.Test.YtelkphcbopbhoaaGreatDoorW20
import Derived.Test.YtelkphcbopbhoaaGreatDoorW16
namespace Go.Proofs.YtelkphcbopbhoaaGreatDoor
open Go Go.RowKit

/-- What the listed package variables hold. -/
structure Env (w : World) : Prop where
  tabB : Lib.TabIs Tryz.prog w "bytes.asciiSpace" .u8 Lib.asciiSpaceTab
  tabS : Lib.TabIs Tryz.prog w "strings.asciiSpace" .u8 Lib.asciiSpaceTab
  num : FEnv w
  eof : ∃ t v, w.cell? ⟨1, 0, none⟩ = some (.iface t v) ∧ ∀ w, (binOp .eql 51 (.iface t v) (.iface t v)).run Tryz.prog w = .ok (.bool true) w
theorem cell_below {B : Nat} {w w' : World} {a : Addr} {v : Value} (h : w.cell? a = some v) (k : Below B w w') (hB : w.heap.size ≤ B) : w'.cell? a = some v :=
  (k.cell (Nat.lt_of_lt_of_le (World.block_lt_of_cell? w a h) hB)).trans h
theorem Env.below {w w' : World} (h : Env w) (k : Below w.heap.size w w') : Env w' := by
  obtain ⟨h1, h2, ⟨h3, h4, g, o, c, h5, h6⟩, t, v, h7, h8⟩ := h
  exact ⟨tab_below h1 k, tab_below h2 k, ⟨cell_below h3 k (Nat.le_refl _), cell_below h4 k (Nat.le_refl _), g, o, c, cell_below h5 k (Nat.le_refl _), cell_below h6 k (Nat.le_refl _)⟩, t, v, cell_below h7 k (Nat.le_refl _), h8⟩
/-- The same, where the world has grown from B on. -/
def EnvAt (B : Nat) (w : World) : Prop := ∃ w0, w0.heap.size = B ∧ Env w0 ∧ Below B w0 w
theorem EnvAt.env {B : Nat} {w : World} (h : EnvAt B w) : Env w := by
  obtain ⟨w0, rfl, h1, h2⟩ := h
  exact h1.below h2
theorem EnvAt.le {B : Nat} {w : World} (h : EnvAt B w) : B ≤ w.heap.size := by
  obtain ⟨w0, rfl, h1, h2⟩ := h
  exact h2.size
theorem EnvAt.start {w : World} (h : Env w) : EnvAt w.heap.size w := ⟨w, rfl, h, Below.refl _ _⟩
theorem EnvAt.step {B : Nat} {w w' : World} (h : EnvAt B w) (k : Below B w w') : EnvAt B w' := by
  obtain ⟨w0, h0, h1, h2⟩ := h
  exact ⟨w0, h0, h1, h2.trans k⟩
theorem EnvAt.chg {B : Nat} {S : Nat → Prop} {w w' : World} (h : EnvAt B w) (k : Chg S w w') (hS : ∀ i, S i → B ≤ i) : EnvAt B w' := h.step (k.toBelow h.le hS)
theorem EnvAt.new {B : Nat} {w w' : World} (h : EnvAt B w) (k : Below w.heap.size w w') : EnvAt B w' := h.step (k.mono h.le)

def ptr (b : Nat) : Value := .pointer (some ⟨b, 0, none⟩)
def nilS : Value := .slice none 0 0
def stCells (lt : Int) (m3u inf : Bool) (v al : Value) : List Value :=
  [.int .u64 lt, .bool m3u, .bool inf, .bool false, .bool false, .bool false, .bool false, .bool false, .bool false, .bool false, .string ⟨#[]⟩, .int .i64 0, .int .i64 0, .float .f64 0, .string ⟨#[]⟩, v, al, .pointer none, .pointer none, .pointer none]
def vCells (v : Vrt) (al : Value) : List Value :=
  [.string (S v.uri), .pointer none, .int .u32 v.prog, .int .u32 v.band, .int .u32 v.avg, .string (S v.codecs), .string (S v.resolution), .string (S v.audio), .string (S v.video), .string (S v.subs), .string (S v.caps), .string (S v.name), .bool false, .string ⟨#[]⟩, .string ⟨#[]⟩, .float .f64 (rateW v.rate), al]
def aCells (a : Alt) : List Value :=
  [.string (S a.group), .string (S a.uri), .string (S a.type), .string (S a.lang), .string (S a.name), .bool a.dflt, .string (S a.auto), .string ⟨#[]⟩, .string ⟨#[]⟩, .string ⟨#[]⟩]

/-- A slice of pointers to structs. -/
structure PRow {α : Type} (w : World) (B pt st : Nat) (cells : α → List Value) (v : Value) (bs : List Nat) (xs : List α) : Prop where
  row : w.ownsRow B pt 1 v bs.length (bs.map ptr)
  len : xs.length = bs.length
  ge : ∀ b ∈ bs, B ≤ b
  box : ∀ (i : Nat) (b : Nat) (x : α), bs[i]? = some b → xs[i]? = some x → Box w b st (cells x)
  nodup : bs.Nodup

/-- What a line may change. -/
def Sx (B P St : Nat) : Nat → Prop := fun k => k = P ∨ k = St ∨ B ≤ k
theorem PRow.chg {α : Type} {S : Nat → Prop} {w w' : World} {B pt st : Nat} {cells : α → List Value} {v : Value} {bs : List Nat} {xs : List α} (h : PRow w B pt st cells v bs xs) (k : Chg S w w') (hr : ∀ i, v.ownBlock = some i → ¬ S i) (hb : ∀ b ∈ bs, ¬ S b) : PRow w' B pt st cells v bs xs :=
  ⟨own_chg h.row k hr, h.len, h.ge, fun i b x h1 h2 => (h.box i b x h1 h2).chg k (hb b (List.mem_of_getElem? h1)), h.nodup⟩
theorem PRow.low {α : Type} {S : Nat → Prop} {w w' : World} {B pt st : Nat} {cells : α → List Value} {v : Value} {bs : List Nat} {xs : List α} (h : PRow w B pt st cells v bs xs) (k : Chg S w w') (hS : ∀ i, S i → i < B) : PRow w' B pt st cells v bs xs :=
  h.chg k (fun i hi hs => by have := (World.ownsRow.lt h.row i hi).1; have := hS i hs; omega) (fun b hb hs => by have := h.ge b hb; have := hS b hs; omega)

/-- The reader's state, its two structs as cells. -/
structure HD (w : World) (B P St : Nat) (vv va : Value) (cp cs : List Value) (vbs : List Nat) (vs : List Vrt) (abs : List Nat) (ats : List Alt) : Prop where
  p : Box w P 77 cp
  s : Box w St 110 cs
  v : PRow w B 88 94 (fun x => vCells x nilS) vv vbs vs
  a : PRow w B 95 97 aCells va abs ats
  ne : P ≠ St
  ltP : P < B
  ltS : St < B
/-- The reader's state. -/
def HS (w : World) (B P St : Nat) (ver : Nat) (ind m3u inf : Bool) (vbs : List Nat) (vs : List Vrt) (abs : List Nat) (ats : List Alt) : Prop :=
  ∃ vv lt lv va, HD w B P St vv va (mplCells vv ver ind) (stCells lt m3u inf lv va) vbs vs abs ats ∧ (inf = true → ∃ pre b, vbs = pre ++ [b] ∧ lv = ptr b)

theorem HD.keep {w w1 : World} {B P St : Nat} {vv va : Value} {cp cs : List Value} {vbs abs : List Nat} {vs : List Vrt} {ats : List Alt} (h : HD w B P St vv va cp cs vbs vs abs ats) (k : Below w.heap.size w w1) : HD w1 B P St vv va cp cs vbs vs abs ats := by
  obtain ⟨h1, h2, h3, h4, h5, h6, h7⟩ := h
  have hc : Chg (fun _ => False) w w1 := (Chg.refl _ w).below k
  exact ⟨h1.chg hc (fun h => h), h2.chg hc (fun h => h), h3.chg hc (fun _ _ h => h) (fun _ _ h => h), h4.chg hc (fun _ _ h => h) (fun _ _ h => h), h5, h6, h7⟩
theorem HD.setP {w : World} {B P St : Nat} {vv va : Value} {cp cs : List Value} {vbs abs : List Nat} {vs : List Vrt} {ats : List Alt} (h : HD w B P St vv va cp cs vbs vs abs ats) (k : Nat) (x : Value) : HD (w.setCell ⟨P, k, none⟩ x) B P St vv va (cp.set k x) cs vbs vs abs ats := by
  obtain ⟨h1, h2, h3, h4, h5, h6, h7⟩ := h
  have hc : Chg (fun i => i = P) w (w.setCell ⟨P, k, none⟩ x) := (Chg.refl _ w).setCell _ _ (fun _ => rfl)
  exact ⟨h1.set k x, h2.chg hc (fun e => h5 e.symm), h3.low hc (fun i e => by omega), h4.low hc (fun i e => by omega), h5, h6, h7⟩
theorem HD.setS {w : World} {B P St : Nat} {vv va : Value} {cp cs : List Value} {vbs abs : List Nat} {vs : List Vrt} {ats : List Alt} (h : HD w B P St vv va cp cs vbs vs abs ats) (k : Nat) (x : Value) : HD (w.setCell ⟨St, k, none⟩ x) B P St vv va cp (cs.set k x) vbs vs abs ats := by
  obtain ⟨h1, h2, h3, h4, h5, h6, h7⟩ := h
  have hc : Chg (fun i => i = St) w (w.setCell ⟨St, k, none⟩ x) := (Chg.refl _ w).setCell _ _ (fun _ => rfl)
  exact ⟨h1.chg hc h5, h2.set k x, h3.low hc (fun i e => by omega), h4.low hc (fun i e => by omega), h5, h6, h7⟩
theorem Chg.setP {w w1 : World} {B P St : Nat} (h : Chg (Sx B P St) w w1) (k : Nat) (x : Value) : Chg (Sx B P St) w (w1.setCell ⟨P, k, none⟩ x) := h.setCell _ _ (fun _ => .inl rfl)
theorem Chg.setS {w w1 : World} {B P St : Nat} (h : Chg (Sx B P St) w w1) (k : Nat) (x : Value) : Chg (Sx B P St) w (w1.setCell ⟨St, k, none⟩ x) := h.setCell _ _ (fun _ => .inr (.inl rfl))

theorem hasPrefix_all (x : Bs) (p : ByteArray) (w : World) : Calls Tryz.prog 46 #[.string (S x), .string p] w fun e w' => e = .returned (.bool (hasPB p x)) ∧ w = w' := by
  refine (Tryz.strings_HasPrefix (S x) p w).mono ?_
  rintro e w' ⟨rfl, rfl⟩
  exact ⟨rfl, rfl⟩
theorem trim_line (r l : Bs) (w : World) (hr : Lib.trimSpace r = l) (hlen : r.length ≤ 100000) (ha : ∀ c ∈ r, c.toNat < 128) (hE : Env w) :
    Calls Tryz.prog 45 #[.string (S r)] w fun e w' => e = .returned (.string (S l)) ∧ Below w.heap.size w w' := by
  refine (Tryz.strings_TrimSpace (S r) w (by show r.length ≤ _; omega) (fun j b hb => ha b (List.mem_of_getElem? hb)) hE.tabS).mono ?_
  rintro e w' ⟨rfl, rfl⟩
  exact ⟨by rw [S_list, hr]; rfl, below_bytes _ _ _⟩
end Go.Proofs.YtelkphcbopbhoaaGreatDoor
