/-
  Walks: a line of a master playlist, read: a variant.
-/
import Derived.Test.YtelkphcbopbhoaaGreatDoorW25
import Derived.Deep.RegionLaw
import Derived.Deep.CutRange
namespace Go.Proofs.YtelkphcbopbhoaaGreatDoor
open Go Go.RowKit
open Go.Maps (Keyed)

/-- A variant in the making: what is still to come is not there yet. -/
def vPart (v : Vrt) (p : Bs → Bool) : List Value :=
  [.string ⟨#[]⟩, .pointer none, .int .u32 (if p kPROG then 0 else v.prog : Nat), .int .u32 (if p kBAND then 0 else v.band : Nat), .int .u32 (if p kAVG then 0 else v.avg : Nat), .string (S (if p kCODECS then [] else v.codecs)), .string (S (if p kRES then [] else v.resolution)),
   .string (S (if p kAUDIO then [] else v.audio)), .string (S (if p kVIDEO then [] else v.video)), .string (S (if p kSUBS then [] else v.subs)), .string (S (if p kCC then [] else v.caps)), .string (S (if p kNAME then [] else v.name)), .bool false, .string ⟨#[]⟩, .string ⟨#[]⟩,
   .float .f64 (if p kRATE then 0 else rateW v.rate), nilS]
def vZero : List Value :=
  [.string ⟨#[]⟩, .pointer none, .int .u32 0, .int .u32 0, .int .u32 0, .string ⟨#[]⟩, .string ⟨#[]⟩, .string ⟨#[]⟩, .string ⟨#[]⟩, .string ⟨#[]⟩, .string ⟨#[]⟩, .string ⟨#[]⟩, .bool false, .string ⟨#[]⟩, .string ⟨#[]⟩, .float .f64 0, .slice none 0 0]
theorem vPart_end (v : Vrt) (p : Bs → Bool) (h : ∀ k, p k = false) : vPart v p = vCells { v with uri := [] } nilS := by
  unfold vPart vCells
  simp only [h, Bool.false_eq_true, if_false]
  rfl
theorem vPart_start (v : Vrt) {J : Bs} {F : Bs → Option Bs} (h : Attrs v.all J F) (p : Bs → Bool) (hp : ∀ k, p k = (F k).isSome) : vPart v p = vZero := by
  have e0 : p kPROG = true := by rw [hp, h.all ⟨kPROG, Lib.decDigits v.prog, false⟩ (by simp [Vrt.all])]; simp [dec_ne]
  have e1 : p kBAND = true := by rw [hp, h.all ⟨kBAND, Lib.decDigits v.band, false⟩ (by simp [Vrt.all])]; simp [dec_ne]
  have e2 : (if p kAVG = true then 0 else v.avg : Nat) = 0 := by
    rw [hp, h.all ⟨kAVG, if v.avg = 0 then [] else Lib.decDigits v.avg, false⟩ (by simp [Vrt.all])]
    by_cases h0 : v.avg = 0
    · simp [h0]
    · simp [h0, dec_ne]
  have e3 := ite_absent (h.all ⟨kCODECS, v.codecs, true⟩ (by simp [Vrt.all])) (hp _)
  have e4 := ite_absent (h.all ⟨kRES, v.resolution, false⟩ (by simp [Vrt.all])) (hp _)
  have e5 := ite_absent (h.all ⟨kAUDIO, v.audio, true⟩ (by simp [Vrt.all])) (hp _)
  have e6 := ite_absent (h.all ⟨kVIDEO, v.video, true⟩ (by simp [Vrt.all])) (hp _)
  have e7 := ite_absent (h.all ⟨kCC, v.caps, decide (v.caps ≠ vNONE)⟩ (by simp [Vrt.all])) (hp _)
  have e8 := ite_absent (h.all ⟨kSUBS, v.subs, true⟩ (by simp [Vrt.all])) (hp _)
  have e9 := ite_absent (h.all ⟨kNAME, v.name, true⟩ (by simp [Vrt.all])) (hp _)
  have e10 : (if p kRATE = true then 0 else rateW v.rate) = 0 := by
    rw [hp, h.all ⟨kRATE, if v.rate = 0 then [] else seconds v.rate, false⟩ (by simp [Vrt.all])]
    by_cases h0 : v.rate = 0
    · simp [h0, rateW_zero]
    · simp [h0, seconds_ne]
  simp only at e3 e4 e5 e6 e7 e8 e9
  unfold vPart
  rw [e0, e1, e2, e3, e4, e5, e6, e7, e8, e9, e10]
  rfl
def vKeys : List Bs := [kPROG, kBAND, kAVG, kCODECS, kRES, kAUDIO, kVIDEO, kSUBS, kCC, kNAME, kRATE]
theorem minus_key {x k : Bs} (p : Bs → Bool) (h : (k == x) = false) : minus p x k = p k := minus_other p h
theorem vPart_set (v : Vrt) (p : Bs → Bool) (x : Bs) (k : Nat) (u : Value)
    (h : (k = 2 ∧ x = kPROG ∧ u = .int .u32 v.prog) ∨ (k = 3 ∧ x = kBAND ∧ u = .int .u32 v.band) ∨ (k = 4 ∧ x = kAVG ∧ u = .int .u32 v.avg) ∨ (k = 5 ∧ x = kCODECS ∧ u = .string (S v.codecs)) ∨ (k = 6 ∧ x = kRES ∧ u = .string (S v.resolution)) ∨ (k = 7 ∧ x = kAUDIO ∧ u = .string (S v.audio)) ∨
      (k = 8 ∧ x = kVIDEO ∧ u = .string (S v.video)) ∨ (k = 9 ∧ x = kSUBS ∧ u = .string (S v.subs)) ∨ (k = 10 ∧ x = kCC ∧ u = .string (S v.caps)) ∨ (k = 11 ∧ x = kNAME ∧ u = .string (S v.name)) ∨ (k = 15 ∧ x = kRATE ∧ u = .float .f64 (rateW v.rate))) :
    (vPart v p).set k u = vPart v (minus p x) := by
  have hx : x ∈ vKeys := by
    simp only [vKeys, List.mem_cons, List.not_mem_nil, or_false]
    rcases h with ⟨_, h, _⟩ | ⟨_, h, _⟩ | ⟨_, h, _⟩ | ⟨_, h, _⟩ | ⟨_, h, _⟩ | ⟨_, h, _⟩ | ⟨_, h, _⟩ | ⟨_, h, _⟩ | ⟨_, h, _⟩ | ⟨_, h, _⟩ | ⟨_, h, _⟩ <;> simp [h]
  have hm : ∀ k ∈ vKeys, minus p x k = if k = x then false else p k := by
    intro k _
    by_cases e : k = x
    · rw [if_pos e, e, minus_self]
    · rw [if_neg e, minus_other p (by simpa using e)]
  have m0 := hm kPROG (by simp [vKeys])
  have m1 := hm kBAND (by simp [vKeys])
  have m2 := hm kAVG (by simp [vKeys])
  have m3 := hm kCODECS (by simp [vKeys])
  have m4 := hm kRES (by simp [vKeys])
  have m5 := hm kAUDIO (by simp [vKeys])
  have m6 := hm kVIDEO (by simp [vKeys])
  have m7 := hm kSUBS (by simp [vKeys])
  have m8 := hm kCC (by simp [vKeys])
  have m9 := hm kNAME (by simp [vKeys])
  have m10 := hm kRATE (by simp [vKeys])
  clear hm hx
  unfold vPart
  rw [m0, m1, m2, m3, m4, m5, m6, m7, m8, m9, m10]
  rcases h with ⟨rfl, rfl, rfl⟩ | ⟨rfl, rfl, rfl⟩ | ⟨rfl, rfl, rfl⟩ | ⟨rfl, rfl, rfl⟩ | ⟨rfl, rfl, rfl⟩ | ⟨rfl, rfl, rfl⟩ | ⟨rfl, rfl, rfl⟩ | ⟨rfl, rfl, rfl⟩ | ⟨rfl, rfl, rfl⟩ | ⟨rfl, rfl, rfl⟩ | ⟨rfl, rfl, rfl⟩
  all_goals simp (decide := true) only [if_true, if_false, List.set_cons_zero, List.set_cons_succ, Bool.false_eq_true]
/-- The variant that a variant in the making stands for. -/
def vRes (v : Vrt) (p : Bs → Bool) : Vrt :=
  ⟨[], if p kPROG then 0 else v.prog, if p kBAND then 0 else v.band, if p kAVG then 0 else v.avg, if p kCODECS then [] else v.codecs, if p kRES then 0 else v.width, v.height, if p kAUDIO then [] else v.audio, if p kVIDEO then [] else v.video, if p kSUBS then [] else v.subs, if p kCC then [] else v.caps, if p kNAME then [] else v.name, if p kRATE then 0 else v.rate⟩
theorem vRes_cells (v : Vrt) (p : Bs → Bool) : vCells (vRes v p) nilS = vPart v p := by
  unfold vCells vPart vRes
  have e1 : Vrt.resolution ⟨[], if p kPROG then 0 else v.prog, if p kBAND then 0 else v.band, if p kAVG then 0 else v.avg, if p kCODECS then [] else v.codecs, if p kRES then 0 else v.width, v.height, if p kAUDIO then [] else v.audio, if p kVIDEO then [] else v.video, if p kSUBS then [] else v.subs, if p kCC then [] else v.caps, if p kNAME then [] else v.name, if p kRATE then 0 else v.rate⟩ = if p kRES then [] else v.resolution := by
    unfold Vrt.resolution
    cases p kRES <;> rfl
  have e2 : rateW (if p kRATE then 0 else v.rate) = if p kRATE then 0 else rateW v.rate := by
    cases p kRATE
    · rfl
    · exact rateW_zero
  rw [e1]
  simp only
  rw [e2]
  rfl
theorem vRes_end (v : Vrt) (p : Bs → Bool) (h : ∀ k, p k = false) : vRes v p = { v with uri := [] } := by
  unfold vRes
  simp only [h, Bool.false_eq_true, if_false]
theorem HD.castV {w : World} {B P St : Nat} {vv va : Value} {cp cs : List Value} {pre abs : List Nat} {b : Nat} {vs : List Vrt} {x x' : Vrt} {ats : List Alt} (h : HD w B P St vv va cp cs (pre ++ [b]) (vs ++ [x]) abs ats) (hx : vCells x nilS = vCells x' nilS) :
    HD w B P St vv va cp cs (pre ++ [b]) (vs ++ [x']) abs ats := by
  obtain ⟨h1, h2, h3, h4, h5, h6, h7⟩ := h
  refine ⟨h1, h2, ⟨h3.row, by have := h3.len; simpa using this, h3.ge, ?_, h3.nodup⟩, h4, h5, h6, h7⟩
  have hlen : vs.length = pre.length := by have := h3.len; simp at this; omega
  intro i c y e1 e2
  by_cases hi : i < vs.length
  · rw [List.getElem?_append_left hi] at e2
    exact h3.box i c y e1 (by rw [List.getElem?_append_left hi]; exact e2)
  · have hi2 : i = vs.length := by
      have := (List.getElem?_eq_some_iff.1 e2).1
      simp at this
      omega
    subst hi2
    have e3 : x' = y := by simpa using e2
    subst e3
    have := h3.box vs.length c x e1 (by simp)
    show Box w c 94 (vCells x' nilS)
    rw [← hx]
    exact this
end Go.Proofs.YtelkphcbopbhoaaGreatDoor
