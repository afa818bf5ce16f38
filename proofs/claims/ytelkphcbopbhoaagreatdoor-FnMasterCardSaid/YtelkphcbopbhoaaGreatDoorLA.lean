/-
  Plain Lean, no program in sight: lists of attributes as m3u8 writes and reads them ('NAME=value,NAME="value"').
  Plain Lean: decimal numbers, read again.
  Plain Lean: a master playlist, its attributes and its lines.
  Plain Lean: a master playlist's lines.
  Plain Lean: a text's pieces between newlines.
  Plain Lean: the lines that are written hold printed signs alone, and bear no blank at their ends.
-/
import Derived.Lib.Space
import Derived.Lib.AtoiAll
import Derived.Lib.ItoaNum
import Derived.Lib.ParseIntB
namespace Go.Proofs.YtelkphcbopbhoaaGreatDoor
open Go Go.Lib

abbrev Bs := List UInt8

/-- A byte of a name. -/
def nmB (c : UInt8) : Bool := (97 ≤ c && c ≤ 122) || (65 ≤ c && c ≤ 90) || (48 ≤ c && c ≤ 57) || c == 95 || c == 45

/-- The length of the value ahead of a text; 0 of none. -/
def valLen : Bs → Nat
  | [] => 0
  | c :: r =>
    if c = 34 then (if (r.takeWhile (fun x => x != 34)).length < r.length ∧ 0 < (r.takeWhile (fun x => x != 34)).length then (r.takeWhile (fun x => x != 34)).length + 2 else 0)
    else ((c :: r).takeWhile (fun x => x != 34 && x != 44)).length

theorem length_takeWhile_le (p : UInt8 → Bool) (l : Bs) : (l.takeWhile p).length ≤ l.length := by
  induction l with
  | nil => simp
  | cons a r ih =>
    simp only [List.takeWhile_cons]
    split
    · simp; exact ih
    · simp

/-- The pairs that the reader finds in a text, one after the other. -/
def kv (l : Bs) : List (Bs × Bs) :=
  if h : l = [] then []
  else if (l.takeWhile nmB).length = 0 ∨ l[(l.takeWhile nmB).length]? ≠ some 61 then kv (l.drop (max (l.takeWhile nmB).length 1))
  else if valLen (l.drop ((l.takeWhile nmB).length + 1)) = 0 then kv (l.drop ((l.takeWhile nmB).length + 1))
  else (l.take (l.takeWhile nmB).length, (l.drop ((l.takeWhile nmB).length + 1)).take (valLen (l.drop ((l.takeWhile nmB).length + 1)))) ::
    kv (l.drop ((l.takeWhile nmB).length + 1 + valLen (l.drop ((l.takeWhile nmB).length + 1))))
termination_by l.length
decreasing_by
  all_goals
    have hl : 0 < l.length := List.length_pos_iff.2 h
    simp only [List.length_drop]
    omega

theorem kv_nil : kv [] = [] := by rw [kv]; simp
theorem kv_skip {l : Bs} (h : l ≠ []) (h1 : (l.takeWhile nmB).length = 0 ∨ l[(l.takeWhile nmB).length]? ≠ some 61) : kv l = kv (l.drop (max (l.takeWhile nmB).length 1)) := by
  rw [kv]; rw [dif_neg h, if_pos h1]
theorem kv_none {l : Bs} (h : l ≠ []) (h1 : ¬ ((l.takeWhile nmB).length = 0 ∨ l[(l.takeWhile nmB).length]? ≠ some 61)) (h2 : valLen (l.drop ((l.takeWhile nmB).length + 1)) = 0) :
    kv l = kv (l.drop ((l.takeWhile nmB).length + 1)) := by
  rw [kv]; rw [dif_neg h, if_neg h1, if_pos h2]
theorem kv_some {l : Bs} (h : l ≠ []) (h1 : ¬ ((l.takeWhile nmB).length = 0 ∨ l[(l.takeWhile nmB).length]? ≠ some 61)) (h2 : ¬ valLen (l.drop ((l.takeWhile nmB).length + 1)) = 0) :
    kv l = (l.take (l.takeWhile nmB).length, (l.drop ((l.takeWhile nmB).length + 1)).take (valLen (l.drop ((l.takeWhile nmB).length + 1)))) ::
    kv (l.drop ((l.takeWhile nmB).length + 1 + valLen (l.drop ((l.takeWhile nmB).length + 1)))) := by
  rw [kv]; rw [dif_neg h, if_neg h1, if_neg h2]

/-- An attribute: its name, its value, and whether it stands between quotes. -/
structure Attr where
  name : Bs
  val : Bs
  q : Bool
  deriving DecidableEq

def Attr.raw (a : Attr) : Bs := if a.q then 34 :: a.val ++ [34] else a.val
def Attr.line (a : Attr) : Bs := a.name ++ 61 :: a.raw

def blankB (c : UInt8) : Bool := c == 32 || c == 34
/-- A text without blanks and quotes ahead and behind. -/
def trimQ (l : Bs) : Bs := ((l.dropWhile blankB).reverse.dropWhile blankB).reverse

structure Attr.Good (a : Attr) : Prop where
  n0 : a.name ≠ []
  nm : ∀ c ∈ a.name, nmB c = true
  v0 : a.val ≠ []
  vq : ∀ c ∈ a.val, c ≠ 34
  vc : a.q = false → ∀ c ∈ a.val, c ≠ 44
  hd : ∀ c, a.val.head? = some c → c ≠ 32
  lt : ∀ c, a.val.getLast? = some c → c ≠ 32

theorem takeWhile_stop (p : UInt8 → Bool) (l r : Bs) (c : UInt8) (h : ∀ x ∈ l, p x = true) (hc : p c = false) : (l ++ c :: r).takeWhile p = l := by
  induction l with
  | nil => simp [hc]
  | cons a t ih =>
    have ha : p a = true := h a (by simp)
    simp only [List.cons_append, List.takeWhile_cons, ha, if_true]
    rw [ih (fun x hx => h x (by simp [hx]))]
theorem takeWhile_whole (p : UInt8 → Bool) (l : Bs) (h : ∀ x ∈ l, p x = true) : l.takeWhile p = l := by
  induction l with
  | nil => rfl
  | cons a t ih => simp only [List.takeWhile_cons, h a (by simp), if_true]; rw [ih (fun x hx => h x (by simp [hx]))]

theorem raw_pos (a : Attr) (h : a.Good) : 0 < a.raw.length := by
  have := List.length_pos_iff.2 h.v0
  unfold Attr.raw
  split <;> simp <;> omega

theorem valLen_raw (a : Attr) (h : a.Good) (rest : Bs) (hr : rest = [] ∨ ∃ t, rest = 44 :: t) : valLen (a.raw ++ rest) = a.raw.length := by
  have hv := List.length_pos_iff.2 h.v0
  unfold Attr.raw
  cases hq : a.q with
  | true =>
    simp only [if_true, List.cons_append, List.append_assoc]
    have ht : (a.val ++ (34 :: ([] ++ rest))).takeWhile (fun x => x != 34) = a.val := takeWhile_stop _ _ _ _ (fun x hx => by have := h.vq x hx; simp [this]) (by simp)
    simp only [List.nil_append] at ht
    simp only [List.nil_append, valLen, if_true, ht]
    rw [if_pos ⟨by rw [List.length_append, List.length_cons]; omega, hv⟩]
    simp
  | false =>
    simp only [Bool.false_eq_true, if_false]
    have hgood : ∀ x ∈ a.val, (x != 34 && x != 44) = true := fun x hx => by simp [h.vq x hx, h.vc hq x hx]
    obtain ⟨c, t, hct⟩ := List.exists_cons_of_ne_nil h.v0
    have hc34 : c ≠ 34 := h.vq c (by rw [hct]; simp)
    have key : (a.val ++ rest).takeWhile (fun x => x != 34 && x != 44) = a.val := by
      rcases hr with rfl | ⟨t, rfl⟩
      · rw [List.append_nil]; exact takeWhile_whole _ _ hgood
      · exact takeWhile_stop _ _ _ _ hgood (by simp)
    rw [hct] at key ⊢
    simp only [List.cons_append] at key ⊢
    simp only [valLen]
    rw [if_neg hc34, key]

theorem kv_line (a : Attr) (h : a.Good) (rest : Bs) (hr : rest = [] ∨ ∃ t, rest = 44 :: t) : kv (a.line ++ rest) = (a.name, a.raw) :: kv rest := by
  have hn := List.length_pos_iff.2 h.n0
  have hp := raw_pos a h
  have e0 : a.line ++ rest = a.name ++ 61 :: (a.raw ++ rest) := by simp [Attr.line]
  have ht : (a.line ++ rest).takeWhile nmB = a.name := by rw [e0]; exact takeWhile_stop _ _ _ _ h.nm (by decide)
  have hne : a.line ++ rest ≠ [] := by rw [e0]; simp
  have hg : (a.line ++ rest)[a.name.length]? = some 61 := by rw [e0]; simp
  have hd : (a.line ++ rest).drop (a.name.length + 1) = a.raw ++ rest := by
    rw [e0, ← List.drop_drop, List.drop_left]; rfl
  have hv : valLen ((a.line ++ rest).drop (a.name.length + 1)) = a.raw.length := by rw [hd]; exact valLen_raw a h rest hr
  rw [kv_some hne (by rw [ht, hg]; simp; exact h.n0) (by rw [ht, hv]; omega), ht, hv, hd]
  congr 1
  · congr 1
    · rw [e0]; simp
    · simp
  · rw [← List.drop_drop, hd]; simp

theorem kv_comma (t : Bs) : kv (44 :: t) = kv t := by
  have : (44 :: t : Bs).takeWhile nmB = [] := by simp [show nmB 44 = false by decide]
  rw [kv_skip (by simp) (by rw [this]; simp), this]
  simp

/-- Texts with commas between. -/
def joined : List Bs → Bs
  | [] => []
  | [x] => x
  | x :: y :: r => x ++ 44 :: joined (y :: r)

theorem kv_joined : ∀ (l : List Attr), (∀ a ∈ l, a.Good) → kv (joined (l.map Attr.line)) = l.map (fun a => (a.name, a.raw))
  | [], _ => by simp [joined, kv_nil]
  | [a], h => by
    simp only [List.map_cons, List.map_nil, joined]
    have := kv_line a (h a (by simp)) [] (.inl rfl)
    rw [List.append_nil] at this
    rw [this, kv_nil]
  | a :: b :: r, h => by
    have ih := kv_joined (b :: r) (fun x hx => h x (by simp at hx ⊢; exact .inr hx))
    simp only [List.map_cons, joined] at ih ⊢
    rw [kv_line a (h a (by simp)) _ (.inr ⟨_, rfl⟩), kv_comma, ih]

theorem dropWhile_none (p : UInt8 → Bool) (l : Bs) (h : ∀ c, l.head? = some c → p c = false) : l.dropWhile p = l := by
  cases l with
  | nil => rfl
  | cons a t => simp [h a rfl]

theorem trimQ_raw (a : Attr) (h : a.Good) : trimQ a.raw = a.val := by
  obtain ⟨c, t, hct⟩ := List.exists_cons_of_ne_nil h.v0
  have h1 : ∀ c, a.val.head? = some c → blankB c = false := fun c hc => by
    have q1 := h.hd c hc
    have q2 := h.vq c (List.mem_of_head? hc)
    simp [blankB, q1, q2]
  have h2 : ∀ c, a.val.reverse.head? = some c → blankB c = false := fun c hc => by
    rw [List.head?_reverse] at hc
    have q1 := h.lt c hc
    have q2 := h.vq c (List.mem_of_getLast? hc)
    simp [blankB, q1, q2]
  have hb : blankB 34 = true := by decide
  unfold trimQ Attr.raw
  cases a.q with
  | true =>
    simp only [if_true]
    have e1 : (34 :: a.val ++ [34] : Bs).dropWhile blankB = a.val ++ [34] := by
      rw [List.cons_append, List.dropWhile_cons, if_pos hb]
      exact dropWhile_none _ _ (fun c hc => h1 c (by rw [hct] at hc ⊢; simpa using hc))
    rw [e1, List.reverse_append]
    simp only [List.reverse_cons, List.reverse_nil, List.nil_append, List.singleton_append, List.dropWhile_cons, hb, if_true]
    rw [dropWhile_none _ _ h2, List.reverse_reverse]
  | false =>
    simp only [Bool.false_eq_true, if_false]
    rw [dropWhile_none _ _ h1, dropWhile_none _ _ h2, List.reverse_reverse]

/-- What stands at a key: the last that was laid. -/
def look : List (Bs × Bs) → Bs → Option Bs
  | [], _ => none
  | p :: r, k => match look r k with
    | some x => some x
    | none => if p.1 = k then some p.2 else none

theorem look_snoc : ∀ (l : List (Bs × Bs)) (p : Bs × Bs) (k : Bs), look (l ++ [p]) k = if p.1 = k then some p.2 else look l k
  | [], p, k => by simp [look]
  | q :: r, p, k => by
    simp only [List.cons_append, look, look_snoc r p k]
    by_cases h : p.1 = k
    · rw [if_pos h, if_pos h]
    · rw [if_neg h, if_neg h]

theorem look_none {l : List (Bs × Bs)} {k : Bs} (h : ∀ p ∈ l, p.1 ≠ k) : look l k = none := by
  induction l with
  | nil => rfl
  | cons p r ih =>
    simp only [look, ih (fun q hq => h q (by simp [hq]))]
    rw [if_neg (h p (by simp))]

theorem look_mem : ∀ {l : List (Bs × Bs)}, (l.map (·.1)).Nodup → ∀ {p : Bs × Bs}, p ∈ l → look l p.1 = some p.2
  | [], _, p, hp => by simp at hp
  | q :: r, hn, p, hp => by
    simp only [List.map_cons, List.nodup_cons] at hn
    rcases List.mem_cons.1 hp with rfl | hp
    · simp only [look]
      rw [look_none (fun x hx he => hn.1 (by rw [← he]; exact List.mem_map_of_mem hx))]
      simp
    · simp only [look, look_mem hn.2 hp]

/-- In whatever order attributes of different names stand, the same is found. -/
theorem look_perm {l l' : List (Bs × Bs)} (h : l.Perm l') (hn : (l.map (·.1)).Nodup) (k : Bs) : look l k = look l' k := by
  have hn' : (l'.map (·.1)).Nodup := (h.map (·.1)).nodup_iff.1 hn
  by_cases hk : ∃ p ∈ l, p.1 = k
  · obtain ⟨p, hp, rfl⟩ := hk
    rw [look_mem hn hp, look_mem hn' (h.mem_iff.1 hp)]
  · have h1 : ∀ p ∈ l, p.1 ≠ k := fun p hp he => hk ⟨p, hp, he⟩
    rw [look_none h1, look_none (fun p hp => h1 p (h.mem_iff.2 hp))]

theorem perm_map {α β : Type} {f : α → β} {l' b : List β} (h : l'.Perm b) : ∀ l : List α, b = l.map f → ∃ m : List α, m.Perm l ∧ l' = m.map f := by
  induction h with
  | nil => intro l hl; exact ⟨l, List.Perm.refl _, hl⟩
  | cons x _ ih =>
    intro l hl
    cases l with
    | nil => simp at hl
    | cons a r =>
      simp only [List.map_cons, List.cons.injEq] at hl
      obtain ⟨m, hm, rfl⟩ := ih r hl.2
      exact ⟨a :: m, hm.cons a, by rw [hl.1]; rfl⟩
  | swap x y t =>
    intro l hl
    cases l with
    | nil => simp at hl
    | cons a r =>
      cases r with
      | nil => simp at hl
      | cons b r =>
        simp only [List.map_cons, List.cons.injEq] at hl
        exact ⟨b :: a :: r, List.Perm.swap a b r, by rw [hl.1, hl.2.1, hl.2.2]; rfl⟩
  | trans _ _ ih1 ih2 =>
    intro l hl
    obtain ⟨m, hm, rfl⟩ := ih2 l hl
    obtain ⟨m', hm', rfl⟩ := ih1 m rfl
    exact ⟨m', hm'.trans hm, rfl⟩

def Attr.pair (a : Attr) : Bs × Bs := (a.name, a.val)

/-- WHAT IS READ OF A LIST OF ATTRIBUTES IN ANOTHER ORDER. -/
theorem kv_mixed {l : List Attr} (hg : ∀ a ∈ l, a.Good) {l' : List Bs} (hp : l'.Perm (l.map Attr.line)) :
    ∃ m : List Attr, m.Perm l ∧ l' = m.map Attr.line ∧ (kv (joined l')).map (fun p => (p.1, trimQ p.2)) = m.map Attr.pair := by
  obtain ⟨m, hm, rfl⟩ : ∃ m : List Attr, m.Perm l ∧ l' = m.map Attr.line := by
    exact perm_map hp _ rfl
  refine ⟨m, hm, rfl, ?_⟩
  have hg' : ∀ a ∈ m, a.Good := fun a ha => hg a (hm.mem_iff.1 ha)
  rw [kv_joined m hg', List.map_map]
  apply List.map_congr_left
  intro a ha
  simp only [Function.comp, Attr.pair, trimQ_raw a (hg' a ha)]
end Go.Proofs.YtelkphcbopbhoaaGreatDoor

namespace Go.Proofs.YtelkphcbopbhoaaGreatDoor
open Go Go.Lib

theorem dec_digit (n : Nat) : ∀ c ∈ decDigits n, 48 ≤ c ∧ c ≤ 57 := by
  induction n using Nat.strongRecOn with
  | _ n ih =>
    rw [decDigits]
    split
    · intro c hc
      simp only [List.mem_singleton] at hc
      subst hc
      constructor <;> (rw [UInt8.le_iff_toNat_le]; simp; omega)
    · intro c hc
      rcases List.mem_append.1 hc with h | h
      · exact ih _ (by omega) c h
      · simp only [List.mem_singleton] at h
        subst h
        constructor <;> (rw [UInt8.le_iff_toNat_le]; simp; omega)
theorem dec_ne (n : Nat) : decDigits n ≠ [] := by
  rw [decDigits]
  split <;> simp

theorem parse_app (M : Nat) : ∀ (l : Bs) (acc u : Nat) (c : UInt8), parseUintM M acc l = .ok u → 48 ≤ c.toNat ∧ c.toNat ≤ 57 → u < 1844674407370955162 → u * 10 + (c.toNat - 48) ≤ M →
    parseUintM M acc (l ++ [c]) = .ok (u * 10 + (c.toNat - 48))
  | [], acc, u, c, h, hc, hu, hm => by
    simp only [parseUintM, NumEnd.ok.injEq] at h
    subst h
    simp only [List.nil_append, parseUintM, hc, and_self, if_true]
    rw [if_neg (by omega), if_neg (by omega)]
  | d :: r, acc, u, c, h, hc, hu, hm => by
    simp only [parseUintM] at h
    simp only [List.cons_append, parseUintM]
    split at h
    · rename_i hd
      rw [if_pos hd]
      split at h
      · cases h
      · rename_i h1
        rw [if_neg h1]
        split at h
        · cases h
        · rename_i h2
          rw [if_neg h2]
          exact parse_app M r _ u c h hc hu hm
    · cases h

theorem parse_dec (M n : Nat) (h : n ≤ M) (h' : n < 18446744073709551616) : parseUintM M 0 (decDigits n) = .ok n := by
  induction n using Nat.strongRecOn with
  | _ n ih =>
    rw [decDigits]
    split
    · rename_i hn
      simp only [parseUintM]
      have e : (UInt8.ofNat (48 + n)).toNat = 48 + n := by simp; omega
      rw [e, if_pos (by omega), if_neg (by omega), if_neg (by omega)]
      congr 1
      omega
    · rename_i hn
      have e : (UInt8.ofNat (48 + n % 10)).toNat = 48 + n % 10 := by simp; omega
      rw [parse_app M _ 0 (n / 10) _ (ih (n / 10) (by omega) (by omega) (by omega)) (by rw [e]; omega) (by omega) (by rw [e]; omega), e]
      congr 1
      omega

theorem parseUint_dec (n : Nat) (h : n < 18446744073709551616) : parseUintB 64 (decDigits n) = .ok n := by
  unfold parseUintB
  rw [if_neg (dec_ne n)]
  exact parse_dec _ n (by simp; omega) h

theorem parse10 (l : Bs) : ∀ acc, parseUintM 18446744073709551615 acc l = parseUint10 acc l := by
  induction l with
  | nil => intro acc; rfl
  | cons c r ih =>
    intro acc
    simp only [parseUintM, parseUint10, ih]
    split
    · split
      · rfl
      · by_cases h : 18446744073709551615 < acc * 10 + (c.toNat - 48)
        · rw [if_pos h, if_pos (by omega)]
        · rw [if_neg h, if_neg (by omega)]
    · rfl

theorem atoi_dec (n : Nat) (h : n < 9223372036854775808) : atoiAll (decDigits n) = .ok (n : Int) := by
  obtain ⟨c, r, hc⟩ := List.exists_cons_of_ne_nil (dec_ne n)
  have hd := dec_digit n c (by rw [hc]; simp)
  rw [UInt8.le_iff_toNat_le, UInt8.le_iff_toNat_le] at hd
  have h48 : (48 : UInt8).toNat = 48 := rfl
  have h57 : (57 : UInt8).toNat = 57 := rfl
  have hp : parseMag (decDigits n) = .ok n := by
    unfold parseMag
    rw [if_neg (dec_ne n), ← parse10]
    exact parse_dec _ n (by omega) (by omega)
  rw [hc] at hp ⊢
  simp only [atoiAll]
  rw [if_neg (by omega), hp]
  simp only
  rw [if_neg (by omega), if_neg (by omega), if_neg (by omega)]

theorem dec_length_le (n k : Nat) (hk : 0 < k) (h : n < 10 ^ k) : (decDigits n).length ≤ k := by
  induction k generalizing n with
  | zero => omega
  | succ k ih =>
    rw [decDigits]
    split
    · simp
    · rename_i hn
      simp only [List.length_append, List.length_singleton]
      cases k with
      | zero => omega
      | succ k =>
        have := ih (n / 10) (by omega) (by rw [Nat.pow_succ] at h; omega)
        omega
end Go.Proofs.YtelkphcbopbhoaaGreatDoor

namespace Go.Proofs.YtelkphcbopbhoaaGreatDoor
open Go Go.Lib

/-- "TYPE" -/
def kTYPE : Bs := [84, 89, 80, 69]
/-- "GROUP-ID" -/
def kGROUP : Bs := [71, 82, 79, 85, 80, 45, 73, 68]
/-- "NAME" -/
def kNAME : Bs := [78, 65, 77, 69]
/-- "DEFAULT" -/
def kDEFAULT : Bs := [68, 69, 70, 65, 85, 76, 84]
/-- "AUTOSELECT" -/
def kAUTO : Bs := [65, 85, 84, 79, 83, 69, 76, 69, 67, 84]
/-- "LANGUAGE" -/
def kLANG : Bs := [76, 65, 78, 71, 85, 65, 71, 69]
/-- "URI" -/
def kURI : Bs := [85, 82, 73]
/-- "PROGRAM-ID" -/
def kPROG : Bs := [80, 82, 79, 71, 82, 65, 77, 45, 73, 68]
/-- "BANDWIDTH" -/
def kBAND : Bs := [66, 65, 78, 68, 87, 73, 68, 84, 72]
/-- "AVERAGE-BANDWIDTH" -/
def kAVG : Bs := [65, 86, 69, 82, 65, 71, 69, 45, 66, 65, 78, 68, 87, 73, 68, 84, 72]
/-- "CODECS" -/
def kCODECS : Bs := [67, 79, 68, 69, 67, 83]
/-- "RESOLUTION" -/
def kRES : Bs := [82, 69, 83, 79, 76, 85, 84, 73, 79, 78]
/-- "AUDIO" -/
def kAUDIO : Bs := [65, 85, 68, 73, 79]
/-- "VIDEO" -/
def kVIDEO : Bs := [86, 73, 68, 69, 79]
/-- "CLOSED-CAPTIONS" -/
def kCC : Bs := [67, 76, 79, 83, 69, 68, 45, 67, 65, 80, 84, 73, 79, 78, 83]
/-- "SUBTITLES" -/
def kSUBS : Bs := [83, 85, 66, 84, 73, 84, 76, 69, 83]
/-- "FRAME-RATE" -/
def kRATE : Bs := [70, 82, 65, 77, 69, 45, 82, 65, 84, 69]
/-- "YES" -/
def vYES : Bs := [89, 69, 83]
/-- "NO" -/
def vNO : Bs := [78, 79]
/-- "g" -/
def vg : Bs := [103]
/-- "h" -/
def vh : Bs := [104]
/-- "en" -/
def ven : Bs := [101, 110]
/-- "de" -/
def vde : Bs := [100, 101]
/-- "a b.m3u8" -/
def vab : Bs := [97, 32, 98, 46, 109, 51, 117, 56]
/-- "c,d.m3u8" -/
def vcd : Bs := [99, 44, 100, 46, 109, 51, 117, 56]
/-- "cc" -/
def vcc : Bs := [99, 99]
/-- "NONE" -/
def vNONE : Bs := [78, 79, 78, 69]
/-- "x" -/
def vx : Bs := [120]
/-- "a, b=c" -/
def vabc : Bs := [97, 44, 32, 98, 61, 99]
/-- "avc1.42c00d" -/
def vc1 : Bs := [97, 118, 99, 49, 46, 52, 50, 99, 48, 48, 100]
/-- "avc1.42c00d,mp4a.40.2" -/
def vc2 : Bs := [97, 118, 99, 49, 46, 52, 50, 99, 48, 48, 100, 44, 109, 112, 52, 97, 46, 52, 48, 46, 50]
/-- "#EXTM3U" -/
def tM3U : Bs := [35, 69, 88, 84, 77, 51, 85]
/-- "#EXT-X-VERSION:" -/
def tVER : Bs := [35, 69, 88, 84, 45, 88, 45, 86, 69, 82, 83, 73, 79, 78, 58]
/-- "#EXT-X-INDEPENDENT-SEGMENTS" -/
def tIND : Bs := [35, 69, 88, 84, 45, 88, 45, 73, 78, 68, 69, 80, 69, 78, 68, 69, 78, 84, 45, 83, 69, 71, 77, 69, 78, 84, 83]
/-- "#EXT-X-MEDIA:" -/
def tMEDIA : Bs := [35, 69, 88, 84, 45, 88, 45, 77, 69, 68, 73, 65, 58]
/-- "#EXT-X-STREAM-INF:" -/
def tINF : Bs := [35, 69, 88, 84, 45, 88, 45, 83, 84, 82, 69, 65, 77, 45, 73, 78, 70, 58]

/-- A rendition. -/
structure Alt where
  type : Bs
  group : Bs
  name : Bs
  dflt : Bool
  auto : Bs
  lang : Bs
  uri : Bs
  deriving DecidableEq

/-- A variant. -/
structure Vrt where
  uri : Bs
  prog : Nat
  band : Nat
  avg : Nat
  codecs : Bs
  width : Nat
  height : Nat
  audio : Bs
  video : Bs
  subs : Bs
  caps : Bs
  name : Bs
  rate : Nat
  deriving DecidableEq

def seconds (e : Nat) : Bs := decDigits (e / 8) ++ 46 :: (decDigits (e % 8 * 125 / 100) ++ decDigits (e % 8 * 125 / 10 % 10) ++ decDigits (e % 8 * 125 % 10))
def Vrt.resolution (v : Vrt) : Bs := if v.width = 0 then [] else decDigits v.width ++ 120 :: decDigits v.height

def Alt.all (a : Alt) : List Attr :=
  [⟨kTYPE, a.type, false⟩, ⟨kGROUP, a.group, true⟩, ⟨kNAME, a.name, true⟩, ⟨kDEFAULT, if a.dflt then vYES else vNO, false⟩, ⟨kAUTO, a.auto, false⟩, ⟨kLANG, a.lang, true⟩, ⟨kURI, a.uri, true⟩]
def Vrt.all (v : Vrt) : List Attr :=
  [⟨kPROG, decDigits v.prog, false⟩, ⟨kBAND, decDigits v.band, false⟩, ⟨kAVG, if v.avg = 0 then [] else decDigits v.avg, false⟩, ⟨kCODECS, v.codecs, true⟩, ⟨kRES, v.resolution, false⟩, ⟨kAUDIO, v.audio, true⟩,
   ⟨kVIDEO, v.video, true⟩, ⟨kCC, v.caps, decide (v.caps ≠ vNONE)⟩, ⟨kSUBS, v.subs, true⟩, ⟨kNAME, v.name, true⟩, ⟨kRATE, if v.rate = 0 then [] else seconds v.rate, false⟩]

/-- Those that are told. -/
def keep (l : List Attr) : List Attr := l.filter (fun a => decide (a.val ≠ []))

structure Alt.Good (a : Alt) : Prop where
  type : a.type = kAUDIO ∨ a.type = kVIDEO ∨ a.type = kSUBS
  group : a.group = vg ∨ a.group = vh
  name : ∃ k, k < 4 ∧ a.name = 110 :: decDigits k
  auto : a.auto = [] ∨ a.auto = vYES ∨ a.auto = vNO
  lang : a.lang = [] ∨ a.lang = ven ∨ a.lang = vde
  uri : a.uri = [] ∨ a.uri = vab ∨ a.uri = vcd

/-- A sign that a text of the set has. -/
def signB (c : UInt8) : Bool := (97 ≤ c && c ≤ 122) || (65 ≤ c && c ≤ 90) || (48 ≤ c && c ≤ 58) || c == 46 || c == 95 || c == 45 || c == 47 || c == 32

structure Vrt.Good (v : Vrt) : Prop where
  uri : ∃ t : Bs, v.uri = 117 :: (t ++ [46, 116, 115]) ∧ t.length ≤ 14 ∧ ∀ c ∈ t, signB c = true
  prog : v.prog < 4294967296
  band : v.band < 4294967296
  avg : v.avg < 4294967296
  codecs : v.codecs = [] ∨ v.codecs = vc1 ∨ v.codecs = vc2
  width : v.width ≤ 4000
  height : v.height ≤ 3000
  audio : v.audio = [] ∨ v.audio = vg ∨ v.audio = vh
  video : v.video = [] ∨ v.video = vg ∨ v.video = vh
  subs : v.subs = [] ∨ v.subs = vg ∨ v.subs = vh
  caps : v.caps = [] ∨ v.caps = vcc ∨ v.caps = vNONE
  name : v.name = [] ∨ v.name = vx ∨ v.name = vabc
  rate : v.rate ≤ 1000

theorem good_of {n v : Bs} {q : Bool} (h : (n.all nmB && !n.isEmpty && !v.isEmpty && v.all (fun c => c != 34 && (q || c != 44)) && v.head? != some 32 && v.getLast? != some 32) = true) : (⟨n, v, q⟩ : Attr).Good := by
  simp only [Bool.and_eq_true, List.all_eq_true, Bool.not_eq_true', bne_iff_ne, ne_eq, Bool.or_eq_true] at h
  obtain ⟨⟨⟨⟨⟨h1, h2⟩, h3⟩, h4⟩, h5⟩, h6⟩ := h
  refine ⟨by intro e; simp only at e; simp [e] at h2, h1, by intro e; simp only at e; simp [e] at h3, fun c hc => (h4 c hc).1, fun hq c hc => ?_, fun c hc e => ?_, fun c hc e => ?_⟩
  · simp only at hq
    rcases (h4 c hc).2 with h | h
    · rw [hq] at h; cases h
    · exact h
  · simp only at hc; subst e; exact h5 hc
  · simp only at hc; subst e; exact h6 hc

theorem good_digits {n v : Bs} (hn : (n.all nmB && !n.isEmpty) = true) (h0 : v ≠ []) (hv : ∀ c ∈ v, (48 ≤ c ∧ c ≤ 57) ∨ c = 46 ∨ c = 120) : (⟨n, v, false⟩ : Attr).Good := by
  simp only [Bool.and_eq_true, List.all_eq_true, Bool.not_eq_true'] at hn
  obtain ⟨h1, h2⟩ := hn
  have hne : ∀ c ∈ v, c ≠ 34 ∧ c ≠ 44 ∧ c ≠ 32 := fun c hc => by
    rcases hv c hc with ⟨ha, hb⟩ | rfl | rfl
    · rw [UInt8.le_iff_toNat_le] at ha hb
      refine ⟨?_, ?_, ?_⟩ <;> (rintro rfl; revert ha; decide)
    · decide
    · decide
  exact ⟨by intro e; simp only at e; simp [e] at h2, h1, h0, fun c hc => (hne c hc).1, fun _ c hc => (hne c hc).2.1, fun c hc => (hne c (List.mem_of_head? hc)).2.2, fun c hc => (hne c (List.mem_of_getLast? hc)).2.2⟩

theorem keep_mem {l : List Attr} {a : Attr} (h : a ∈ keep l) : a ∈ l ∧ a.val ≠ [] := by
  have := List.mem_filter.1 h
  exact ⟨this.1, by simpa using this.2⟩

theorem Alt.good_attrs {a : Alt} (h : a.Good) : ∀ x ∈ keep a.all, x.Good := by
  obtain ⟨ty, gr, nm, df, au, la, ur⟩ := a
  obtain ⟨h1, h2, ⟨k, hk, h3⟩, h4, h5, h6⟩ := h
  simp only at h1 h2 h3 h4 h5 h6
  intro x hx
  obtain ⟨hm, hne⟩ := keep_mem hx
  simp only [Alt.all, List.mem_cons, List.not_mem_nil, or_false] at hm
  rcases hm with rfl | rfl | rfl | rfl | rfl | rfl | rfl
  · rcases h1 with rfl | rfl | rfl <;> exact good_of (by decide)
  · rcases h2 with rfl | rfl <;> exact good_of (by decide)
  · subst h3
    have : k = 0 ∨ k = 1 ∨ k = 2 ∨ k = 3 := by omega
    rcases this with rfl | rfl | rfl | rfl <;> (rw [decDigits_one (by omega)]; exact good_of (by decide))
  · cases df
    · exact good_of (v := vNO) (by decide)
    · exact good_of (v := vYES) (by decide)
  · rcases h4 with rfl | rfl | rfl
    · exact absurd rfl hne
    · exact good_of (by decide)
    · exact good_of (by decide)
  · rcases h5 with rfl | rfl | rfl
    · exact absurd rfl hne
    · exact good_of (by decide)
    · exact good_of (by decide)
  · rcases h6 with rfl | rfl | rfl
    · exact absurd rfl hne
    · exact good_of (by decide)
    · exact good_of (by decide)

theorem seconds_signs (e : Nat) : ∀ c ∈ seconds e, (48 ≤ c ∧ c ≤ 57) ∨ c = 46 ∨ c = 120 := by
  intro c hc
  simp only [seconds, List.mem_append, List.mem_cons] at hc
  rcases hc with h | h | (h | h) | h
  · exact .inl (dec_digit _ c h)
  · exact .inr (.inl h)
  · exact .inl (dec_digit _ c h)
  · exact .inl (dec_digit _ c h)
  · exact .inl (dec_digit _ c h)
theorem seconds_ne (e : Nat) : seconds e ≠ [] := by simp [seconds]

theorem Vrt.good_attrs {v : Vrt} (h : v.Good) : ∀ x ∈ keep v.all, x.Good := by
  obtain ⟨ur, pr, ba, av, co, wi, he, au, vi, su, ca, na, ra⟩ := v
  obtain ⟨_, _, _, _, h5, _, _, h8, h9, h10, h11, h12, _⟩ := h
  simp only at h5 h8 h9 h10 h11 h12
  intro x hx
  obtain ⟨hm, hne⟩ := keep_mem hx
  simp only [Vrt.all, List.mem_cons, List.not_mem_nil, or_false] at hm
  rcases hm with rfl | rfl | rfl | rfl | rfl | rfl | rfl | rfl | rfl | rfl | rfl
  · exact good_digits (by decide) (dec_ne _) (fun c hc => .inl (dec_digit _ c hc))
  · exact good_digits (by decide) (dec_ne _) (fun c hc => .inl (dec_digit _ c hc))
  · by_cases e : av = 0
    · simp [e] at hne
    · simp only [e, if_false]
      exact good_digits (by decide) (dec_ne _) (fun c hc => .inl (dec_digit _ c hc))
  · rcases h5 with rfl | rfl | rfl
    · exact absurd rfl hne
    · exact good_of (by decide)
    · exact good_of (by decide)
  · unfold Vrt.resolution at hne ⊢
    by_cases e : wi = 0
    · simp [e] at hne
    · simp only [e, if_false]
      refine good_digits (by decide) (by simp) (fun c hc => ?_)
      simp only [List.mem_append, List.mem_cons] at hc
      rcases hc with h | h | h
      · exact .inl (dec_digit _ c h)
      · exact .inr (.inr h)
      · exact .inl (dec_digit _ c h)
  · rcases h8 with rfl | rfl | rfl
    · exact absurd rfl hne
    · exact good_of (by decide)
    · exact good_of (by decide)
  · rcases h9 with rfl | rfl | rfl
    · exact absurd rfl hne
    · exact good_of (by decide)
    · exact good_of (by decide)
  · rcases h11 with rfl | rfl | rfl
    · exact absurd rfl hne
    · exact good_of (q := true) (by decide)
    · exact good_of (q := false) (by decide)
  · rcases h10 with rfl | rfl | rfl
    · exact absurd rfl hne
    · exact good_of (by decide)
    · exact good_of (by decide)
  · rcases h12 with rfl | rfl | rfl
    · exact absurd rfl hne
    · exact good_of (by decide)
    · exact good_of (by decide)
  · by_cases e : ra = 0
    · simp [e] at hne
    · simp only [e, if_false]
      exact good_digits (by decide) (seconds_ne _) (seconds_signs _)

theorem keep_names_nodup {l : List Attr} (h : (l.map (·.name)).Nodup) : ((keep l).map Attr.pair |>.map (·.1)).Nodup := by
  have : ((keep l).map Attr.pair).map (·.1) = (keep l).map (·.name) := by rw [List.map_map]; rfl
  rw [this]
  exact List.Nodup.sublist (List.Sublist.map _ List.filter_sublist) h

theorem Alt.names (a : Alt) : (a.all.map (·.name)).Nodup := by
  simp only [Alt.all, List.map_cons, List.map_nil]; decide
theorem Vrt.names (v : Vrt) : (v.all.map (·.name)).Nodup := by
  simp only [Vrt.all, List.map_cons, List.map_nil]; decide

/-- What is found of a list of attributes, in whatever order they stand. -/
theorem look_keep {l : List Attr} (hn : (l.map (·.name)).Nodup) {m : List Attr} (hm : m.Perm (keep l)) {a : Attr} (ha : a ∈ l) :
    look (m.map Attr.pair) a.name = if a.val = [] then none else some a.val := by
  have hn' := keep_names_nodup hn
  rw [← look_perm (hm.symm.map Attr.pair) hn']
  split
  · rename_i he
    refine look_none (fun p hp e => ?_)
    obtain ⟨x, hx, rfl⟩ := List.mem_map.1 hp
    obtain ⟨hx1, hx2⟩ := keep_mem hx
    have : x = a := by
      have inj : ∀ {l : List Attr}, (l.map (·.name)).Nodup → ∀ {x y : Attr}, x ∈ l → y ∈ l → x.name = y.name → x = y := by
        intro l
        induction l with
        | nil => intro _ x _ hx; simp at hx
        | cons z r ih =>
          intro hn x y hx hy hxy
          simp only [List.map_cons, List.nodup_cons] at hn
          rcases List.mem_cons.1 hx with rfl | hx' <;> rcases List.mem_cons.1 hy with rfl | hy'
          · rfl
          · exact absurd (by rw [hxy]; exact List.mem_map_of_mem hy') hn.1
          · exact absurd (by rw [← hxy]; exact List.mem_map_of_mem hx') hn.1
          · exact ih hn.2 hx' hy' hxy
      exact inj hn hx1 ha e
    rw [this] at hx2
    exact hx2 he
  · rename_i he
    have hk : a ∈ keep l := List.mem_filter.2 ⟨ha, by simpa using he⟩
    exact look_mem hn' (p := a.pair) (List.mem_map_of_mem hk)
theorem look_keep_getD {l : List Attr} (hn : (l.map (·.name)).Nodup) {m : List Attr} (hm : m.Perm (keep l)) {a : Attr} (ha : a ∈ l) :
    (look (m.map Attr.pair) a.name).getD [] = a.val := by
  rw [look_keep hn hm ha]
  split
  · rename_i h; simp [h]
  · rfl
end Go.Proofs.YtelkphcbopbhoaaGreatDoor

namespace Go.Proofs.YtelkphcbopbhoaaGreatDoor
open Go Go.Lib

def unlines (ls : List Bs) : Bs := ls.flatMap (· ++ [10])
theorem unlines_append (a b : List Bs) : unlines (a ++ b) = unlines a ++ unlines b := by simp [unlines]
theorem unlines_one (a : Bs) : unlines [a] = a ++ [10] := by simp [unlines]
/-- A list of things, each with its lines. -/
inductive Cat {α : Type} (R : α → List Bs → Prop) : List α → List Bs → Prop
  | nil : Cat R [] []
  | snoc {l : List α} {a : α} {t u : List Bs} : Cat R l t → R a u → Cat R (l ++ [a]) (t ++ u)
def AltLines (a : Alt) (u : List Bs) : Prop := ∃ L, L.Perm ((keep a.all).map Attr.line) ∧ u = [tMEDIA ++ joined L]
def VrtLines (v : Vrt) (u : List Bs) : Prop := ∃ L, L.Perm ((keep v.all).map Attr.line) ∧ u = [tINF ++ joined L, v.uri]
def headLines (ver : Nat) (ind : Bool) : List Bs := [tM3U, tVER ++ decDigits ver] ++ (if ind then [tIND] else [])

theorem joined_le (L : List Bs) (m : Nat) (h : ∀ x ∈ L, x.length ≤ m) : (joined L).length ≤ L.length * (m + 1) := by
  induction L with
  | nil => simp [joined]
  | cons a r ih =>
    have ha := h a (by simp)
    cases r with
    | nil => simp [joined]; omega
    | cons b r =>
      have := ih (fun x hx => h x (List.mem_cons_of_mem _ hx))
      simp only [joined, List.length_append, List.length_cons] at this ⊢
      rw [Nat.add_mul _ 1] 
      omega
theorem line_le {x : Attr} {m : Nat} (h1 : x.name.length ≤ 17) (h2 : x.val.length ≤ m) : x.line.length ≤ m + 20 := by
  unfold Attr.line Attr.raw
  split <;> simp <;> omega
theorem Alt.vals {a : Alt} (h : a.Good) : ∀ x ∈ a.all, x.name.length ≤ 17 ∧ x.val.length ≤ 30 := by
  have l0 : a.type.length ≤ 30 := by rcases h.type with h | h | h <;> rw [h] <;> decide
  have l1 : a.group.length ≤ 30 := by rcases h.group with h | h <;> rw [h] <;> decide
  have l2 : a.name.length ≤ 30 := by obtain ⟨k, hk, h⟩ := h.name; rw [h, Lib.decDigits_one (by omega)]; simp
  have l4 : a.auto.length ≤ 30 := by rcases h.auto with h | h | h <;> rw [h] <;> decide
  have l5 : a.lang.length ≤ 30 := by rcases h.lang with h | h | h <;> rw [h] <;> decide
  have l6 : a.uri.length ≤ 30 := by rcases h.uri with h | h | h <;> rw [h] <;> decide
  intro x hx
  simp only [Alt.all, List.mem_cons, List.not_mem_nil, or_false] at hx
  rcases hx with rfl | rfl | rfl | rfl | rfl | rfl | rfl
  · exact ⟨by simp only; decide, l0⟩
  · exact ⟨by simp only; decide, l1⟩
  · exact ⟨by simp only; decide, l2⟩
  · refine ⟨by simp only; decide, ?_⟩; cases a.dflt <;> decide
  · exact ⟨by simp only; decide, l4⟩
  · exact ⟨by simp only; decide, l5⟩
  · exact ⟨by simp only; decide, l6⟩
theorem Vrt.vals {v : Vrt} (h : v.Good) : ∀ x ∈ v.all, x.name.length ≤ 17 ∧ x.val.length ≤ 30 := by
  have b5 := h.width
  have b6 := h.height
  have b12 := h.rate
  have l4 : v.codecs.length ≤ 30 := by rcases h.codecs with h | h | h <;> rw [h] <;> decide
  have l7 : v.audio.length ≤ 30 := by rcases h.audio with h | h | h <;> rw [h] <;> decide
  have l8 : v.video.length ≤ 30 := by rcases h.video with h | h | h <;> rw [h] <;> decide
  have l9 : v.subs.length ≤ 30 := by rcases h.subs with h | h | h <;> rw [h] <;> decide
  have l10 : v.caps.length ≤ 30 := by rcases h.caps with h | h | h <;> rw [h] <;> decide
  have l11 : v.name.length ≤ 30 := by rcases h.name with h | h | h <;> rw [h] <;> decide
  have d1 : (decDigits v.prog).length ≤ 10 := dec_length_le _ 10 (by omega) (by have := h.prog; omega)
  have d2 : (decDigits v.band).length ≤ 10 := dec_length_le _ 10 (by omega) (by have := h.band; omega)
  have d3 : (decDigits v.avg).length ≤ 10 := dec_length_le _ 10 (by omega) (by have := h.avg; omega)
  have d5 : v.resolution.length ≤ 30 := by
    unfold Vrt.resolution
    split
    · simp
    · have := dec_length_le v.width 4 (by omega) (by omega)
      have := dec_length_le v.height 4 (by omega) (by omega)
      simp; omega
  have d12 : (seconds v.rate).length ≤ 30 := by
    have := dec_length_le (v.rate / 8) 4 (by omega) (by omega)
    have := dec_length_le (v.rate % 8 * 125 / 100) 4 (by omega) (by omega)
    have := dec_length_le (v.rate % 8 * 125 / 10 % 10) 4 (by omega) (by omega)
    have := dec_length_le (v.rate % 8 * 125 % 10) 4 (by omega) (by omega)
    simp [seconds]; omega
  intro x hx
  simp only [Vrt.all, List.mem_cons, List.not_mem_nil, or_false] at hx
  rcases hx with rfl | rfl | rfl | rfl | rfl | rfl | rfl | rfl | rfl | rfl | rfl
  · exact ⟨by simp only; decide, by simp only; omega⟩
  · exact ⟨by simp only; decide, by simp only; omega⟩
  · refine ⟨by simp only; decide, ?_⟩; split <;> simp <;> omega
  · exact ⟨by simp only; decide, l4⟩
  · exact ⟨by simp only; decide, d5⟩
  · exact ⟨by simp only; decide, l7⟩
  · exact ⟨by simp only; decide, l8⟩
  · exact ⟨by simp only; decide, l10⟩
  · exact ⟨by simp only; decide, l9⟩
  · exact ⟨by simp only; decide, l11⟩
  · refine ⟨by simp only; decide, ?_⟩; split <;> simp <;> omega
theorem lines_joined_le {l : List Attr} {n : Nat} (hn : l.length ≤ n) (h : ∀ x ∈ l, x.name.length ≤ 17 ∧ x.val.length ≤ 30) {L : List Bs} (hL : L.Perm ((keep l).map Attr.line)) : (joined L).length ≤ n * 51 := by
  have h1 : L.length ≤ n := by
    rw [hL.length_eq, List.length_map]
    exact Nat.le_trans (List.length_filter_le _ _) hn
  refine Nat.le_trans (joined_le L 50 (fun x hx => ?_)) (Nat.mul_le_mul_right 51 h1)
  obtain ⟨y, hy, rfl⟩ := List.mem_map.1 (hL.mem_iff.1 hx)
  have := h y (keep_mem hy).1
  exact line_le this.1 this.2
theorem alt_joined_le {a : Alt} (h : a.Good) {L : List Bs} (hL : L.Perm ((keep a.all).map Attr.line)) : (joined L).length ≤ 357 := lines_joined_le (n := 7) (Nat.le_of_eq rfl) (Alt.vals h) hL
theorem vrt_joined_le {v : Vrt} (h : v.Good) {L : List Bs} (hL : L.Perm ((keep v.all).map Attr.line)) : (joined L).length ≤ 561 := lines_joined_le (n := 11) (Nat.le_of_eq rfl) (Vrt.vals h) hL
theorem Cat.len {α : Type} {R : α → List Bs → Prop} {m : Nat} {l : List α} {t : List Bs} (h : Cat R l t) (hm : ∀ a ∈ l, ∀ u, R a u → (unlines u).length ≤ m) : (unlines t).length ≤ l.length * m := by
  induction h with
  | nil => simp [unlines]
  | snoc _ h2 ih =>
    have := hm _ (by simp) _ h2
    have := ih (fun a ha => hm a (by simp [ha]))
    rw [unlines_append, List.length_append, List.length_append, List.length_singleton, Nat.add_mul]
    omega
theorem AltLines.len {a : Alt} (h : a.Good) {u : List Bs} (hu : AltLines a u) : (unlines u).length ≤ 371 := by
  obtain ⟨L, hL, rfl⟩ := hu
  have := alt_joined_le h hL
  rw [unlines_one]
  simp [tMEDIA]
  omega
theorem VrtLines.len {v : Vrt} (h : v.Good) {u : List Bs} (hu : VrtLines v u) : (unlines u).length ≤ 600 := by
  obtain ⟨L, hL, rfl⟩ := hu
  have := vrt_joined_le h hL
  obtain ⟨t, ht, ht2, _⟩ := h.uri
  have hl : v.uri.length ≤ 18 := by rw [ht]; simp; omega
  simp [unlines, tINF]
  omega
end Go.Proofs.YtelkphcbopbhoaaGreatDoor

namespace Go.Proofs.YtelkphcbopbhoaaGreatDoor
open Go Go.Lib

def pieces : Bs → List Bs
  | [] => [[]]
  | c :: r => if c = 10 then [] :: pieces r else match pieces r with
    | [] => [[c]]
    | p :: ps => (c :: p) :: ps
theorem pieces_cut (r : Bs) : ∀ (a : Bs), (∀ c ∈ a, c ≠ 10) → pieces (a ++ 10 :: r) = a :: pieces r
  | [], _ => by simp [pieces]
  | c :: a, h => by
    have hc := h c (by simp)
    have ih := pieces_cut r a (fun x hx => h x (by simp [hx]))
    simp only [List.cons_append, pieces, if_neg hc, ih]
theorem pieces_none : ∀ (a : Bs), (∀ c ∈ a, c ≠ 10) → pieces a = [a]
  | [], _ => rfl
  | c :: a, h => by
    have hc := h c (by simp)
    have ih := pieces_none a (fun x hx => h x (by simp [hx]))
    simp only [pieces, if_neg hc, ih]
theorem pieces_unlines (ls : List Bs) (h : ∀ l ∈ ls, ∀ c ∈ l, c ≠ 10) : pieces (unlines ls) = ls ++ [[]] := by
  induction ls with
  | nil => rfl
  | cons l r ih =>
    have e : unlines (l :: r) = l ++ 10 :: unlines r := by simp [unlines]
    rw [e, pieces_cut _ _ (h l (by simp)), ih (fun x hx => h x (by simp [hx]))]
    rfl
theorem pieces_ne (l : Bs) : pieces l ≠ [] := by
  cases l with
  | nil => simp [pieces]
  | cons c r =>
    simp only [pieces]
    split
    · simp
    · split <;> simp
end Go.Proofs.YtelkphcbopbhoaaGreatDoor

namespace Go.Proofs.YtelkphcbopbhoaaGreatDoor
open Go Go.Lib

def prB (c : UInt8) : Bool := decide (32 ≤ c) && decide (c < 127)
theorem pr_ne {c : UInt8} (h : prB c = true) : c ≠ 10 := by
  rintro rfl
  exact absurd h (by decide)
theorem pr_lt {c : UInt8} (h : prB c = true) : c.toNat < 128 := by
  simp only [prB, Bool.and_eq_true, decide_eq_true_eq, UInt8.lt_iff_toNat_lt] at h
  have h2 := h.2
  have : (127 : UInt8).toNat = 127 := rfl
  omega
theorem pr_sp {c : UInt8} (h : prB c = true) (h2 : c ≠ 32) : isSp c = false := by
  have e : ∀ d : UInt8, prB d = false → c ≠ d := fun d hd e => by rw [e, hd] at h; cases h
  simp [isSp, e 9 (by decide), e 10 (by decide), e 11 (by decide), e 12 (by decide), e 13 (by decide), h2]
theorem pr_name {c : UInt8} (h : nmB c = true) : prB c = true := by
  have e : ∀ c : Fin 256, nmB (UInt8.ofNat c.val) = true → prB (UInt8.ofNat c.val) = true := by decide +kernel
  have := e ⟨c.toNat, c.toNat_lt⟩
  simpa using this (by simpa using h)
theorem pr_sign {c : UInt8} (h : signB c = true) : prB c = true := by
  have e : ∀ c : Fin 256, signB (UInt8.ofNat c.val) = true → prB (UInt8.ofNat c.val) = true := by decide +kernel
  have := e ⟨c.toNat, c.toNat_lt⟩
  simpa using this (by simpa using h)
theorem pr_digit {c : UInt8} (h : 48 ≤ c ∧ c ≤ 57) : prB c = true := by
  obtain ⟨h1, h2⟩ := h
  simp only [prB, Bool.and_eq_true, decide_eq_true_eq]
  rw [UInt8.le_iff_toNat_le] at h1 h2
  rw [UInt8.le_iff_toNat_le, UInt8.lt_iff_toNat_lt]
  have e1 : (48 : UInt8).toNat = 48 := rfl
  have e2 : (57 : UInt8).toNat = 57 := rfl
  have e3 : (32 : UInt8).toNat = 32 := rfl
  have e4 : (127 : UInt8).toNat = 127 := rfl
  omega

/-- A line without blanks at its ends. -/
structure Tidy (l : Bs) : Prop where
  pr : ∀ c ∈ l, prB c = true
  hd : ∀ c, l.head? = some c → c ≠ 32
  lt : ∀ c, l.getLast? = some c → c ≠ 32
theorem Tidy.trim {l : Bs} (h : Tidy l) (h0 : l ≠ []) : trimSpace (l ++ [10]) = l ∧ trimSpace l = l := by
  have hd : ∀ c, l.head? = some c → isSp c = false := fun c hc => pr_sp (h.pr c (List.mem_of_mem_head? hc)) (h.hd c hc)
  have lt : ∀ c, l.reverse.head? = some c → isSp c = false := fun c hc => by
    rw [List.head?_reverse] at hc
    exact pr_sp (h.pr c (List.mem_of_mem_getLast? hc)) (h.lt c hc)
  have e1 : l.dropWhile isSp = l := dropWhile_none _ _ hd
  have e2 : (l ++ [10]).dropWhile isSp = l ++ [10] := dropWhile_none _ _ (by
    cases l with
    | nil => exact absurd rfl h0
    | cons a t => exact fun c hc => hd c hc)
  have e3 : l.reverse.dropWhile isSp = l.reverse := dropWhile_none _ _ lt
  refine ⟨?_, ?_⟩
  · unfold trimSpace
    rw [e2, List.reverse_append]
    have : ([10] : Bs).reverse ++ l.reverse = 10 :: l.reverse := rfl
    rw [this, List.dropWhile_cons, if_pos (by decide), e3, List.reverse_reverse]
  · unfold trimSpace
    rw [e1, e3, List.reverse_reverse]
theorem raw_ne {a : Attr} (h : a.Good) : a.raw ≠ [] := by
  unfold Attr.raw
  split
  · simp
  · exact h.v0
theorem line_last {a : Attr} (h : a.Good) : ∀ c, a.line.getLast? = some c → c ≠ 32 := by
  intro c hc
  unfold Attr.line at hc
  rw [List.getLast?_append, List.getLast?_cons] at hc
  have hr := raw_ne h
  have hl : a.raw.getLast? = some c := by
    cases e : a.raw.getLast? with
    | none => exact absurd (List.getLast?_eq_none_iff.1 e) hr
    | some d => rw [e] at hc; simpa using hc
  unfold Attr.raw at hl
  split at hl
  · rw [List.cons_append, ← List.cons_append, List.getLast?_append] at hl
    simp at hl
    rw [← hl]; decide
  · exact h.lt c hl
theorem line_pr {a : Attr} (h : a.Good) (hv : ∀ c ∈ a.val, prB c = true) : ∀ c ∈ a.line, prB c = true := by
  intro c hc
  unfold Attr.line Attr.raw at hc
  rcases List.mem_append.1 hc with h1 | h1
  · exact pr_name (h.nm c h1)
  · rcases List.mem_cons.1 h1 with rfl | h2
    · decide
    · split at h2
      · simp only [List.cons_append, List.mem_cons, List.mem_append, List.not_mem_nil, or_false] at h2
        rcases h2 with rfl | h2 | rfl
        · decide
        · exact hv c h2
        · decide
      · exact hv c h2
theorem joined_pr : ∀ (L : List Bs), (∀ x ∈ L, ∀ c ∈ x, prB c = true) → ∀ c ∈ joined L, prB c = true
  | [], _, c, hc => by cases hc
  | [x], h, c, hc => h x (by simp) c hc
  | x :: y :: r, h, c, hc => by
    rcases List.mem_append.1 hc with h1 | h1
    · exact h x (by simp) c h1
    · rcases List.mem_cons.1 h1 with rfl | h2
      · decide
      · exact joined_pr (y :: r) (fun z hz => h z (List.mem_cons_of_mem _ hz)) c h2
theorem joined_last : ∀ (L : List Bs), (∀ x ∈ L, x ≠ [] ∧ ∀ c, x.getLast? = some c → c ≠ 32) → ∀ c, (joined L).getLast? = some c → c ≠ 32
  | [], _, c, hc => by cases hc
  | [x], h, c, hc => (h x (by simp)).2 c hc
  | x :: y :: r, h, c, hc => by
    have ih := joined_last (y :: r) (fun z hz => h z (List.mem_cons_of_mem _ hz))
    have hne : joined (y :: r) ≠ [] := by
      have hy := (h y (by simp)).1
      cases r with
      | nil => exact hy
      | cons z r => simp [joined]
    simp only [joined] at hc
    rw [List.getLast?_append, List.getLast?_cons] at hc
    cases e : (joined (y :: r)).getLast? with
    | none => exact absurd (List.getLast?_eq_none_iff.1 e) hne
    | some d =>
      rw [e] at hc
      have : d = c := by simpa using hc
      subst this
      exact ih d e
theorem Alt.vals_pr {a : Alt} (h : a.Good) : ∀ x ∈ a.all, ∀ c ∈ x.val, prB c = true := by
  have e : ∀ {l : Bs}, l.all prB = true → ∀ c ∈ l, prB c = true := fun h => List.all_eq_true.1 h
  intro x hx
  simp only [Alt.all, List.mem_cons, List.not_mem_nil, or_false] at hx
  rcases hx with rfl | rfl | rfl | rfl | rfl | rfl | rfl
  · exact e (by rcases h.type with h | h | h <;> simp only [h] <;> decide)
  · exact e (by rcases h.group with h | h <;> simp only [h] <;> decide)
  · obtain ⟨k, _, h3⟩ := h.name
    intro c hc
    simp only [h3, List.mem_cons] at hc
    rcases hc with rfl | hc
    · decide
    · exact pr_digit (dec_digit _ c hc)
  · simp only
    split <;> exact e (by decide)
  · exact e (by rcases h.auto with h | h | h <;> simp only [h] <;> decide)
  · exact e (by rcases h.lang with h | h | h <;> simp only [h] <;> decide)
  · exact e (by rcases h.uri with h | h | h <;> simp only [h] <;> decide)
theorem Vrt.vals_pr {v : Vrt} (h : v.Good) : ∀ x ∈ v.all, ∀ c ∈ x.val, prB c = true := by
  have e : ∀ {l : Bs}, l.all prB = true → ∀ c ∈ l, prB c = true := fun h => List.all_eq_true.1 h
  have d : ∀ n, ∀ c ∈ decDigits n, prB c = true := fun n c hc => pr_digit (dec_digit _ c hc)
  intro x hx
  simp only [Vrt.all, List.mem_cons, List.not_mem_nil, or_false] at hx
  rcases hx with rfl | rfl | rfl | rfl | rfl | rfl | rfl | rfl | rfl | rfl | rfl
  · exact d _
  · exact d _
  · simp only
    split
    · intro c hc; cases hc
    · exact d _
  · exact e (by rcases h.codecs with h | h | h <;> simp only [h] <;> decide)
  · simp only [Vrt.resolution]
    split
    · intro c hc; cases hc
    · intro c hc
      simp only [List.mem_append, List.mem_cons] at hc
      rcases hc with h | rfl | h
      · exact d _ c h
      · decide
      · exact d _ c h
  · exact e (by rcases h.audio with h | h | h <;> simp only [h] <;> decide)
  · exact e (by rcases h.video with h | h | h <;> simp only [h] <;> decide)
  · exact e (by rcases h.caps with h | h | h <;> simp only [h] <;> decide)
  · exact e (by rcases h.subs with h | h | h <;> simp only [h] <;> decide)
  · exact e (by rcases h.name with h | h | h <;> simp only [h] <;> decide)
  · simp only
    split
    · intro c hc; cases hc
    · intro c hc
      rcases seconds_signs _ c hc with h | rfl | rfl
      · exact pr_digit h
      · decide
      · decide
theorem tidy_attrs (p : Bs) {all : List Attr} {L : List Bs} (hp : ∀ c ∈ p, prB c = true) (hp0 : ∃ t, p = 35 :: t) (hpl : ∀ c, p.getLast? = some c → c ≠ 32) (hg : ∀ a ∈ keep all, a.Good) (hv : ∀ x ∈ all, ∀ c ∈ x.val, prB c = true) (hL : L.Perm ((keep all).map Attr.line)) : Tidy (p ++ joined L) := by
  have hm : ∀ x ∈ L, ∃ a ∈ keep all, a.line = x := fun x hx => List.mem_map.1 (hL.mem_iff.1 hx)
  have hl : ∀ c, (joined L).getLast? = some c → c ≠ 32 := joined_last L (fun x hx => by
    obtain ⟨a, ha, rfl⟩ := hm x hx
    exact ⟨by unfold Attr.line; simp, line_last (hg a ha)⟩)
  refine ⟨fun c hc => ?_, fun c hc => ?_, fun c hc => ?_⟩
  · rcases List.mem_append.1 hc with h | h
    · exact hp c h
    · exact joined_pr L (fun x hx d hd => by
        obtain ⟨a, ha, rfl⟩ := hm x hx
        exact line_pr (hg a ha) (hv a (keep_mem ha).1) d hd) c h
  · obtain ⟨t, rfl⟩ := hp0
    simp at hc
    rw [← hc]; decide
  · rw [List.getLast?_append] at hc
    cases e : (joined L).getLast? with
    | none => rw [e] at hc; exact hpl c (by simpa using hc)
    | some d => rw [e] at hc; simp at hc; subst hc; exact hl d e
theorem tidy_uri {v : Vrt} (h : v.Good) : Tidy v.uri ∧ ∃ c t, v.uri = c :: t ∧ c ≠ 35 := by
  obtain ⟨t, ht, _, hs⟩ := h.uri
  rw [ht]
  refine ⟨⟨fun c hc => ?_, fun c hc => ?_, fun c hc => ?_⟩, 117, _, rfl, by decide⟩
  · simp only [List.mem_cons, List.mem_append, List.not_mem_nil, or_false] at hc
    rcases hc with rfl | h | rfl | rfl | rfl
    · decide
    · exact pr_sign (hs c h)
    · decide
    · decide
    · decide
  · simp at hc
    rw [← hc]; decide
  · have e : (117 :: (t ++ [46, 116, 115]) : Bs) = (117 :: t) ++ [46, 116, 115] := rfl
    rw [e, List.getLast?_append] at hc
    simp at hc
    rw [← hc]; decide
theorem tidy_m3u : Tidy tM3U := ⟨List.all_eq_true.1 (by decide), fun c hc => by have : (35 : UInt8) = c := by simpa [tM3U] using hc
                                                                                rw [← this]; decide, fun c hc => by have : (85 : UInt8) = c := by simpa [tM3U] using hc
                                                                                                                    rw [← this]; decide⟩
theorem tidy_ind : Tidy tIND := ⟨List.all_eq_true.1 (by decide), fun c hc => by have : (35 : UInt8) = c := by simpa [tIND] using hc
                                                                                rw [← this]; decide, fun c hc => by have : (83 : UInt8) = c := by simpa [tIND] using hc
                                                                                                                    rw [← this]; decide⟩
theorem tidy_ver (n : Nat) : Tidy (tVER ++ decDigits n) := by
  have d : ∀ c ∈ decDigits n, prB c = true := fun c hc => pr_digit (dec_digit _ c hc)
  refine ⟨fun c hc => ?_, fun c hc => ?_, fun c hc => ?_⟩
  · rcases List.mem_append.1 hc with h | h
    · exact List.all_eq_true.1 (by decide : tVER.all prB = true) c h
    · exact d c h
  · have : (35 : UInt8) = c := by simpa [tVER] using hc
    rw [← this]; decide
  · rw [List.getLast?_append] at hc
    cases e : (decDigits n).getLast? with
    | none => exact absurd (List.getLast?_eq_none_iff.1 e) (dec_ne n)
    | some x =>
      rw [e] at hc
      simp at hc
      subst hc
      have := dec_digit n x (List.mem_of_mem_getLast? e)
      rintro rfl
      exact absurd this.1 (by decide)
end Go.Proofs.YtelkphcbopbhoaaGreatDoor
