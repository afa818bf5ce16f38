/-
  Bytes, trimmed, and back.
-/
import Derived.Test.YtelkphcbopbhoaaGreatDoorW14
import Derived.Test.YtelkphcbopbhoaaGreatDoorShelf
import Derived.Lib.SlBytesRow
import Derived.Lib.BufferRead
namespace Go.Proofs.YtelkphcbopbhoaaGreatDoor
open Go Go.RowKit

theorem trim_len (l : Bs) : Lib.spLo l + (Lib.trimSpace l).length ≤ l.length := by
  unfold Lib.spLo Lib.trimSpace
  have h1 := (List.dropWhile_suffix Lib.isSp (l := l)).length_le
  have h2 := (List.dropWhile_suffix Lib.isSp (l := (l.dropWhile Lib.isSp).reverse)).length_le
  rw [List.length_reverse] at h2 ⊢
  omega
theorem trim_window (l : Bs) : (l.drop (Lib.spLo l)).take (Lib.trimSpace l).length = Lib.trimSpace l := by
  have h0 : l.drop (Lib.spLo l) = l.dropWhile Lib.isSp := by
    unfold Lib.spLo
    have hs := List.dropWhile_suffix Lib.isSp (l := l)
    obtain ⟨t, ht⟩ := hs
    have hl := congrArg List.length ht
    rw [List.length_append] at hl
    conv => lhs; arg 2; rw [← ht]
    rw [show l.length - (l.dropWhile Lib.isSp).length = t.length by omega]
    simp
  rw [h0]
  unfold Lib.trimSpace
  have hs := List.dropWhile_suffix Lib.isSp (l := (l.dropWhile Lib.isSp).reverse)
  obtain ⟨t, ht⟩ := hs
  have : l.dropWhile Lib.isSp = ((l.dropWhile Lib.isSp).reverse.dropWhile Lib.isSp).reverse ++ t.reverse := by
    have := congrArg List.reverse ht
    rw [List.reverse_append, List.reverse_reverse] at this
    exact this.symm
  conv => lhs; arg 2; rw [this]
  simp

theorem conv_back (w : World) (b c : Nat) (s : ByteArray) (hb : Lib.Bytes w b 0 s) : (convert 55 9 (Lib.bytesTrimSpace b 0 c s.data.toList)).run Tryz.prog w = .ok (.string (S (Lib.trimSpace s.data.toList))) w := by
  unfold Lib.bytesTrimSpace
  split
  · rename_i h
    rw [Lib.run_convert_nil_bytes w 55 9 5 0 Tryz.underlying55 Tryz.underlying5 Tryz.underlying9]
    have : Lib.trimSpace s.data.toList = [] := by unfold Lib.trimSpace; rw [h]; rfl
    rw [this]
    rfl
  · have hl := trim_len s.data.toList
    rw [ba_size] at hl
    rw [Lib.run_convert_window w 55 5 9 Tryz.underlying55 Tryz.underlying5 Tryz.underlying9 b 0 s hb _ _ _ hl]
    congr 2
    apply S_of
    rw [Lib.extract_data, Nat.add_sub_cancel_left]
    exact trim_window _
theorem bytes_new (w : World) (s : ByteArray) : Lib.Bytes (Lib.bytesWorld w 5 s) w.heap.size 0 s := fun i hi => by
  rw [Nat.zero_add, Lib.bytesWorld_cell w 5 s i hi]
  have := ba_get s i hi (by rw [ba_size]; exact hi)
  simp [List.getD, ba_size, hi, this]
theorem trimBytes_any (b c : Nat) (s : ByteArray) (w : World) (hb : Lib.Bytes w b 0 s) (hc : s.size ≤ c) (hs : s.size ≤ 1000000) (ha : ∀ x ∈ s.data.toList, x.toNat < 128) (htab : Lib.TabIs Tryz.prog w "bytes.asciiSpace" .u8 Lib.asciiSpaceTab) :
    Calls Tryz.prog 32 #[.slice (some ⟨b, 0, none⟩) s.size c] w fun e w' => e = .returned (Lib.bytesTrimSpace b 0 c s.data.toList) ∧ w' = w := by
  have hget : ∀ i, i < s.size → (s.data.toList.map fun x => (x.toNat : Int)).getD i 0 = (s.data.toList.getD i 0).toNat := fun i hi => by
    simp [List.getD, ba_size, hi]
  have e : Lib.bytesOf (s.data.toList.map fun x => (x.toNat : Int)) = s.data.toList := by
    unfold Lib.bytesOf
    rw [List.map_map]
    conv => rhs; rw [← List.map_id s.data.toList]
    apply List.map_congr_left
    intro x _
    simp
  have := Tryz.bytes_TrimSpace b 0 s.size c (s.data.toList.map fun x => (x.toNat : Int)) w (by simp [ba_size]) hc (by omega)
    (fun i hi => by
      rw [hb i hi, hget i hi]
      have := ba_get s i hi (by rw [ba_size]; exact hi)
      simp [List.getD, ba_size, hi, this])
    (fun i hi => by
      rw [hget i hi]
      have hm : s.data.toList.getD i 0 ∈ s.data.toList := by
        simp [List.getD, ba_size, hi]
      have := ha _ hm
      omega) htab
  rwa [e] at this
end Go.Proofs.YtelkphcbopbhoaaGreatDoor
