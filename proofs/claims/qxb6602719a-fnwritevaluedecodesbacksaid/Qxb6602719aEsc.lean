/-
  Escaping, plainly: what writeValue writes.
-/
import Derived.Test.Qxb6602719aFold
import Derived.Shelf.Strings.Builder1
namespace Go.Proofs.Qxb6602719a.Esc
open Go.RowKit

/-- The characters that are escaped wherever they stand. -/
def special (c : UInt8) : Prop := c = 34 ∨ c = 43 ∨ c = 44 ∨ c = 59 ∨ c = 60 ∨ c = 62 ∨ c = 92
theorem special_dec (c : UInt8) : special c ∨ ¬ special c := Classical.em _

/-- What is written for the byte c at place i of n. -/
def encAt (n i : Nat) (c : UInt8) : List UInt8 :=
  if c = 34 ∨ c = 43 ∨ c = 44 ∨ c = 59 ∨ c = 60 ∨ c = 62 ∨ c = 92 then [92, c]
  else if c = 32 then (if i = 0 ∨ i + 1 = n then [92, 32] else [32])
  else if c = 35 then (if i = 0 then [92, 35] else [35])
  else if c = 0 then [92, 48, 48]
  else [c]

theorem encAt_special (n i : Nat) (c : UInt8) (h : special c) : encAt n i c = [92, c] := if_pos h
theorem encAt_space_edge (n i : Nat) (h : i = 0 ∨ i + 1 = n) : encAt n i 32 = [92, 32] := by
  unfold encAt; rw [if_neg (by decide), if_pos rfl, if_pos h]
theorem encAt_space_mid (n i : Nat) (h : ¬ (i = 0 ∨ i + 1 = n)) : encAt n i 32 = [32] := by
  unfold encAt; rw [if_neg (by decide), if_pos rfl, if_neg h]
theorem encAt_hash_first (n i : Nat) (h : i = 0) : encAt n i 35 = [92, 35] := by
  unfold encAt; rw [if_neg (by decide), if_neg (by decide), if_pos rfl, if_pos h]
theorem encAt_hash_later (n i : Nat) (h : ¬ i = 0) : encAt n i 35 = [35] := by
  unfold encAt; rw [if_neg (by decide), if_neg (by decide), if_pos rfl, if_neg h]
theorem encAt_zero (n i : Nat) : encAt n i 0 = [92, 48, 48] := by
  unfold encAt; rw [if_neg (by decide), if_neg (by decide), if_neg (by decide), if_pos rfl]
theorem encAt_plain (n i : Nat) (c : UInt8) (h : ¬ special c) (h1 : c ≠ 32) (h2 : c ≠ 35) (h3 : c ≠ 0) : encAt n i c = [c] := by
  unfold special at h
  unfold encAt; rw [if_neg h, if_neg h1, if_neg h2, if_neg h3]

theorem encAt_len (n i : Nat) (c : UInt8) : 1 ≤ (encAt n i c).length ∧ (encAt n i c).length ≤ 3 := by
  unfold encAt
  repeat' split
  all_goals simp

/-- What has been written behind the first k bytes. -/
def encTo (l : List UInt8) : Nat → List UInt8
  | 0 => []
  | k + 1 => encTo l k ++ encAt l.length k (l[k]?.getD 0)

theorem encTo_succ (l : List UInt8) (k : Nat) : encTo l (k + 1) = encTo l k ++ encAt l.length k (l[k]?.getD 0) := rfl

theorem encTo_len (l : List UInt8) : ∀ k, k ≤ (encTo l k).length ∧ (encTo l k).length ≤ 3 * k
  | 0 => ⟨Nat.le_refl _, Nat.le_refl _⟩
  | k + 1 => by
    have h := encTo_len l k
    have h2 := encAt_len l.length k (l[k]?.getD 0)
    rw [encTo_succ, List.length_append]
    omega

theorem encTo_split (l : List UInt8) (k : Nat) : ∀ d, ∃ rest, encTo l (k + d) = encTo l k ++ rest ∧ d ≤ rest.length
  | 0 => ⟨[], by simp, Nat.le_refl _⟩
  | d + 1 => by
    obtain ⟨rest, h1, h2⟩ := encTo_split l k d
    have h3 := encAt_len l.length (k + d) (l[k + d]?.getD 0)
    exact ⟨rest ++ encAt l.length (k + d) (l[k + d]?.getD 0), by rw [← Nat.add_assoc, encTo_succ, h1, List.append_assoc], by rw [List.length_append]; omega⟩

/-- At the place where byte j's piece begins: the piece, then the rest, which is empty just behind the last byte. -/
theorem enc_piece (l : List UInt8) (j : Nat) (hj : j < l.length) : ∃ rest, encTo l l.length = encTo l j ++ (encAt l.length j (l[j]?.getD 0) ++ rest) ∧ (j + 1 < l.length → 0 < rest.length) := by
  obtain ⟨rest, h1, h2⟩ := encTo_split l (j + 1) (l.length - (j + 1))
  rw [show j + 1 + (l.length - (j + 1)) = l.length from by omega] at h1
  exact ⟨rest, by rw [h1, encTo_succ, List.append_assoc], fun h => by omega⟩

/-- The byte at a place of a string that is made of a list. -/
theorem byteAt_list (l : List UInt8) (p : Nat) (c : UInt8) (h : l[p]? = some c) : Fold.byteAt ⟨l.toArray⟩ p = (c.toNat : Int) := by
  have hp : p < l.length := (List.getElem?_eq_some_iff.1 h).1
  have hs : (⟨l.toArray⟩ : ByteArray).size = l.length := by simp [ByteArray.size]
  unfold Fold.byteAt
  rw [dif_pos (by omega)]
  have e : (⟨l.toArray⟩ : ByteArray)[p]'(by omega) = l[p] := rfl
  rw [e]
  have : l[p] = c := by
    have := h
    rw [List.getElem?_eq_getElem hp] at this
    simpa using this
  rw [this]

theorem at_piece (a b r : List UInt8) (i : Nat) (hi : i < b.length) : (a ++ (b ++ r))[a.length + i]? = b[i]? := by
  rw [List.getElem?_append_right (by omega), Nat.add_sub_cancel_left, List.getElem?_append_left hi]

theorem byteCells_snoc (l : List UInt8) (c : UInt8) : Lib.byteCells (l ++ [c]) = Lib.byteCells l ++ [.int .u8 c.toNat] := by simp [Lib.byteCells]
end Go.Proofs.Qxb6602719a.Esc
