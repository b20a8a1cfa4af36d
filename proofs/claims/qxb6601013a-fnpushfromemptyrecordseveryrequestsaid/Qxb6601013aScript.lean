/-
  A script of requests, plainly: the wanted costs, the room that a ring takes after so many pushes.
-/
import Derived.Test.Qxb6601013aPush
namespace Go.Proofs.Qxb6601013a.Script
open Go.RowKit Go.Proofs.Qxb6601013a.Mem Go.Proofs.Qxb6601013a.Grown Go.Proofs.Qxb6601013a.Ring Go.Proofs.Qxb6601013a.Push Go.Proofs.Qxb6601013a.Log

/-- The cost of request i: what is listed, or 1 past the end. -/
def want (C : List Int) (K : Nat) : List Int := (List.range K).map fun i => C[i]?.getD 1
theorem want_len (C : List Int) (K : Nat) : (want C K).length = K := by simp [want]
theorem want_at (C : List Int) (K i : Nat) (hi : i < K) : (want C K)[i]?.getD 0 = C[i]?.getD 1 := by simp [want, hi]

/-- Every cost is 1. -/
def ones (L : List Int) : Bool := L.all (· == 1)
theorem take_snoc (L : List Int) (j : Nat) (h : j < L.length) : L.take (j + 1) = L.take j ++ [L[j]?.getD 0] := by
  rw [List.take_succ_eq_append_getElem h]; simp [h]
theorem ones_take (L : List Int) (j : Nat) (h : j < L.length) : ones (L.take (j + 1)) = (ones (L.take j) && (L[j]?.getD 0 == 1)) := by
  rw [take_snoc L j h]; simp [ones]

/-- The length of the ring after j pushes into an empty one. -/
def capOf : Nat → Nat
  | 0 => 0
  | j + 1 => next (capOf j) j
theorem capOf_succ (j : Nat) : capOf (j + 1) = next (capOf j) j := rfl

theorem capOf_le : ∀ j, j ≤ capOf j ∧ capOf j ≤ 2 * j + 4 ∧ (capOf j = 0 ∨ Pow (capOf j))
  | 0 => ⟨Nat.le_refl _, by simp [capOf], .inl rfl⟩
  | j + 1 => by
    obtain ⟨h1, h2, h3⟩ := capOf_le j
    rw [capOf_succ]
    unfold next
    by_cases e : j = capOf j
    · rw [if_pos e]
      have hr := room_lt (capOf j)
      refine ⟨by omega, ?_, .inr (pow_room _ h3)⟩
      unfold room; omega
    · rw [if_neg e]
      exact ⟨by omega, by omega, h3⟩

/-- From the first push on it is 4 times a power of two, and no longer than it must be. -/
def Least (K G : Nat) : Prop := (∃ m, G = 4 * 2 ^ m) ∧ (G = 4 ∨ G < 2 * K)

theorem capOf_least : ∀ j, Least (j + 1) (capOf (j + 1))
  | 0 => by
    have e : capOf 1 = 4 := rfl
    rw [e]
    exact ⟨⟨0, rfl⟩, .inl rfl⟩
  | j + 1 => by
    obtain ⟨⟨m, hm⟩, h⟩ := capOf_least j
    rw [capOf_succ (j + 1)]
    unfold next
    by_cases e : j + 1 = capOf (j + 1)
    · rw [if_pos e]
      have hp : 0 < 2 ^ m := Nat.two_pow_pos m
      have hr : room (capOf (j + 1)) = 2 * capOf (j + 1) := room_a _ (by omega)
      rw [hr]
      exact ⟨⟨m + 1, by rw [hm, Nat.pow_succ]; omega⟩, .inr (by omega)⟩
    · rw [if_neg e]
      exact ⟨⟨m, hm⟩, by omega⟩

theorem least_unique (K G G' : Nat) (h : Least K G) (h' : Least K G') (hG : K ≤ G) (hG' : K ≤ G') : G = G' := by
  obtain ⟨⟨m, rfl⟩, h⟩ := h
  obtain ⟨⟨m', rfl⟩, h'⟩ := h'
  rcases Nat.lt_trichotomy m m' with e | e | e
  · have : 2 ^ (m + 1) ≤ 2 ^ m' := Nat.pow_le_pow_right (by omega) e
    rw [Nat.pow_succ] at this
    have hp : 0 < 2 ^ m := Nat.two_pow_pos m
    omega
  · rw [e]
  · have : 2 ^ (m' + 1) ≤ 2 ^ m := Nat.pow_le_pow_right (by omega) e
    rw [Nat.pow_succ] at this
    have hp : 0 < 2 ^ m' := Nat.two_pow_pos m'
    omega

theorem least_double (K G : Nat) (h : Least K G) (hG : G < K) : Least K (2 * G) := by
  obtain ⟨⟨m, rfl⟩, _⟩ := h
  exact ⟨⟨m + 1, by rw [Nat.pow_succ]; omega⟩, .inr (by omega)⟩

theorem least_four (K : Nat) : Least K 4 := ⟨⟨0, rfl⟩, .inl rfl⟩

/-- The same state, told from an earlier world on. -/
theorem Holds.base {S : Nat → Prop} {w w1 : World} {l N h n : Nat} {t : Int} {nl : Bool} {V K : List Int} {w' : World} (H : Holds S w1 l N h n t nl V K w') (hk : Keeps S w w1) : Holds S w l N h n t nl V K w' := by
  obtain ⟨a, c, M, A, C, q1, q2, q3, q4, q5, q6, q7, q8, q9, q10, q11, q12⟩ := H
  have hz := hk.size
  refine ⟨a, c, M, A, C, q1, q2, q3, q4, q5, q6, q7, q8, q9, hk.trans q10 (fun k e => .inl e), fun y hy => ?_, fun y hy => ?_⟩
  · rcases q11 y hy with e | e
    · exact .inl e
    · exact .inr (by omega)
  · rcases q12 y hy with e | e
    · exact .inl e
    · exact .inr (by omega)

theorem nexth_zero (N n : Nat) : nexth N 0 n = 0 := by unfold nexth; split <;> rfl
end Go.Proofs.Qxb6601013a.Script
