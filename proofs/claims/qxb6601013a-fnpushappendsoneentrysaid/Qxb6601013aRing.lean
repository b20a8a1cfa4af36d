/-
  Rings, plainly: what a push and a doubling do to the entries; powers of two and their masks.
-/
import Derived.Test.Qxb6601013aGrown
import Derived.Test.Qxb6601013aValid
namespace Go.Proofs.Qxb6601013a.Ring
open Go.RowKit Go.Proofs.Qxb6601013a.Mem Go.Proofs.Qxb6601013a.Grown

theorem mod_ne (h i n N : Nat) (hi : i < n) (hn : n < N) : (h + i) % N ≠ (h + n) % N := by
  intro e
  have h1 := Nat.sub_mod_eq_zero_of_mod_eq e.symm
  have h2 : h + n - (h + i) = n - i := by omega
  rw [h2, Nat.mod_eq_of_lt (by omega)] at h1
  omega

theorem view_succ (N : Nat) (A : List Int) (h n : Nat) : view N A h (n + 1) = view N A h n ++ [A[(h + n) % N]?.getD 0] := by
  simp [view, List.range_succ]

theorem view_congr (N N' : Nat) (A A' : List Int) (h h' n : Nat) (H : ∀ i, i < n → A[(h + i) % N]?.getD 0 = A'[(h' + i) % N']?.getD 0) : view N A h n = view N' A' h' n := by
  unfold view
  exact List.map_congr_left fun i hi => H i (by simpa using hi)

/-- A push into a ring that is not full. -/
theorem view_push (N : Nat) (A : List Int) (h n : Nat) (x : Int) (hA : A.length = N) (hn : n < N) : view N (A.set ((h + n) % N) x) h (n + 1) = view N A h n ++ [x] := by
  have hs : (h + n) % N < A.length := by rw [hA]; exact Nat.mod_lt _ (by omega)
  rw [view_succ, view_congr N N (A.set ((h + n) % N) x) A h h n fun i hi => by rw [List.getElem?_set_ne (Ne.symm (mod_ne h i n N hi hn))]]
  congr 2
  rw [List.getElem?_set_self hs]
  rfl

theorem view_ones (N h n : Nat) (hN : 0 < N) : view N (List.replicate N 1) h n = List.replicate n 1 := by
  apply List.ext_getElem
  · simp [view]
  · intro i h1 h2
    simp [view, Nat.mod_lt _ hN]

/-- The doubled ring holds the same entries from index 0. -/
theorem view_big (N : Nat) (A : List Int) (h G : Nat) (hA : A.length = N) (hh : 0 < N → h < N) (hG : N ≤ G) : view G (big A h G) 0 N = view N A h N := by
  refine view_congr _ _ _ _ _ _ _ fun i hi => ?_
  have hh' := hh (by omega)
  rw [Nat.zero_add, Nat.mod_eq_of_lt (show i < G by omega)]
  have l1 : (A.drop h).length = N - h := by simp; omega
  have l2 : (A.take h).length = h := by simp; omega
  unfold big
  by_cases hi2 : i < N - h
  · rw [List.getElem?_append_left (by omega), Nat.mod_eq_of_lt (show h + i < N by omega)]
    simp
  · have e : (h + i) % N = i - (N - h) := by
      rw [Nat.mod_eq_sub_mod (by omega), Nat.mod_eq_of_lt (by omega)]; omega
    rw [List.getElem?_append_right (by omega), l1, List.getElem?_append_left (by omega), List.getElem?_take, if_pos (by omega), e]

/-- The costs of the entries: ones where none are kept. -/
def cv (N : Nat) (c : Option Addr) (C : List Int) (h n : Nat) : List Int := if c.isNone then List.replicate n 1 else view N C h n

theorem ones_snoc (n : Nat) : List.replicate (n + 1) (1 : Int) = List.replicate n 1 ++ [1] := List.replicate_succ'

/-! ### Powers of two -/
def Pow (N : Nat) : Prop := ∃ k, N = 2 ^ k

theorem pow_of_and (N : Nat) (h : 0 < N) (hb : N &&& (N - 1) = 0) : Pow N := by
  have := (Nat.and_sub_one_eq_zero_iff_isPowerOfTwo (n := N) (by omega)).1 hb
  exact this

theorem pow_room (N : Nat) (h : N = 0 ∨ Pow N) : Pow (room N) := by
  by_cases h4 : 2 * N ≤ 4
  · exact ⟨2, room_b N h4⟩
  · rcases h with h | ⟨k, rfl⟩
    · omega
    · exact ⟨k + 1, by rw [room_a _ (by omega), Nat.pow_succ, Nat.mul_comm]⟩

theorem room_lt (N : Nat) : N < room N := by unfold room; omega
theorem room_le (N : Nat) (h : N ≤ 524288) : room N ≤ 1048576 := by unfold room; omega

theorem mask (N h n : Nat) (hp : Pow N) (hN : N ≤ 1048576) (hh : h ≤ N) (hn : n ≤ N) : bits .and .i64 ((h : Int) + (n : Int)) ((N : Int) - 1) = (((h + n) % N : Nat) : Int) := by
  obtain ⟨k, hk⟩ := hp
  have h0 : 0 < N := by rw [hk]; exact Nat.two_pow_pos k
  have e1 : (h : Int) + (n : Int) = ((h + n : Nat) : Int) := by omega
  have e2 : (N : Int) - 1 = ((N - 1 : Nat) : Int) := by omega
  rw [e1, e2, Valid.and_i64 _ _ (by omega) (by omega), hk, Nat.and_two_pow_sub_one_eq_mod]
end Go.Proofs.Qxb6601013a.Ring
