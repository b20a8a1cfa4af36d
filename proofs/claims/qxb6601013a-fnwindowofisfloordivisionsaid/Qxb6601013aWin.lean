/-
  windowOf and ZZWindowOf: what they compute: the floor of at/window. The plain law, then the walk.
-/
import Derived.Test.Qxb6601013aRows
import Derived.WalkKit
import Derived.ProofKit
namespace Go.Proofs.Qxb6601013a.Win
open Go.RowKit

/-! ### The plain law -/
theorem floor_eq (a m : Int) (hm : 1 ≤ m) : a / m = if a.tmod m < 0 then a.tdiv m - 1 else a.tdiv m := by
  rw [Int.tdiv_eq_ediv, Int.tmod_eq_emod]
  have h4 := Int.emod_nonneg a (b := m) (by omega)
  have h5 := Int.emod_lt_of_pos a (b := m) (by omega)
  have hs : m.sign = 1 := Int.sign_eq_one_of_pos (by omega)
  have hab : (m.natAbs : Int) = m := by omega
  by_cases h : 0 ≤ a ∨ m ∣ a
  · rw [if_pos h, if_pos h, if_neg (by omega)]; omega
  · rw [if_neg h, if_neg h, hs, hab]
    rw [if_pos (by omega)]; omega
theorem tdiv_bounds (a m : Int) (hm : 1 ≤ m) (h1 : -9223372036854775808 ≤ a) (h2 : a ≤ 9223372036854775807) :
    -9223372036854775808 ≤ a.tdiv m ∧ a.tdiv m ≤ 9223372036854775807 := by
  by_cases h : 0 ≤ a
  · rw [Int.tdiv_eq_ediv_of_nonneg h]
    have := Int.ediv_nonneg h (show (0 : Int) ≤ m by omega)
    have := Int.ediv_le_self m h
    omega
  · have h3 : a = -(-a) := by omega
    rw [h3, Int.neg_tdiv]
    have hh : 0 ≤ -a := by omega
    rw [Int.tdiv_eq_ediv_of_nonneg hh]
    have := Int.ediv_nonneg hh (show (0 : Int) ≤ m by omega)
    have := Int.ediv_le_self m hh
    omega
theorem floor_bounds (a m : Int) (hm : 1 ≤ m) (h1 : -9223372036854775808 ≤ a) (h2 : a ≤ 9223372036854775807) :
    -9223372036854775808 ≤ a / m ∧ a / m ≤ 9223372036854775807 := by
  refine ⟨?_, ?_⟩
  · rw [Int.le_ediv_iff_mul_le (by omega)]
    have : (9223372036854775808 : Int) * 1 ≤ 9223372036854775808 * m := Int.mul_le_mul_of_nonneg_left hm (by omega)
    omega
  · by_cases h : 0 ≤ a
    · have := Int.ediv_le_self m h; omega
    · have := Int.ediv_neg_of_neg_of_pos (show a < 0 by omega) (show 0 < m by omega); omega
theorem ret_int {k : IntKind} {a b : Int} (h : a = b) : Ending.returned (.int k a) = .returned (.int k b) := by rw [h]

/-! ### The walk -/
set_option maxHeartbeats 400000 in
theorem windowOf_any (a m : Int) (w : World) (ha : -9223372036854775808 ≤ a) (ha2 : a ≤ 9223372036854775807) (hm : 1 ≤ m) (hm2 : m ≤ 9223372036854775807) :
    Calls Try.prog 24 #[.int .i64 a, .int .i64 m] w fun e w' => e = .returned (.int .i64 (a / m)) ∧ w' = w := by
  have hb := tdiv_bounds a m hm ha ha2
  have hf := floor_bounds a m hm ha ha2
  have hq := floor_eq a m hm
  by_cases h : a.tmod m < 0
  · rw [if_pos h] at hq
    have hl : -9223372036854775808 ≤ a.tdiv m - 1 := by omega
    have HF : Hid (a / m = a.tdiv m - 1) := hq
    clear hq hf
    go_enter Try.func24, Try.ntmps24
    go_wp2
    go_ret
    exact ⟨ret_int HF.out.symm, rfl⟩
  · rw [if_neg h] at hq
    have HF : Hid (a / m = a.tdiv m) := hq
    clear hq hf
    go_enter Try.func24, Try.ntmps24
    go_wp2
    go_ret
    exact ⟨ret_int HF.out.symm, rfl⟩

theorem zzWindowOf_any (a m : Int) (w : World) (ha : -9223372036854775808 ≤ a) (ha2 : a ≤ 9223372036854775807) (hm : 1 ≤ m) (hm2 : m ≤ 9223372036854775807) :
    Calls Try.prog 9 #[.int .i64 a, .int .i64 m] w fun e w' => e = .returned (.int .i64 (a / m)) ∧ w' = w := by
  go_enter Try.func9, Try.ntmps9
  go_wp2_with fail
  refine (windowOf_any a m _ ha ha2 hm hm2).mono ?_
  rintro e w' ⟨rfl, rfl⟩
  go_wp2
  go_ret
  exact ⟨rfl, rfl⟩
end Go.Proofs.Qxb6601013a.Win
