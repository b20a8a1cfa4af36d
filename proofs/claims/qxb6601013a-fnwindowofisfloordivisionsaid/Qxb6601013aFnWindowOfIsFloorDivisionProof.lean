/-
  Rows.FnWindowOfIsFloorDivisionSaid: the proof. The frame is the guide's shell at this function's number and types; the walk is mine.
-/
import Derived.Test.Qxb6601013aRows
import Derived.Test.Qxb6601013aWin
import Derived.WalkKit
import Derived.ProofKit
import Derived.OpenShut
import Derived.ShutString
namespace Go.Proofs.Qxb6601013a.fnWindowOfIsFloorDivision
open Go.ChangeShapes Go.WideShapes Go.ChangeAt Go.RowKit
open Go.ChangeMaps (open_string shut_string)
set_option linter.unusedVariables false      -- a walk need not use every 'w<i>' (that an integer argument fits its kind)

theorem own : ownKnob Try.prog.godebug = none := by kernel_rfl

/-! ### floorDivModel: what it computes -/
theorem floor_reflect (a m : Int) (hm : 1 ≤ m) : -((-(a + 1)) / m) - 1 = a / m := by
  have h1 := Int.mul_ediv_add_emod (-(a + 1)) m
  have h2 := Int.emod_nonneg (-(a + 1)) (b := m) (by omega)
  have h3 := Int.emod_lt_of_pos (-(a + 1)) (b := m) (by omega)
  refine (((Int.ediv_emod_unique (a := a) (b := m) (r := m - 1 - (-(a + 1)) % m) (q := -((-(a + 1)) / m) - 1) (by omega)).2 ⟨?_, by omega, by omega⟩).1).symm
  have e : m * (-((-(a + 1)) / m) - 1) = -(m * ((-(a + 1)) / m)) - m := by
    rw [Int.mul_sub, Int.mul_neg, Int.mul_one]
  omega

set_option maxHeartbeats 400000 in
theorem floorDivModel_any (a m : Int) (w : World) (ha : -9223372036854775808 ≤ a) (ha2 : a ≤ 9223372036854775807) (hm : 1 ≤ m) (hm2 : m ≤ 9223372036854775807) :
    Calls Try.prog 10 #[.int .i64 a, .int .i64 m] w fun e w' => e = .returned (.int .i64 (a / m)) ∧ w' = w := by
  have hf := Win.floor_bounds a m hm ha ha2
  by_cases h : 0 ≤ a
  · have h0 := Int.ediv_nonneg h (show (0 : Int) ≤ m by omega)
    go_enter Try.func10, Try.ntmps10
    go_wp2
    go_ret
    exact ⟨rfl, rfl⟩
  · have hr := floor_reflect a m hm
    have h0 := Int.ediv_nonneg (show 0 ≤ -(a + 1) by omega) (show (0 : Int) ≤ m by omega)
    have h1 := Int.ediv_le_self m (show 0 ≤ -(a + 1) by omega)
    have e : (-(a + 1)) / m = -((a + 1).tdiv m) := by rw [← Int.neg_tdiv, Int.tdiv_eq_ediv_of_nonneg (by omega)]
    rw [e] at hr h0 h1
    have HF : Hid (-(-((a + 1).tdiv m)) - 1 = a / m) := hr
    clear hr e
    go_enter Try.func10, Try.ntmps10
    go_wp2
    go_ret
    exact ⟨Win.ret_int (by have := HF.out; omega), rfl⟩

/-! ### The walk: the Go text returns true -/
theorem walk (a0 : Int) (a1 : Int) (w0 : (Lit.int .i64 a0).wf = true) (w1 : (Lit.int .i64 a1).wf = true) (w : World) :
    Calls Try.prog 3 #[.int .i64 a0, .int .i64 a1] w fun e w' => e = .returned (.bool true) ∧ Grown w w' := by
  have b0 := bounds_i64 w0
  have b1 := bounds_i64 w1
  by_cases h1 : a1 ≤ 0
  · go_enter Try.func3, Try.ntmps3
    go_wp2
    go_ret
    exact ⟨rfl, Grown.refl _⟩
  have hm : 1 ≤ a1 := by omega
  go_enter Try.func3, Try.ntmps3
  go_wp2_with fail
  refine (Win.zzWindowOf_any a0 a1 _ (by omega) (by omega) (by omega) (by omega)).mono ?_
  rintro e w' ⟨rfl, rfl⟩
  go_wp2_with fail
  refine (floorDivModel_any a0 a1 _ (by omega) (by omega) (by omega) (by omega)).mono ?_
  rintro e w' ⟨rfl, rfl⟩
  go_wp2
  go_ret
  exact ⟨rfl, Grown.refl _⟩

/-! ### The row's step -/
set_option maxRecDepth 100000 in
theorem lifted (os : Os) (started : os.Started) (H : Type) (enc : TypeId × Value → H) :
    ReturnsInHanded {} Try.checked os 3 .any (Rows.fnWindowOfIsFloorDivisionSpec.pre6 enc Try.prog Try.f3 Rows.fnWindowOfIsFloorDivisionRow.domain false) (Rows.fnWindowOfIsFloorDivisionSpec.post enc Try.prog Try.f3 false true false false) := by
  refine returnsInHanded_of_change (C := Try.checked) own started (by kernel_rfl) Try.func3
    (ChangeSpec.witness6 (enc := enc) (C := Try.checked) false ⟨#[], #[.int .i64 0, .int .i64 0], []⟩ 8 (by kernel_rfl) (by kernel_rfl) (by kernel_rfl) (by kernel_rfl)) ?_
  intro W base args ds gs before hval0 hW hcnd _
  have hval : ∀ (j : Nat) t v, Try.f3.params[j]? = some t → args[j]? = some v → Value.okWide Try.prog W .any base t v := hval0
  have hW' := hW
  obtain ⟨p, q, hA0, hV, rfl, hfz, hnd⟩ := hW
  have hA : DataW.TrodAll enc Try.prog W 0 (fun _ => true) true Try.f3.params.toList args.toList ds p := hA0
  rw [Try.params3] at hA hval
  obtain ⟨v0, vs0, d0, ds0, p0, q0, hargs, rfl, rfl, h0, r0⟩ := trodAll_cons hA
  obtain ⟨v1, vs1, d1, ds1, p1, q1, rfl, rfl, rfl, h1, r1⟩ := trodAll_cons r0
  obtain ⟨rfl, rfl, rfl⟩ := trodAll_nil r1
  obtain rfl : args = #[v0, v1] := by cases args; simp_all
  obtain ⟨rfl, rfl⟩ := trodVars_none hV
  obtain ⟨a0, rfl, rfl, rfl, w0⟩ := open_int Try.underlying2 (hval 0 2 v0 rfl rfl) h0
  obtain ⟨a1, rfl, rfl, rfl, w1⟩ := open_int Try.underlying2 (hval 1 2 v1 rfl rfl) h1
  clear hA0 hval0
  simp only [List.append_nil] at hW'
  refine (walk a0 a1 w0 w1 W).mono fun e W' ⟨he, hg⟩ => ?_
  subst he
  exact ⟨_, rfl, post_of_same (pa := []) (pv := []) hW' (fun _ _ _ => (trodAll_cons_mk (shut_bool Try.underlying4 _) trodAll_mk0)) (fun sp _ => (trodAll_cons_mk (shut_int Try.underlying2 w0) (trodAll_cons_mk (shut_int Try.underlying2 w1) trodAll_mk0))) (fun _ _ => rfl) rfl
    (hg.frame _) hg.2.1 (ok_one (by kernel_rfl) rfl (okWide_bool_mk Try.underlying4 _))⟩

theorem over : Rows.fnWindowOfIsFloorDivisionRow.holds Try.pinned (OpenSpec.ofChange Rows.fnWindowOfIsFloorDivisionSpec) :=
  OpenClaim.holds_of_wide 3 Try.f3 rfl rfl rfl rfl rfl rfl rfl ⟨rfl, rfl, rfl, rfl, rfl⟩ rfl rfl rfl rfl rfl (by kernel_rfl) Try.func3 (by kernel_rfl)
    (of_decide_eq_true (by kernel_rfl)) (by unfold Func.isWrapper; first | (rw [if_pos (by decide +kernel)]; kernel_rfl) | (rw [if_neg (by decide +kernel)]; exact ⟨rfl, rfl⟩))
    (fun os started H enc _ => lifted os started H enc)

/-- The statement. -/
theorem proved : Rows.FnWindowOfIsFloorDivisionSaid :=
  over
end Go.Proofs.Qxb6601013a.fnWindowOfIsFloorDivision
