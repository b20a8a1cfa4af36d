/-
  The bounds on total length (zzBytes..): what a yes says.
-/
import Derived.Test.Qxb6601013aMem
namespace Go.Proofs.Qxb6601013a.Bytes
open Go.RowKit Go.Proofs.Qxb6601013a.Mem

def Ans (N M : Nat) (e : Ending) : Prop := ∃ b, e = .returned (.bool b) ∧ (b = true → N ≤ 1048576 ∧ M ≤ 1048576)
theorem no (N M : Nat) : Ans N M (.returned (.bool false)) := ⟨false, rfl, by simp⟩
theorem yes (N M : Nat) (h1 : N ≤ 1048576) (h2 : M ≤ 1048576) : Ans N M (.returned (.bool true)) := ⟨true, rfl, fun _ => ⟨h1, h2⟩⟩

set_option maxHeartbeats 400000 in
theorem bytes11_any (a c : Option Addr) (N M c0 c1 : Nat) (i0 : Int) (i1 : Int) (i2 : Int) (i3 : Int) (i4 : Int) (w : World) (hN : N ≤ maxLen) (hM : M ≤ maxLen) :
    Calls Try.prog 11 #[.slice a N c0, .slice c M c1, .int .i64 i0, .int .i64 i1, .int .i64 i2, .int .i64 i3, .int .i64 i4] w fun e w' => w = w' ∧ Ans N M e := by
  unfold maxLen at hN hM
  by_cases h1 : 1048576 < N
  · go_enter Try.func11, Try.ntmps11
    go_wp2
    go_ret
    exact ⟨rfl, no N M⟩
  by_cases h2 : 1048576 < M
  · go_enter Try.func11, Try.ntmps11
    go_wp2
    go_ret
    exact ⟨rfl, no N M⟩
  by_cases h3 : 1048576 < N + M
  · go_enter Try.func11, Try.ntmps11
    go_wp2
    go_ret
    exact ⟨rfl, no N M⟩
  · go_enter Try.func11, Try.ntmps11
    go_wp2
    go_ret
    exact ⟨rfl, yes N M (by omega) (by omega)⟩

set_option maxHeartbeats 400000 in
theorem bytes21_any (a c : Option Addr) (N M c0 c1 : Nat) (w : World) (hN : N ≤ maxLen) (hM : M ≤ maxLen) :
    Calls Try.prog 21 #[.slice a N c0, .slice c M c1] w fun e w' => w = w' ∧ Ans N M e := by
  unfold maxLen at hN hM
  by_cases h1 : 1048576 < N
  · go_enter Try.func21, Try.ntmps21
    go_wp2
    go_ret
    exact ⟨rfl, no N M⟩
  by_cases h2 : 1048576 < M
  · go_enter Try.func21, Try.ntmps21
    go_wp2
    go_ret
    exact ⟨rfl, no N M⟩
  by_cases h3 : 1048576 < N + M
  · go_enter Try.func21, Try.ntmps21
    go_wp2
    go_ret
    exact ⟨rfl, no N M⟩
  · go_enter Try.func21, Try.ntmps21
    go_wp2
    go_ret
    exact ⟨rfl, yes N M (by omega) (by omega)⟩

set_option maxHeartbeats 400000 in
theorem bytes22_any (a c : Option Addr) (N M c0 c1 : Nat) (i0 : Int) (i1 : Int) (i2 : Int) (w : World) (hN : N ≤ maxLen) (hM : M ≤ maxLen) :
    Calls Try.prog 22 #[.slice a N c0, .slice c M c1, .int .i64 i0, .int .i64 i1, .int .i64 i2] w fun e w' => w = w' ∧ Ans N M e := by
  unfold maxLen at hN hM
  by_cases h1 : 1048576 < N
  · go_enter Try.func22, Try.ntmps22
    go_wp2
    go_ret
    exact ⟨rfl, no N M⟩
  by_cases h2 : 1048576 < M
  · go_enter Try.func22, Try.ntmps22
    go_wp2
    go_ret
    exact ⟨rfl, no N M⟩
  by_cases h3 : 1048576 < N + M
  · go_enter Try.func22, Try.ntmps22
    go_wp2
    go_ret
    exact ⟨rfl, no N M⟩
  · go_enter Try.func22, Try.ntmps22
    go_wp2
    go_ret
    exact ⟨rfl, yes N M (by omega) (by omega)⟩
end Go.Proofs.Qxb6601013a.Bytes
