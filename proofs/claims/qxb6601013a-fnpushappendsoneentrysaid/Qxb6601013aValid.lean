/-
  validRing: what its yes says. A power of two and its mask.
-/
import Derived.Test.Qxb6601013aClone
import Derived.Laws.BitsLemmas
namespace Go.Proofs.Qxb6601013a.Valid
open Go.RowKit Go.Proofs.Qxb6601013a.Mem Go.Proofs.Qxb6601013a.Clone

theorem and_i64 (a b : Nat) (ha : a < 9223372036854775808) (hb : b < 9223372036854775808) : bits .and .i64 (a : Int) (b : Int) = ((a &&& b : Nat) : Int) :=
  (bits_nat .i64 63 (by decide) (fun n h0 h1 => by
    have e : (2 : Int) ^ 63 = 9223372036854775808 := by decide
    rw [e] at h1
    rw [IntKind.wrap_i64]; omega) a b (by omega) (by omega)).1

/-- What validRing's yes says: N the length of at, M that of cost. -/
def Ok (N M : Nat) (c : Option Addr) (h n : Int) : Prop :=
  (0 < N → N &&& (N - 1) = 0) ∧ (c.isNone = false → M = N) ∧ 0 ≤ n ∧ n ≤ N ∧ (N = 0 → h = 0) ∧ (0 < N → 0 ≤ h ∧ h < N)

/-- It answers some bool; a yes says Ok. -/
def Ans (N M : Nat) (c : Option Addr) (h n : Int) (e : Ending) : Prop := ∃ b, e = .returned (.bool b) ∧ (b = true → Ok N M c h n)

theorem and_no (N : Nat) (h : 0 < N) (hN : N ≤ 1048576) (hb : (bits .and .i64 (N : Int) ((N : Int) - 1) != 0) = false) : N &&& (N - 1) = 0 := by
  have e : (N : Int) - 1 = ((N - 1 : Nat) : Int) := by omega
  rw [e, and_i64 N (N - 1) (by omega) (by omega)] at hb
  simpa using hb

set_option maxHeartbeats 1600000 in
theorem valid_any (a c : Option Addr) (N M c0 c1 : Nat) (h n : Int) (w : World) (hN : N ≤ 1048576) (hM : M ≤ 1048576) :
    Calls Try.prog 12 #[.slice a N c0, .slice c M c1, .int .i64 h, .int .i64 n] w fun e w' => w = w' ∧ Ans N M c h n e := by
  have hs := nqn26
  have fin : ∀ (e : Ending), e = .returned (.bool false) → Ans N M c h n e := fun e he => ⟨false, he, by simp⟩
  have yes : ∀ (e : Ending), e = .returned (.bool true) → Ok N M c h n → Ans N M c h n e := fun e he ho => ⟨true, he, fun _ => ho⟩
  have Fin := hide fin
  have Yes := hide yes
  clear fin yes
  by_cases hN0 : N = 0
  · subst hN0
    cases c with
    | none =>
      by_cases h1 : n < 0
      · go_enter Try.func12, Try.ntmps12
        go_wp2
        go_ret
        exact ⟨rfl, unhide Fin _ rfl⟩
      by_cases h2 : 0 < n
      · go_enter Try.func12, Try.ntmps12
        go_wp2
        go_ret
        exact ⟨rfl, unhide Fin _ rfl⟩
      by_cases h3 : h = 0
      · have h3' : (h == 0) = true := by simp [h3]
        have K : Hid (Ok 0 M none h n) := hide ⟨by simp, by simp, by omega, by omega, by simp [h3], by simp⟩
        clear h3
        go_enter Try.func12, Try.ntmps12
        go_wp2
        go_ret
        exact ⟨rfl, unhide Yes _ rfl (unhide K)⟩
      · have h3' : (h == 0) = false := by simp [h3]
        go_enter Try.func12, Try.ntmps12
        go_wp2
        go_ret
        exact ⟨rfl, unhide Fin _ rfl⟩
    | some g =>
      by_cases hM0 : M = 0
      · subst hM0
        by_cases h1 : n < 0
        · go_enter Try.func12, Try.ntmps12
          go_wp2
          go_ret
          exact ⟨rfl, unhide Fin _ rfl⟩
        by_cases h2 : 0 < n
        · go_enter Try.func12, Try.ntmps12
          go_wp2
          go_ret
          exact ⟨rfl, unhide Fin _ rfl⟩
        by_cases h3 : h = 0
        · have h3' : (h == 0) = true := by simp [h3]
          have K : Hid (Ok 0 0 (some g) h n) := hide ⟨by simp, by simp, by omega, by omega, by simp [h3], by simp⟩
          clear h3
          go_enter Try.func12, Try.ntmps12
          go_wp2
          go_ret
          exact ⟨rfl, unhide Yes _ rfl (unhide K)⟩
        · have h3' : (h == 0) = false := by simp [h3]
          go_enter Try.func12, Try.ntmps12
          go_wp2
          go_ret
          exact ⟨rfl, unhide Fin _ rfl⟩
      · go_enter Try.func12, Try.ntmps12
        go_wp2
        go_ret
        exact ⟨rfl, unhide Fin _ rfl⟩
  have hN1 : ((N : Int) != 0) = true := by rw [bne_iff_ne]; omega
  have hNp : 0 < N := by omega
  cases hb : (bits .and .i64 (N : Int) ((N : Int) - 1) != 0) with
  | true =>
    go_enter Try.func12, Try.ntmps12
    go_wp2
    go_ret
    exact ⟨rfl, unhide Fin _ rfl⟩
  | false =>
    have A1 := hide (and_no N hNp hN hb)
    cases c with
    | none =>
      by_cases h1 : n < 0
      · go_enter Try.func12, Try.ntmps12
        go_wp2
        go_ret
        exact ⟨rfl, unhide Fin _ rfl⟩
      by_cases h2 : (N : Int) < n
      · go_enter Try.func12, Try.ntmps12
        go_wp2
        go_ret
        exact ⟨rfl, unhide Fin _ rfl⟩
      by_cases h3 : h < 0
      · go_enter Try.func12, Try.ntmps12
        go_wp2
        go_ret
        exact ⟨rfl, unhide Fin _ rfl⟩
      by_cases h4 : h < N
      · have K : Hid (Ok N M none h n) := hide ⟨fun _ => unhide A1, by simp, by omega, by omega, by omega, by omega⟩
        go_enter Try.func12, Try.ntmps12
        go_wp2
        go_ret
        exact ⟨rfl, unhide Yes _ rfl (unhide K)⟩
      · go_enter Try.func12, Try.ntmps12
        go_wp2
        go_ret
        exact ⟨rfl, unhide Fin _ rfl⟩
    | some g =>
      by_cases hMN : M = N
      · subst hMN
        by_cases h1 : n < 0
        · go_enter Try.func12, Try.ntmps12
          go_wp2
          go_ret
          exact ⟨rfl, unhide Fin _ rfl⟩
        by_cases h2 : (M : Int) < n
        · go_enter Try.func12, Try.ntmps12
          go_wp2
          go_ret
          exact ⟨rfl, unhide Fin _ rfl⟩
        by_cases h3 : h < 0
        · go_enter Try.func12, Try.ntmps12
          go_wp2
          go_ret
          exact ⟨rfl, unhide Fin _ rfl⟩
        by_cases h4 : h < M
        · have K : Hid (Ok M M (some g) h n) := hide ⟨fun _ => unhide A1, by simp, by omega, by omega, by omega, by omega⟩
          go_enter Try.func12, Try.ntmps12
          go_wp2
          go_ret
          exact ⟨rfl, unhide Yes _ rfl (unhide K)⟩
        · go_enter Try.func12, Try.ntmps12
          go_wp2
          go_ret
          exact ⟨rfl, unhide Fin _ rfl⟩
      · have hMN' : ((M : Int) != (N : Int)) = true := by rw [bne_iff_ne]; omega
        go_enter Try.func12, Try.ntmps12
        go_wp2
        go_ret
        exact ⟨rfl, unhide Fin _ rfl⟩
end Go.Proofs.Qxb6601013a.Valid
