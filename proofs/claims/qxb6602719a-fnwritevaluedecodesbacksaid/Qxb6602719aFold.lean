/-
  equalFoldASCII: what it computes.
-/
import Derived.Test.Qxb6602719aRows
import Derived.WalkKit
import Derived.ProofKit
import Derived.Deep.QuietTactic
import Derived.BigQuiet
import Derived.ChangeAlike
namespace Go.Proofs.Qxb6602719a.Fold
open Go.RowKit

theorem hide {p : Prop} (h : p) : Hid p := h
theorem unhide {p : Prop} (h : Hid p) : p := h

/-- lowerASCII -/
def low (c : Int) : Int := if 65 ≤ c ∧ c ≤ 90 then c + 32 else c

set_option maxHeartbeats 400000 in
theorem lower_any (c : Int) (w : World) (h0 : 0 ≤ c) (h1 : c ≤ 255) : Calls Try.prog 33 #[.int .u8 c] w fun e w' => e = .returned (.int .u8 (low c)) ∧ w' = w := by
  by_cases h2 : 65 ≤ c
  · by_cases h3 : c ≤ 90
    · have e : low c = c + 32 := if_pos ⟨h2, h3⟩
      rw [e]
      go_enter Try.func33, Try.ntmps33
      go_wp2
      go_ret
      exact ⟨rfl, rfl⟩
    · have e : low c = c := if_neg (by omega)
      rw [e]
      go_enter Try.func33, Try.ntmps33
      go_wp2
      go_ret
      exact ⟨rfl, rfl⟩
  · have e : low c = c := if_neg (by omega)
    rw [e]
    go_enter Try.func33, Try.ntmps33
    go_wp2
    go_ret
    exact ⟨rfl, rfl⟩

/-- The byte at place i. -/
def byteAt (a : ByteArray) (i : Nat) : Int := if h : i < a.size then ((a[i]).toNat : Int) else 0
theorem byteAt_eq (a : ByteArray) (i : Nat) (h : i < a.size) : ((a[i]).toNat : Int) = byteAt a i := by simp [byteAt, h]
theorem byteAt_bd (a : ByteArray) (i : Nat) : 0 ≤ byteAt a i ∧ byteAt a i ≤ 255 := by
  unfold byteAt
  split
  · have := (a[i]).toNat_lt; omega
  · omega

/-- equalFoldASCII -/
def fold (a b : ByteArray) : Bool := decide (a.size = b.size ∧ ∀ i, i < a.size → low (byteAt a i) = low (byteAt b i))

theorem fold_no (a b : ByteArray) (h : a.size ≠ b.size) : fold a b = false := decide_eq_false fun e => h e.1
theorem fold_bad (a b : ByteArray) (k : Nat) (hk : k < a.size) (h : low (byteAt a k) ≠ low (byteAt b k)) : fold a b = false := decide_eq_false fun e => h (e.2 k hk)
theorem fold_yes (a b : ByteArray) (h : a.size = b.size) (hk : ∀ i, i < a.size → low (byteAt a i) = low (byteAt b i)) : fold a b = true := decide_eq_true ⟨h, hk⟩

set_option maxHeartbeats 800000 in
theorem equalFold_any (a b : ByteArray) (w : World) (_ha : a.size ≤ 1048576) (hb : b.size ≤ 1048576) :
    Calls Try.prog 27 #[.string a, .string b] w fun e w' => e = .returned (.bool (fold a b)) ∧ w'.Alike w := by
  by_cases hab : a.size = b.size
  · have Hab := hide hab
    have h1 : ((a.size : Int) != (b.size : Int)) = false := by simp [hab]
    have hle : a.size ≤ b.size := by omega
    clear hab
    go_enter Try.func27, Try.ntmps27
    go_wp2
    go_loopw [13] (fun i wr => ∃ k : Nat, k ≤ a.size ∧ i = .int .i64 k ∧ Hid (∀ j, j < k → low (byteAt a j) = low (byteAt b j)) ∧ wr.Alike w) (fun i _ => a.size - (intOf i).toNat)
    case atStart => exact ⟨0, Nat.zero_le _, rfl, hide (fun j hj => by omega), rfl, rfl, rfl⟩
    case round =>
      obtain ⟨k, hk, rfl, HE, hal⟩ := hrel
      by_cases hlt : k < a.size
      · have hlt2 : k < b.size := by omega
        have b1 := byteAt_bd a k
        have b2 := byteAt_bd b k
        have e1 := byteAt_eq a k hlt
        have e2 := byteAt_eq b k hlt2
        cases hq : (low (byteAt a k) != low (byteAt b k)) with
        | true =>
          have HF := hide (fold_bad a b k hlt (by simpa [bne] using hq))
          go_wp2
          go_quiet ((go_at_call 33; exact Calls.quiet_of_same (lower_any _ _ (by omega) (by omega))))
          go_wp2
          go_ret
          exact ⟨by rw [unhide HF]; rfl, hal.1, hal.2.1, hal.2.2⟩
        | false =>
          have HE2 := hide (show ∀ j, j < k + 1 → low (byteAt a j) = low (byteAt b j) from fun j hj => by
            by_cases e : j = k
            · rw [e]; simpa [bne] using hq
            · exact unhide HE j (by omega))
          go_wp2
          go_quiet ((go_at_call 33; exact Calls.quiet_of_same (lower_any _ _ (by omega) (by omega))))
          go_wp2
          go_roundw
          case rel => exact ⟨k + 1, by omega, by go_num, HE2, hal.1, hal.2.1, hal.2.2⟩
          case measure => simp [intOf]; omega
      · have HF := hide (fold_yes a b (unhide Hab) (fun i hi => unhide HE i (by omega)))
        go_wp2
        go_ret
        exact ⟨by rw [unhide HF]; rfl, hal⟩
  · have h1 : ((a.size : Int) != (b.size : Int)) = true := by rw [bne_iff_ne]; omega
    have HF := hide (fold_no a b hab)
    go_enter Try.func27, Try.ntmps27
    go_wp2
    go_ret
    exact ⟨by rw [unhide HF]; rfl, rfl, rfl, rfl⟩

theorem zzFold_any (a b : ByteArray) (w : World) (ha : a.size ≤ 1048576) (hb : b.size ≤ 1048576) :
    Calls Try.prog 13 #[.string a, .string b] w fun e w' => e = .returned (.bool (fold a b)) ∧ w'.Alike w := by
  go_enter Try.func13, Try.ntmps13
  go_wp2_with fail
  refine (equalFold_any a b _ ha hb).mono ?_
  rintro e w' ⟨rfl, h⟩
  go_wp2
  go_ret
  exact ⟨rfl, h⟩

def Ans (A B C : Nat) (e : Ending) : Prop := ∃ b, e = .returned (.bool b) ∧ (b = true → A ≤ 1048576 ∧ B ≤ 1048576 ∧ C ≤ 1048576)
theorem no (A B C : Nat) : Ans A B C (.returned (.bool false)) := ⟨false, rfl, by simp⟩
theorem yes (A B C : Nat) (h1 : A ≤ 1048576) (h2 : B ≤ 1048576) (h3 : C ≤ 1048576) : Ans A B C (.returned (.bool true)) := ⟨true, rfl, fun _ => ⟨h1, h2, h3⟩⟩

set_option maxRecDepth 100000 in
set_option maxHeartbeats 800000 in
theorem bytes_any (a b c : ByteArray) (w : World) (ha : a.size ≤ maxLen) (hb : b.size ≤ maxLen) (hc : c.size ≤ maxLen) :
    Calls Try.prog 12 #[.string a, .string b, .string c] w fun e w' => w = w' ∧ Ans a.size b.size c.size e := by
  unfold maxLen at ha hb hc
  by_cases h1 : 1048576 < a.size
  · go_enter Try.func12, Try.ntmps12
    go_wp2
    go_ret
    exact ⟨rfl, no _ _ _⟩
  by_cases h2 : 1048576 < b.size
  · go_enter Try.func12, Try.ntmps12
    go_wp2
    go_ret
    exact ⟨rfl, no _ _ _⟩
  by_cases h3 : 1048576 < a.size + b.size
  · go_enter Try.func12, Try.ntmps12
    go_wp2
    go_ret
    exact ⟨rfl, no _ _ _⟩
  by_cases h4 : 1048576 < c.size
  · go_enter Try.func12, Try.ntmps12
    go_wp2
    go_ret
    exact ⟨rfl, no _ _ _⟩
  by_cases h5 : 1048576 < a.size + b.size + c.size
  · go_enter Try.func12, Try.ntmps12
    go_wp2
    go_ret
    exact ⟨rfl, no _ _ _⟩
  · go_enter Try.func12, Try.ntmps12
    go_wp2
    go_ret
    exact ⟨rfl, yes _ _ _ (by omega) (by omega) (by omega)⟩

/-! ### It is an equivalence -/
theorem fold_refl (a : ByteArray) : fold a a = true := fold_yes a a rfl fun _ _ => rfl
theorem fold_symm (a b : ByteArray) : fold b a = fold a b := by
  unfold fold
  rw [Bool.eq_iff_iff, decide_eq_true_iff, decide_eq_true_iff]
  exact ⟨fun ⟨h1, h2⟩ => ⟨h1.symm, fun i hi => (h2 i (by omega)).symm⟩, fun ⟨h1, h2⟩ => ⟨h1.symm, fun i hi => (h2 i (by omega)).symm⟩⟩
theorem fold_trans (a b c : ByteArray) (h1 : fold a b = true) (h2 : fold b c = true) : fold a c = true := by
  have q1 := of_decide_eq_true h1
  have q2 := of_decide_eq_true h2
  exact fold_yes a c (q1.1.trans q2.1) fun i hi => (q1.2 i hi).trans (q2.2 i (by omega))

theorem alike_trans {a b c : World} (h : b.Alike a) (k : c.Alike b) : c.Alike a := ⟨k.1.trans h.1, k.2.1.trans h.2.1, k.2.2.trans h.2.2⟩
theorem grown_of_alike {w w' : World} (h : w'.Alike w) : Grown w w' :=
  ⟨(World.keptBut_refl _ _).alike h, fun a => by simp only [World.frozen?, h.1], by rw [h.1]; exact Nat.le_refl _⟩

set_option maxRecDepth 100000 in
set_option maxHeartbeats 1600000 in
theorem law (a b c : ByteArray) (w : World) (ha : a.size ≤ maxLen) (hb : b.size ≤ maxLen) (hc : c.size ≤ maxLen) :
    Calls Try.prog 4 #[.string a, .string b, .string c] w fun e w' => e = .returned (.bool true) ∧ Grown w w' := by
  go_enter Try.func4, Try.ntmps4
  go_wp2_with fail
  refine (bytes_any a b c w ha hb hc).mono ?_
  rintro e w' ⟨rfl, q, rfl, hq⟩
  cases q with
  | false =>
    go_wp2
    go_ret
    exact ⟨rfl, Grown.refl _⟩
  | true =>
    obtain ⟨ka, kb, kc⟩ := hq rfl
    clear hq ha hb hc
    by_cases h1 : 262144 < a.size
    · go_wp2
      go_ret
      exact ⟨rfl, Grown.refl _⟩
    by_cases h2 : 262144 < b.size
    · go_wp2
      go_ret
      exact ⟨rfl, Grown.refl _⟩
    by_cases h3 : 262144 < c.size
    · go_wp2
      go_ret
      exact ⟨rfl, Grown.refl _⟩
    go_wp2_with fail
    refine (zzFold_any a a w ka ka).mono ?_
    rintro e w1 ⟨rfl, a1⟩
    rw [fold_refl]
    go_wp2_with fail
    refine (zzFold_any a b w1 ka kb).mono ?_
    rintro e w2 ⟨rfl, a2⟩
    go_wp2_with fail
    refine (zzFold_any b a w2 kb ka).mono ?_
    rintro e w3 ⟨rfl, a3⟩
    rw [fold_symm a b]
    have A3 := hide (alike_trans (alike_trans a1 a2) a3)
    have Tr := hide (fold_trans a b c)
    clear a1 a2 a3
    cases hab : fold a b with
    | false =>
      go_wp2
      go_ret
      exact ⟨rfl, grown_of_alike (unhide A3)⟩
    | true =>
      go_wp2_with fail
      refine (zzFold_any b c w3 kb kc).mono ?_
      rintro e w4 ⟨rfl, a4⟩
      have A4 := hide (alike_trans (unhide A3) a4)
      clear a4
      cases hbc : fold b c with
      | false =>
        go_wp2
        go_ret
        exact ⟨rfl, grown_of_alike (unhide A4)⟩
      | true =>
        have hac := unhide Tr hab hbc
        go_wp2_with fail
        refine (zzFold_any a c w4 ka kc).mono ?_
        rintro e w5 ⟨rfl, a5⟩
        have A5 := hide (alike_trans (unhide A4) a5)
        clear a5
        rw [hac]
        go_wp2
        go_ret
        exact ⟨rfl, grown_of_alike (unhide A5)⟩
end Go.Proofs.Qxb6602719a.Fold
