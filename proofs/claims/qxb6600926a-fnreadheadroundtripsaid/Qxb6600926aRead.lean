/-
  readHead and zzWireSameBytes.
-/
import Derived.Test.Qxb6600926aEnc
import Derived.Deep.QuietTactic
import Derived.BigQuiet
import Derived.WalkSmall
namespace Go.Proofs.Qxb6600926a.Read
open Go.RowKit Go.Proofs.Qxb6600926a.Mem Go.Proofs.Qxb6600926a.Clone Go.Proofs.Qxb6600926a.Enc

theorem be_at (X : Int) (q : Nat) : ∀ k, (be X (k + 1 + q))[k]?.getD 0 = X / 256 ^ q % 256
  | 0 => by rw [show 0 + 1 + q = q + 1 from by omega]; simp [be]
  | k + 1 => by
    rw [show k + 1 + 1 + q = (k + 1 + q) + 1 from by omega]
    simp only [be, List.getElem?_cons_succ]
    exact be_at X q k

theorem or_next (y b : Int) (h0 : 0 ≤ y) (h1 : y ≤ 72057594037927935) (hb : 0 ≤ b) (hb2 : b < 256) : bits .or .u64 (y * 256) b = y * 256 + b := by
  obtain ⟨m, rfl⟩ := Int.eq_ofNat_of_zero_le h0
  obtain ⟨z, rfl⟩ := Int.eq_ofNat_of_zero_le hb
  have e := u64_or ((m : Int) * 256) (z : Int) (by omega) (by omega) (by omega) (by omega)
  rw [e]
  have e2 : ((m : Int) * 256).toNat = 2 ^ 8 * m := by omega
  rw [e2, Int.toNat_natCast, ← Nat.two_pow_add_eq_or_of_lt (show z < 2 ^ 8 by omega) m]
  omega

theorem arg_next (X y : Int) (q : Nat) (h : y = X / 256 ^ (q + 1)) : y * 256 + X / 256 ^ q % 256 = X / 256 ^ q := by
  have e : X / 256 ^ (q + 1) = X / 256 ^ q / 256 := (div_step X (X / 256 ^ q) q rfl).symm
  rw [h, e]
  omega

theorem arg_bound (X y : Int) (q : Nat) (hX : 0 ≤ X) (hX2 : X ≤ 18446744073709551615) (h : y = X / 256 ^ (q + 1)) : 0 ≤ y ∧ y ≤ 72057594037927935 := by
  have e : X / 256 ^ (q + 1) = X / 256 ^ q / 256 := (div_step X (X / 256 ^ q) q rfl).symm
  have hp : (0 : Int) < 256 ^ q := Int.pow_pos (by omega)
  have h1 : 0 ≤ X / 256 ^ q := Int.ediv_nonneg hX (by omega)
  have h2 : X / 256 ^ q ≤ X := Int.ediv_le_self _ hX
  rw [h, e]
  omega
theorem arg_all (X : Int) (q : Nat) (hX : 0 ≤ X) (hX2 : X ≤ 18446744073709551615) : 0 ≤ X / 256 ^ q ∧ X / 256 ^ q ≤ 18446744073709551615 := by
  have hp : (0 : Int) < 256 ^ q := Int.pow_pos (by omega)
  have h1 : 0 ≤ X / 256 ^ q := Int.ediv_nonneg hX (by omega)
  have h2 : X / 256 ^ q ≤ X := Int.ediv_le_self _ hX
  omega

theorem cell0 {w : World} {G : Nat} {F : Int} {R : List Int} (h : Row w G 5 .u8 (F :: R)) : w.cell? ⟨G, 0, none⟩ = some (.int .u8 F) := by
  have := h.cell (j := 0) (by simp)
  simpa using this
theorem cellB {w : World} {G : Nat} {F X : Int} {T : List Int} {s : Nat} (h : Row w G 5 .u8 (F :: (be X s ++ T))) (k q : Nat) (hk : k + 1 + q = s) : w.cell? ⟨G, k + 1, none⟩ = some (.int .u8 (X / 256 ^ q % 256)) := by
  subst hk
  have hl : k < (be X (k + 1 + q)).length := by rw [be_len]; omega
  have := h.cell (j := k + 1) (by simp [be_len]; omega)
  rw [List.getElem?_cons_succ, List.getElem?_append_left hl, be_at] at this
  exact this

set_option maxRecDepth 100000 in
set_option maxHeartbeats 1000000 in
theorem read_0 (M X : Int) (G N : Nat) (T : List Int) (w : World) (hM : 0 ≤ M) (hM7 : M ≤ 7) (hX : 0 ≤ X) (hX24 : X < 24) (hN : N ≤ 1048576) (hr : Row w G 5 .u8 ((M * 32 + X) :: (be X 0 ++ T))) (o : Nat) (h0 : N = 0 → o = 0) (h1 : 0 < N → o = 1) :
    Calls Try.prog 11 #[.slice (some ⟨G, 0, none⟩) (0 + 1 + N) (0 + 1 + N), .int .u8 M] w fun e w' => e = .returned (.tuple #[.int .u64 X, .slice (some ⟨G, o, none⟩) N N, .bool true]) ∧ Below w.heap.size w w' := by
  have hc := cell0 hr
  have ha := and_head M X hM hM7 hX (by omega)
  obtain ⟨F, hF⟩ : ∃ F, M * 32 + X = F := ⟨_, rfl⟩
  rw [hF] at hc ha
  have hd : F / 32 = M := by omega
  have hF0 : 0 ≤ F ∧ F ≤ 255 := by omega
  clear hF hr
  rw [show 0 + 1 + N = N + 1 from by omega]
  by_cases hN0 : N = 0
  · obtain rfl := h0 hN0
    subst hN0
    clear h0 h1
    go_enter Try.func11, Try.ntmps11
    go_wp2
    go_quiet (fail)
    go_wp2
    go_ret3
    exact ⟨rfl, below_drewN (Below.refl _ _) _⟩
  · obtain rfl := h1 (by omega)
    have hne : ¬ N + 1 = 1 := by omega
    clear h0 h1
    go_enter Try.func11, Try.ntmps11
    go_wp2
    go_quiet (fail)
    go_wp2
    go_ret3
    exact ⟨rfl, below_drewN (Below.refl _ _) _⟩

set_option maxRecDepth 100000 in
set_option maxHeartbeats 2000000 in
theorem read_1 (M X : Int) (G N : Nat) (T : List Int) (w : World) (hM : 0 ≤ M) (hM7 : M ≤ 7) (hX : 0 ≤ X) (hX2 : X ≤ 18446744073709551615) (hXs : X < 256 ^ 1) (hN : N ≤ 1048576) (hr : Row w G 5 .u8 ((M * 32 + 24) :: (be X 1 ++ T))) (o : Nat) (h0 : N = 0 → o = 0) (h1 : 0 < N → o = 2) :
    Calls Try.prog 11 #[.slice (some ⟨G, 0, none⟩) (1 + 1 + N) (1 + 1 + N), .int .u8 M] w fun e w' => e = .returned (.tuple #[.int .u64 X, .slice (some ⟨G, o, none⟩) N N, .bool true]) ∧ Below w.heap.size w w' := by
  have hc := cell0 hr
  have ha := and_head M 24 hM hM7 (by omega) (by omega)
  obtain ⟨F, hF⟩ : ∃ F, M * 32 + 24 = F := ⟨_, rfl⟩
  rw [hF] at hc ha hr
  have hd : F / 32 = M := by omega
  have hF0 : 0 ≤ F ∧ F ≤ 255 := by omega
  have Hst : Hid ((0 : Int) = X / 256 ^ 1) := hide (Int.ediv_eq_zero_of_lt hX hXs).symm
  have z1 : ((2 : Int) + (N : Int) == 0) = false := beq_eq_false_iff_ne.2 (by omega)
  have z2 : decide ((2 : Int) + (N : Int) < 2) = false := decide_eq_false (by omega)
  clear hF hXs
  go_enter Try.func11, Try.ntmps11
  go_wp2
  go_loop [4, 47] (fun s4 i => ∃ k q : Nat, ∃ y : Int, k ≤ 1 ∧ Hid (k + q = 1) ∧ i = .int .i64 k ∧ s4 = .int .u64 y ∧ Hid (y = X / 256 ^ q)) (fun _ i => 1 - (intOf i).toNat)
  case atStart => exact ⟨0, 1, 0, by omega, hide rfl, rfl, rfl, Hst⟩
  case round =>
    obtain ⟨k, q, y, hk, Hkq, rfl, rfl, HY⟩ := hrel
    by_cases hlt : k < 1
    · obtain ⟨q', hq'⟩ : ∃ q', q = q' + 1 := ⟨q - 1, by have := unhide Hkq; omega⟩
      subst hq'
      have hcb : w.cell? ⟨G, 1 + k, none⟩ = some (.int .u8 (X / 256 ^ q' % 256)) := by rw [Nat.add_comm]; exact cellB hr k q' (by have := unhide Hkq; omega)
      have hyb := arg_bound X y q' hX hX2 (unhide HY)
      obtain ⟨b, hb⟩ : ∃ b, b = X / 256 ^ q' % 256 := ⟨_, rfl⟩
      rw [← hb] at hcb
      have hb0 : 0 ≤ b ∧ b < 256 := by rw [hb]; omega
      have hor := or_next y b hyb.1 hyb.2 hb0.1 hb0.2
      have HY2 : Hid (y * 256 + b = X / 256 ^ q') := hide (by rw [hb]; exact arg_next X y q' (unhide HY))
      have Hkq2 : Hid (k + 1 + q' = 1) := hide (by have := unhide Hkq; omega)
      clear hr hb HY Hkq Hst
      go_wp2
      go_round
      case rel => exact ⟨k + 1, q', y * 256 + b, by omega, Hkq2, by go_num, by go_num, HY2⟩
      case measure => simp [intOf]; omega
    · obtain rfl : q = 0 := by have := unhide Hkq; omega
      obtain rfl : y = X := by have := unhide HY; simpa using this
      clear HY Hkq Hst hr
      by_cases hN0 : N = 0
      · obtain rfl := h0 hN0
        subst hN0
        clear h0 h1
        go_wp2
        go_quiet (fail)
        go_wp2
        go_ret3
        exact ⟨rfl, below_drewN (Below.refl _ _) _⟩
      · obtain rfl := h1 (by omega)
        have hne : ¬ 1 + 1 + N = 2 := by omega
        have hne2 : ¬ 2 + N = 2 := by omega
        clear h0 h1
        go_wp2
        go_quiet (fail)
        go_wp2
        go_ret3
        exact ⟨by simp, below_drewN (Below.refl _ _) _⟩

set_option maxRecDepth 100000 in
set_option maxHeartbeats 2000000 in
theorem read_2 (M X : Int) (G N : Nat) (T : List Int) (w : World) (hM : 0 ≤ M) (hM7 : M ≤ 7) (hX : 0 ≤ X) (hX2 : X ≤ 18446744073709551615) (hXs : X < 256 ^ 2) (hN : N ≤ 1048576) (hr : Row w G 5 .u8 ((M * 32 + 25) :: (be X 2 ++ T))) (o : Nat) (h0 : N = 0 → o = 0) (h1 : 0 < N → o = 3) :
    Calls Try.prog 11 #[.slice (some ⟨G, 0, none⟩) (2 + 1 + N) (2 + 1 + N), .int .u8 M] w fun e w' => e = .returned (.tuple #[.int .u64 X, .slice (some ⟨G, o, none⟩) N N, .bool true]) ∧ Below w.heap.size w w' := by
  have hc := cell0 hr
  have ha := and_head M 25 hM hM7 (by omega) (by omega)
  obtain ⟨F, hF⟩ : ∃ F, M * 32 + 25 = F := ⟨_, rfl⟩
  rw [hF] at hc ha hr
  have hd : F / 32 = M := by omega
  have hF0 : 0 ≤ F ∧ F ≤ 255 := by omega
  have Hst : Hid ((0 : Int) = X / 256 ^ 2) := hide (Int.ediv_eq_zero_of_lt hX hXs).symm
  have z1 : ((3 : Int) + (N : Int) == 0) = false := beq_eq_false_iff_ne.2 (by omega)
  have z2 : decide ((3 : Int) + (N : Int) < 3) = false := decide_eq_false (by omega)
  clear hF hXs
  go_enter Try.func11, Try.ntmps11
  go_wp2
  go_loop [4, 47] (fun s4 i => ∃ k q : Nat, ∃ y : Int, k ≤ 2 ∧ Hid (k + q = 2) ∧ i = .int .i64 k ∧ s4 = .int .u64 y ∧ Hid (y = X / 256 ^ q)) (fun _ i => 2 - (intOf i).toNat)
  case atStart => exact ⟨0, 2, 0, by omega, hide rfl, rfl, rfl, Hst⟩
  case round =>
    obtain ⟨k, q, y, hk, Hkq, rfl, rfl, HY⟩ := hrel
    by_cases hlt : k < 2
    · obtain ⟨q', hq'⟩ : ∃ q', q = q' + 1 := ⟨q - 1, by have := unhide Hkq; omega⟩
      subst hq'
      have hcb : w.cell? ⟨G, 1 + k, none⟩ = some (.int .u8 (X / 256 ^ q' % 256)) := by rw [Nat.add_comm]; exact cellB hr k q' (by have := unhide Hkq; omega)
      have hyb := arg_bound X y q' hX hX2 (unhide HY)
      obtain ⟨b, hb⟩ : ∃ b, b = X / 256 ^ q' % 256 := ⟨_, rfl⟩
      rw [← hb] at hcb
      have hb0 : 0 ≤ b ∧ b < 256 := by rw [hb]; omega
      have hor := or_next y b hyb.1 hyb.2 hb0.1 hb0.2
      have HY2 : Hid (y * 256 + b = X / 256 ^ q') := hide (by rw [hb]; exact arg_next X y q' (unhide HY))
      have Hkq2 : Hid (k + 1 + q' = 2) := hide (by have := unhide Hkq; omega)
      clear hr hb HY Hkq Hst
      go_wp2
      go_round
      case rel => exact ⟨k + 1, q', y * 256 + b, by omega, Hkq2, by go_num, by go_num, HY2⟩
      case measure => simp [intOf]; omega
    · obtain rfl : q = 0 := by have := unhide Hkq; omega
      obtain rfl : y = X := by have := unhide HY; simpa using this
      clear HY Hkq Hst hr
      by_cases hN0 : N = 0
      · obtain rfl := h0 hN0
        subst hN0
        clear h0 h1
        go_wp2
        go_quiet (fail)
        go_wp2
        go_ret3
        exact ⟨rfl, below_drewN (Below.refl _ _) _⟩
      · obtain rfl := h1 (by omega)
        have hne : ¬ 2 + 1 + N = 3 := by omega
        have hne2 : ¬ 3 + N = 3 := by omega
        clear h0 h1
        go_wp2
        go_quiet (fail)
        go_wp2
        go_ret3
        exact ⟨by simp, below_drewN (Below.refl _ _) _⟩

set_option maxRecDepth 100000 in
set_option maxHeartbeats 2000000 in
theorem read_3 (M X : Int) (G N : Nat) (T : List Int) (w : World) (hM : 0 ≤ M) (hM7 : M ≤ 7) (hX : 0 ≤ X) (hX2 : X ≤ 18446744073709551615) (hXs : X < 256 ^ 4) (hN : N ≤ 1048576) (hr : Row w G 5 .u8 ((M * 32 + 26) :: (be X 4 ++ T))) (o : Nat) (h0 : N = 0 → o = 0) (h1 : 0 < N → o = 5) :
    Calls Try.prog 11 #[.slice (some ⟨G, 0, none⟩) (4 + 1 + N) (4 + 1 + N), .int .u8 M] w fun e w' => e = .returned (.tuple #[.int .u64 X, .slice (some ⟨G, o, none⟩) N N, .bool true]) ∧ Below w.heap.size w w' := by
  have hc := cell0 hr
  have ha := and_head M 26 hM hM7 (by omega) (by omega)
  obtain ⟨F, hF⟩ : ∃ F, M * 32 + 26 = F := ⟨_, rfl⟩
  rw [hF] at hc ha hr
  have hd : F / 32 = M := by omega
  have hF0 : 0 ≤ F ∧ F ≤ 255 := by omega
  have Hst : Hid ((0 : Int) = X / 256 ^ 4) := hide (Int.ediv_eq_zero_of_lt hX hXs).symm
  have z1 : ((5 : Int) + (N : Int) == 0) = false := beq_eq_false_iff_ne.2 (by omega)
  have z2 : decide ((5 : Int) + (N : Int) < 5) = false := decide_eq_false (by omega)
  clear hF hXs
  go_enter Try.func11, Try.ntmps11
  go_wp2
  go_loop [4, 47] (fun s4 i => ∃ k q : Nat, ∃ y : Int, k ≤ 4 ∧ Hid (k + q = 4) ∧ i = .int .i64 k ∧ s4 = .int .u64 y ∧ Hid (y = X / 256 ^ q)) (fun _ i => 4 - (intOf i).toNat)
  case atStart => exact ⟨0, 4, 0, by omega, hide rfl, rfl, rfl, Hst⟩
  case round =>
    obtain ⟨k, q, y, hk, Hkq, rfl, rfl, HY⟩ := hrel
    by_cases hlt : k < 4
    · obtain ⟨q', hq'⟩ : ∃ q', q = q' + 1 := ⟨q - 1, by have := unhide Hkq; omega⟩
      subst hq'
      have hcb : w.cell? ⟨G, 1 + k, none⟩ = some (.int .u8 (X / 256 ^ q' % 256)) := by rw [Nat.add_comm]; exact cellB hr k q' (by have := unhide Hkq; omega)
      have hyb := arg_bound X y q' hX hX2 (unhide HY)
      obtain ⟨b, hb⟩ : ∃ b, b = X / 256 ^ q' % 256 := ⟨_, rfl⟩
      rw [← hb] at hcb
      have hb0 : 0 ≤ b ∧ b < 256 := by rw [hb]; omega
      have hor := or_next y b hyb.1 hyb.2 hb0.1 hb0.2
      have HY2 : Hid (y * 256 + b = X / 256 ^ q') := hide (by rw [hb]; exact arg_next X y q' (unhide HY))
      have Hkq2 : Hid (k + 1 + q' = 4) := hide (by have := unhide Hkq; omega)
      clear hr hb HY Hkq Hst
      go_wp2
      go_round
      case rel => exact ⟨k + 1, q', y * 256 + b, by omega, Hkq2, by go_num, by go_num, HY2⟩
      case measure => simp [intOf]; omega
    · obtain rfl : q = 0 := by have := unhide Hkq; omega
      obtain rfl : y = X := by have := unhide HY; simpa using this
      clear HY Hkq Hst hr
      by_cases hN0 : N = 0
      · obtain rfl := h0 hN0
        subst hN0
        clear h0 h1
        go_wp2
        go_quiet (fail)
        go_wp2
        go_ret3
        exact ⟨rfl, below_drewN (Below.refl _ _) _⟩
      · obtain rfl := h1 (by omega)
        have hne : ¬ 4 + 1 + N = 5 := by omega
        have hne2 : ¬ 5 + N = 5 := by omega
        clear h0 h1
        go_wp2
        go_quiet (fail)
        go_wp2
        go_ret3
        exact ⟨by simp, below_drewN (Below.refl _ _) _⟩

set_option maxRecDepth 100000 in
set_option maxHeartbeats 2000000 in
theorem read_4 (M X : Int) (G N : Nat) (T : List Int) (w : World) (hM : 0 ≤ M) (hM7 : M ≤ 7) (hX : 0 ≤ X) (hX2 : X ≤ 18446744073709551615) (hXs : X < 256 ^ 8) (hN : N ≤ 1048576) (hr : Row w G 5 .u8 ((M * 32 + 27) :: (be X 8 ++ T))) (o : Nat) (h0 : N = 0 → o = 0) (h1 : 0 < N → o = 9) :
    Calls Try.prog 11 #[.slice (some ⟨G, 0, none⟩) (8 + 1 + N) (8 + 1 + N), .int .u8 M] w fun e w' => e = .returned (.tuple #[.int .u64 X, .slice (some ⟨G, o, none⟩) N N, .bool true]) ∧ Below w.heap.size w w' := by
  have hc := cell0 hr
  have ha := and_head M 27 hM hM7 (by omega) (by omega)
  obtain ⟨F, hF⟩ : ∃ F, M * 32 + 27 = F := ⟨_, rfl⟩
  rw [hF] at hc ha hr
  have hd : F / 32 = M := by omega
  have hF0 : 0 ≤ F ∧ F ≤ 255 := by omega
  have Hst : Hid ((0 : Int) = X / 256 ^ 8) := hide (Int.ediv_eq_zero_of_lt hX hXs).symm
  have z1 : ((9 : Int) + (N : Int) == 0) = false := beq_eq_false_iff_ne.2 (by omega)
  have z2 : decide ((9 : Int) + (N : Int) < 9) = false := decide_eq_false (by omega)
  clear hF hXs
  go_enter Try.func11, Try.ntmps11
  go_wp2
  go_loop [4, 47] (fun s4 i => ∃ k q : Nat, ∃ y : Int, k ≤ 8 ∧ Hid (k + q = 8) ∧ i = .int .i64 k ∧ s4 = .int .u64 y ∧ Hid (y = X / 256 ^ q)) (fun _ i => 8 - (intOf i).toNat)
  case atStart => exact ⟨0, 8, 0, by omega, hide rfl, rfl, rfl, Hst⟩
  case round =>
    obtain ⟨k, q, y, hk, Hkq, rfl, rfl, HY⟩ := hrel
    by_cases hlt : k < 8
    · obtain ⟨q', hq'⟩ : ∃ q', q = q' + 1 := ⟨q - 1, by have := unhide Hkq; omega⟩
      subst hq'
      have hcb : w.cell? ⟨G, 1 + k, none⟩ = some (.int .u8 (X / 256 ^ q' % 256)) := by rw [Nat.add_comm]; exact cellB hr k q' (by have := unhide Hkq; omega)
      have hyb := arg_bound X y q' hX hX2 (unhide HY)
      obtain ⟨b, hb⟩ : ∃ b, b = X / 256 ^ q' % 256 := ⟨_, rfl⟩
      rw [← hb] at hcb
      have hb0 : 0 ≤ b ∧ b < 256 := by rw [hb]; omega
      have hor := or_next y b hyb.1 hyb.2 hb0.1 hb0.2
      have HY2 : Hid (y * 256 + b = X / 256 ^ q') := hide (by rw [hb]; exact arg_next X y q' (unhide HY))
      have Hkq2 : Hid (k + 1 + q' = 8) := hide (by have := unhide Hkq; omega)
      clear hr hb HY Hkq Hst
      go_wp2
      go_round
      case rel => exact ⟨k + 1, q', y * 256 + b, by omega, Hkq2, by go_num, by go_num, HY2⟩
      case measure => simp [intOf]; omega
    · obtain rfl : q = 0 := by have := unhide Hkq; omega
      obtain rfl : y = X := by have := unhide HY; simpa using this
      clear HY Hkq Hst hr
      by_cases hN0 : N = 0
      · obtain rfl := h0 hN0
        subst hN0
        clear h0 h1
        go_wp2
        go_quiet (fail)
        go_wp2
        go_ret3
        exact ⟨rfl, below_drewN (Below.refl _ _) _⟩
      · obtain rfl := h1 (by omega)
        have hne : ¬ 8 + 1 + N = 9 := by omega
        have hne2 : ¬ 9 + N = 9 := by omega
        clear h0 h1
        go_wp2
        go_quiet (fail)
        go_wp2
        go_ret3
        exact ⟨by simp, below_drewN (Below.refl _ _) _⟩

theorem lit_pow1 : (256 : Int) ^ 1 = 256 := by decide
theorem lit_pow2 : (256 : Int) ^ 2 = 65536 := by decide
theorem lit_pow4 : (256 : Int) ^ 4 = 4294967296 := by decide
theorem lit_pow8 : (256 : Int) ^ 8 = 18446744073709551616 := by decide

theorem read_any (c : Nat) (hc : c ≤ 4) (M X : Int) (G N : Nat) (T : List Int) (w : World) (hM : 0 ≤ M) (hM7 : M ≤ 7) (hX : 0 ≤ X) (hX2 : X ≤ 18446744073709551615) (hf : fits c X) (hN : N ≤ 1048576) (hr : Row w G 5 .u8 ((M * 32 + low5 c X) :: (be X (sz c) ++ T))) (o : Nat) (h0 : N = 0 → o = 0) (h1 : 0 < N → o = sz c + 1) :
    Calls Try.prog 11 #[.slice (some ⟨G, 0, none⟩) (sz c + 1 + N) (sz c + 1 + N), .int .u8 M] w fun e w' => e = .returned (.tuple #[.int .u64 X, .slice (some ⟨G, o, none⟩) N N, .bool true]) ∧ Below w.heap.size w w' := by
  rcases (show c = 0 ∨ c = 1 ∨ c = 2 ∨ c = 3 ∨ c = 4 from by omega) with rfl | rfl | rfl | rfl | rfl
  · exact read_0 M X G N T w hM hM7 hX (hf.1 rfl) hN hr o h0 h1
  · exact read_1 M X G N T w hM hM7 hX hX2 (by have := hf.2.1 rfl; rw [lit_pow1]; omega) hN hr o h0 h1
  · exact read_2 M X G N T w hM hM7 hX hX2 (by have := hf.2.2.1 rfl; rw [lit_pow2]; omega) hN hr o h0 h1
  · exact read_3 M X G N T w hM hM7 hX hX2 (by have := hf.2.2.2 rfl; rw [lit_pow4]; omega) hN hr o h0 h1
  · exact read_4 M X G N T w hM hM7 hX hX2 (by rw [lit_pow8]; omega) hN hr o h0 h1

theorem zzRead_any (c : Nat) (hc : c ≤ 4) (M X : Int) (G N L : Nat) (T : List Int) (w : World) (hM : 0 ≤ M) (hM7 : M ≤ 7) (hX : 0 ≤ X) (hX2 : X ≤ 18446744073709551615) (hf : fits c X) (hN : N ≤ 1048576) (hr : Row w G 5 .u8 ((M * 32 + low5 c X) :: (be X (sz c) ++ T))) (o : Nat) (h0 : N = 0 → o = 0) (h1 : 0 < N → o = sz c + 1) (hL : L = sz c + 1 + N) :
    Calls Try.prog 8 #[.slice (some ⟨G, 0, none⟩) L L, .int .u8 M] w fun e w' => e = .returned (.tuple #[.int .u64 X, .slice (some ⟨G, o, none⟩) N N, .bool true]) ∧ Below w.heap.size w w' := by
  have P := hide (read_any c hc M X G N T w hM hM7 hX hX2 hf hN hr o h0 h1)
  rw [← hL] at P
  clear hc hf hr h0 h1 hL
  go_enter Try.func8, Try.ntmps8
  go_wp2_with fail
  refine (unhide P).mono ?_
  rintro e w' ⟨rfl, hb⟩
  go_wp2
  go_ret3
  exact ⟨rfl, hb⟩

set_option maxHeartbeats 800000 in
theorem same_any (G o N : Nat) (a : Option Addr) (T : List Int) (w : World) (ha : Sl w a 5 T) (hT : T.length = N) (hN : N ≤ 1048576) (hc : ∀ i, i < N → w.cell? ⟨G, o + i, none⟩ = some (.int .u8 (T[i]?.getD 0))) :
    Calls Try.prog 9 #[.slice (some ⟨G, o, none⟩) N N, .slice a N N] w fun e w' => e = .returned (.bool true) ∧ Below w.heap.size w w' := by
  by_cases hN0 : N = 0
  · subst hN0
    go_enter Try.func9, Try.ntmps9
    go_wp2
    refine wp_loop_rounds 1 ?_
    rw [rounds_succ]
    go_wp2
    go_ret
    exact ⟨rfl, Below.refl _ _⟩
  obtain ⟨g, rfl, hg⟩ := ha.some (by omega)
  have hG : ∀ i, i < N → G < w.heap.size := fun i hi => World.block_lt_of_cell? w _ (hc i hi)
  go_enter Try.func9, Try.ntmps9
  go_wp2
  go_loopw [5] (fun i wr => ∃ k : Nat, k ≤ N ∧ i = .int .i64 k ∧ Below w.heap.size w wr) (fun i _ => N - (intOf i).toNat)
  case atStart => exact ⟨0, Nat.zero_le _, rfl, Below.refl _ _⟩
  case round =>
    obtain ⟨k, hk, rfl, hbel⟩ := hrel
    by_cases hlt : k < N
    · have hcx := (hbel.cell (p := ⟨G, o + k, none⟩) (hG k hlt)).trans (hc k hlt)
      have hcy := (hg.keep hbel).cell (j := k) (by omega)
      generalize T[k]?.getD 0 = v at hcx hcy
      clear hc hg hG
      go_wp2
      go_quiet (fail)
      go_wp2
      go_roundw
      case rel => exact ⟨k + 1, by omega, by go_num, below_drewN hbel _⟩
      case measure => simp [intOf]; omega
    · go_wp2
      go_ret
      exact ⟨rfl, hbel⟩

/-- The tail's cells in the encoding. -/
theorem tail_cells {w : World} {G c : Nat} {F X : Int} {T : List Int} (h : Row w G 5 .u8 (F :: (be X (sz c) ++ T))) (N o : Nat) (hT : T.length = N) (h1 : 0 < N → o = sz c + 1) : ∀ i, i < N → w.cell? ⟨G, o + i, none⟩ = some (.int .u8 (T[i]?.getD 0)) := by
  intro i hi
  rw [h1 (by omega)]
  have := h.cell (j := sz c + 1 + i) (by simp [be_len]; omega)
  rw [show sz c + 1 + i = (sz c + i) + 1 from by omega, List.getElem?_cons_succ, List.getElem?_append_right (by rw [be_len]; omega), be_len, Nat.add_sub_cancel_left] at this
  rw [show sz c + 1 + i = (sz c + i) + 1 from by omega]
  exact this
end Go.Proofs.Qxb6600926a.Read
