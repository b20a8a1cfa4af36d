/-
  entriesAre answers true where the ring holds the wanted entries; ZZCosts.
-/
import Derived.Test.Qxb6601013aLog
import Derived.Deep.QuietTactic
import Derived.BigQuiet
import Derived.WalkSmall
namespace Go.Proofs.Qxb6601013a.Ent
open Go.RowKit Go.Proofs.Qxb6601013a.Mem Go.Proofs.Qxb6601013a.Clone Go.Proofs.Qxb6601013a.Log

/-- The first n elements of a slice that is read: cell i holds f i. -/
def Reads (w : World) (x : Option Addr) (n : Nat) (f : Nat → Int) : Prop := 0 < n → ∃ g, x = some ⟨g, 0, none⟩ ∧ g < w.heap.size ∧ ∀ i, i < n → w.cell? ⟨g, i, none⟩ = some (.int .i64 (f i))

theorem Reads.of_row {w : World} {g : Nat} {E : TypeId} {xs : List Int} {f : Nat → Int} {n : Nat} (h : Row w g E .i64 xs) (hn : n ≤ xs.length) (hf : ∀ i, i < n → xs[i]?.getD 0 = f i) : Reads w (some ⟨g, 0, none⟩) n f :=
  fun _ => ⟨g, rfl, h.lt, fun i hi => by rw [← hf i hi]; exact h.cell (by omega)⟩

theorem Reads.keep {w w' : World} {x : Option Addr} {n : Nat} {f : Nat → Int} (h : Reads w x n f) (hb : Below w.heap.size w w') : Reads w' x n f := fun h0 => by
  obtain ⟨g, e, hg, hc⟩ := h h0
  exact ⟨g, e, Nat.lt_of_lt_of_le hg hb.size, fun i hi => (hb.cell (p := ⟨g, i, none⟩) hg).trans (hc i hi)⟩

set_option maxHeartbeats 800000 in
theorem entries_none (N : Nat) (a : Option Addr) (A : List Int) (h n c1 c2 : Nat) (x1 x2 : Option Addr) (w : World) (ha : Sl w a 2 A) (hAN : A.length = N) (hN : N ≤ 1048576) (hn : n ≤ N) (hh : 0 < n → h < N)
    (hx1 : Reads w x1 n fun i => A[(h + i) % N]?.getD 0) (hx2 : Reads w x2 n fun _ => 1) :
    Calls Try.prog 20 #[.slice a N N, .slice none 0 0, .int .i64 h, .int .i64 n, .slice x1 n c1, .slice x2 n c2] w fun e w' => e = .returned (.bool true) ∧ Below w.heap.size w w' := by
  have hs := nqn26
  by_cases hn0 : n = 0
  · subst hn0
    go_enter Try.func20, Try.ntmps20
    go_wp2
    refine wp_loop_rounds 1 ?_
    rw [rounds_succ]
    go_wp2
    go_ret
    exact ⟨rfl, Below.refl _ _⟩
  have hn1 : 0 < n := by omega
  obtain ⟨g, rfl, hgr⟩ := ha.some (by omega)
  obtain ⟨g1, rfl, hg1, hc1⟩ := hx1 hn1
  obtain ⟨g2, rfl, hg2, hc2⟩ := hx2 hn1
  have hh' := hh hn1
  clear hx1 hx2 hh ha hn0
  go_enter Try.func20, Try.ntmps20
  go_wp2
  go_loopw [14] (fun i wr => ∃ k : Nat, k ≤ n ∧ i = .int .i64 k ∧ Below w.heap.size w wr) (fun i _ => n - (intOf i).toNat)
  case atStart => exact ⟨0, Nat.zero_le _, rfl, Below.refl _ _⟩
  case round =>
    obtain ⟨k, hk, rfl, hbel⟩ := hrel
    by_cases hlt : k < n
    · have hm := mod_bounds h k N (by omega)
      have hmn := mod_nat h k N
      have hcm := Nat.mod_lt (h + k) (show 0 < N by omega)
      obtain ⟨x, hx⟩ : ∃ x, x = A[(h + k) % N]?.getD 0 := ⟨_, rfl⟩
      obtain ⟨y, hy⟩ : ∃ y, y = (1 : Int) := ⟨_, rfl⟩
      have hcx := (hgr.keep hbel).cell (j := (h + k) % N) (by omega)
      rw [← hx] at hcx
      have hcy := (hbel.cell (p := ⟨g1, k, none⟩) hg1).trans (hc1 k hlt)
      have hcz := (hbel.cell (p := ⟨g2, k, none⟩) hg2).trans (hc2 k hlt)
      simp only [← hx] at hcy
      
      clear hc1 hc2 hgr hx hy
      go_wp2
      go_quiet (fail)
      go_wp2
      go_roundw
      case rel => exact ⟨k + 1, by omega, by go_num, below_drewN hbel _⟩
      case measure => simp [intOf]; omega
    · go_wp2
      go_ret
      exact ⟨rfl, hbel⟩

set_option maxHeartbeats 800000 in
theorem entries_some (N : Nat) (a : Option Addr) (A : List Int) (c : Nat) (C : List Int) (h n c1 c2 : Nat) (x1 x2 : Option Addr) (w : World) (ha : Sl w a 2 A) (hAN : A.length = N) (hc : Row w c 3 .i64 C) (hCN : C.length = N) (hN : N ≤ 1048576) (hn : n ≤ N) (hh : 0 < n → h < N)
    (hx1 : Reads w x1 n fun i => A[(h + i) % N]?.getD 0) (hx2 : Reads w x2 n fun i => C[(h + i) % N]?.getD 0) :
    Calls Try.prog 20 #[.slice a N N, .slice (some ⟨c, 0, none⟩) N N, .int .i64 h, .int .i64 n, .slice x1 n c1, .slice x2 n c2] w fun e w' => e = .returned (.bool true) ∧ Below w.heap.size w w' := by
  have hs := nqn26
  by_cases hn0 : n = 0
  · subst hn0
    go_enter Try.func20, Try.ntmps20
    go_wp2
    refine wp_loop_rounds 1 ?_
    rw [rounds_succ]
    go_wp2
    go_ret
    exact ⟨rfl, Below.refl _ _⟩
  have hn1 : 0 < n := by omega
  obtain ⟨g, rfl, hgr⟩ := ha.some (by omega)
  obtain ⟨g1, rfl, hg1, hc1⟩ := hx1 hn1
  obtain ⟨g2, rfl, hg2, hc2⟩ := hx2 hn1
  have hh' := hh hn1
  clear hx1 hx2 hh ha hn0
  go_enter Try.func20, Try.ntmps20
  go_wp2
  go_loopw [14] (fun i wr => ∃ k : Nat, k ≤ n ∧ i = .int .i64 k ∧ Below w.heap.size w wr) (fun i _ => n - (intOf i).toNat)
  case atStart => exact ⟨0, Nat.zero_le _, rfl, Below.refl _ _⟩
  case round =>
    obtain ⟨k, hk, rfl, hbel⟩ := hrel
    by_cases hlt : k < n
    · have hm := mod_bounds h k N (by omega)
      have hmn := mod_nat h k N
      have hcm := Nat.mod_lt (h + k) (show 0 < N by omega)
      obtain ⟨x, hx⟩ : ∃ x, x = A[(h + k) % N]?.getD 0 := ⟨_, rfl⟩
      obtain ⟨y, hy⟩ : ∃ y, y = C[(h + k) % N]?.getD 0 := ⟨_, rfl⟩
      have hcx := (hgr.keep hbel).cell (j := (h + k) % N) (by omega)
      rw [← hx] at hcx
      have hcw := (hc.keep hbel).cell (j := (h + k) % N) (by omega)
      rw [← hy] at hcw
      have hcy := (hbel.cell (p := ⟨g1, k, none⟩) hg1).trans (hc1 k hlt)
      have hcz := (hbel.cell (p := ⟨g2, k, none⟩) hg2).trans (hc2 k hlt)
      simp only [← hx] at hcy
      simp only [← hy] at hcz
      clear hc1 hc2 hgr hx hy hc
      go_wp2
      go_quiet (fail)
      go_wp2
      go_roundw
      case rel => exact ⟨k + 1, by omega, by go_num, below_drewN hbel _⟩
      case measure => simp [intOf]; omega
    · go_wp2
      go_ret
      exact ⟨rfl, hbel⟩

theorem zzCosts_some (l : Nat) (a : Option Addr) (g : Addr) (N M : Nat) (h n t : Int) (w : World) (hl : LogAt w l a N (some g) M h n t) :
    Calls Try.prog 23 #[.pointer (some ⟨l, 0, none⟩)] w fun e w' => e = .returned (.slice (some g) M M) ∧ w = w' := by
  go_enter Try.func23, Try.ntmps23
  go_wp2_with fail
  refine (costs_some l a g N M h n t _ hl).mono ?_
  rintro e w' ⟨rfl, rfl⟩
  go_wp2
  go_ret
  exact ⟨rfl, rfl⟩

theorem zzCosts_none (l : Nat) (a : Option Addr) (N : Nat) (h n t : Int) (w : World) (hN : N ≤ 1048576) (hl : LogAt w l a N none 0 h n t) :
    Calls Try.prog 23 #[.pointer (some ⟨l, 0, none⟩)] w fun e w' => e = .returned (.slice (some ⟨w.heap.size, 0, none⟩) N N) ∧
      LogAt w' l a N (some ⟨w.heap.size, 0, none⟩) N h n t ∧ Row w' w.heap.size 3 .i64 (List.replicate N 1) ∧ Keeps (fun k => k = l) w w' ∧ w'.heap.size = w.heap.size + 1 := by
  go_enter Try.func23, Try.ntmps23
  go_wp2_with fail
  refine (costs_none l a N h n t _ hN hl).mono ?_
  rintro e w' ⟨rfl, h1, h2, h3, h4⟩
  go_wp2
  go_ret
  exact ⟨rfl, h1, h2, h3, h4⟩
end Go.Proofs.Qxb6601013a.Ent
