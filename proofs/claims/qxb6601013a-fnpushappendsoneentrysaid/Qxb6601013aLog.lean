/-
  The log in memory; ZZToLog, ZZFromLog, costs, ZZCosts.
-/
import Derived.Test.Qxb6601013aClone
import Derived.BigRegion
namespace Go.Proofs.Qxb6601013a.Log
open Go.RowKit Go.Proofs.Qxb6601013a.Mem Go.Proofs.Qxb6601013a.Clone

/-- Block l is a slidingLog with these fields. -/
def LogAt (w : World) (l : Nat) (a : Option Addr) (N : Nat) (c : Option Addr) (M : Nat) (h n t : Int) : Prop :=
  w.heap[l]? = some (.cells #[.slice a N N, .slice c M M, .int .i64 h, .int .i64 n, .int .i64 t] 46 (0, 0))

section
variable {w w' : World} {l : Nat} {a c : Option Addr} {N M : Nat} {h n t : Int}
theorem LogAt.lt (H : LogAt w l a N c M h n t) : l < w.heap.size := by
  by_cases hlt : l < w.heap.size
  · exact hlt
  · have hn : w.heap[l]? = none := by simp; omega
    unfold LogAt at H
    rw [hn] at H
    simp at H
theorem LogAt.free (H : LogAt w l a N c M h n t) (j : Nat) : w.frozen? ⟨l, j, none⟩ = false := frozen_of_row w l j _ 46 H
theorem LogAt.c0 (H : LogAt w l a N c M h n t) : w.cell? ⟨l, 0, none⟩ = some (.slice a N N) := by rw [cell_of_row w l 0 _ 46 (0, 0) H]; rfl
theorem LogAt.c1 (H : LogAt w l a N c M h n t) : w.cell? ⟨l, 1, none⟩ = some (.slice c M M) := by rw [cell_of_row w l 1 _ 46 (0, 0) H]; rfl
theorem LogAt.c2 (H : LogAt w l a N c M h n t) : w.cell? ⟨l, 2, none⟩ = some (.int .i64 h) := by rw [cell_of_row w l 2 _ 46 (0, 0) H]; rfl
theorem LogAt.c3 (H : LogAt w l a N c M h n t) : w.cell? ⟨l, 3, none⟩ = some (.int .i64 n) := by rw [cell_of_row w l 3 _ 46 (0, 0) H]; rfl
theorem LogAt.c4 (H : LogAt w l a N c M h n t) : w.cell? ⟨l, 4, none⟩ = some (.int .i64 t) := by rw [cell_of_row w l 4 _ 46 (0, 0) H]; rfl
theorem LogAt.of_eq (H : LogAt w l a N c M h n t) (e : w'.heap[l]? = w.heap[l]?) : LogAt w' l a N c M h n t := by
  unfold LogAt at H ⊢
  rw [e, H]
theorem LogAt.keep (H : LogAt w l a N c M h n t) (hb : Below w.heap.size w w') : LogAt w' l a N c M h n t := H.of_eq (hb.block l H.lt)
theorem LogAt.set0 (H : LogAt w l a N c M h n t) (a' : Option Addr) (N' : Nat) : LogAt (w.setCell ⟨l, 0, none⟩ (.slice a' N' N')) l a' N' c M h n t := by
  unfold LogAt; rw [heap_setCell_same w l 0 _ 46 _ H]; rfl
theorem LogAt.set1 (H : LogAt w l a N c M h n t) (c' : Option Addr) (M' : Nat) : LogAt (w.setCell ⟨l, 1, none⟩ (.slice c' M' M')) l a N c' M' h n t := by
  unfold LogAt; rw [heap_setCell_same w l 1 _ 46 _ H]; rfl
theorem LogAt.set2 (H : LogAt w l a N c M h n t) (h' : Int) : LogAt (w.setCell ⟨l, 2, none⟩ (.int .i64 h')) l a N c M h' n t := by
  unfold LogAt; rw [heap_setCell_same w l 2 _ 46 _ H]; rfl
theorem LogAt.set3 (H : LogAt w l a N c M h n t) (n' : Int) : LogAt (w.setCell ⟨l, 3, none⟩ (.int .i64 n')) l a N c M h n' t := by
  unfold LogAt; rw [heap_setCell_same w l 3 _ 46 _ H]; rfl
theorem LogAt.ne {g : Nat} {E : TypeId} {k : IntKind} {xs : List Int} (H : LogAt w l a N c M h n t) (hr : Row w g E k xs) (hE : E ≠ 46) : g ≠ l := hr.ne H hE
end

set_option maxHeartbeats 400000 in
theorem toLog_any (a c : Option Addr) (N M : Nat) (h n t : Int) (w : World) :
    Calls Try.prog 16 #[.agg #[.slice a N N, .slice c M M, .int .i64 h, .int .i64 n, .int .i64 t]] w fun e w' =>
      e = .returned (.pointer (some ⟨w.heap.size + 1, 0, none⟩)) ∧ LogAt w' (w.heap.size + 1) a N c M h n t ∧ Below w.heap.size w w' ∧ w'.heap.size = w.heap.size + 2 := by
  go_enter Try.func16, Try.ntmps16
  go_wp2
  go_ret
  exact ⟨rfl, heap_alloc2_new _ _ _, ((Below.refl _ _).alloc (Nat.le_refl _) _).alloc (by simp) _, by simp⟩

set_option maxHeartbeats 400000 in
theorem fromLog_any (l : Nat) (a c : Option Addr) (N M : Nat) (h n t : Int) (w : World) (hl : LogAt w l a N c M h n t) :
    Calls Try.prog 18 #[.pointer (some ⟨l, 0, none⟩)] w fun e w' =>
      e = .returned (.agg #[.slice a N N, .slice c M M, .int .i64 h, .int .i64 n, .int .i64 t]) ∧ Below w.heap.size w w' := by
  have hlt := hl.lt
  have k0 := hl.c0
  have k1 := hl.c1
  have k2 := hl.c2
  have k3 := hl.c3
  have k4 := hl.c4
  go_enter Try.func18, Try.ntmps18
  go_wp2
  go_region
  go_wp2
  exact bodyPost_ret (v := .agg #[.slice a N N, .slice c M M, .int .i64 h, .int .i64 n, .int .i64 t]) (by simp [results, Try.results18, go_sem]) rfl ⟨rfl, ((Below.refl _ _).alloc (Nat.le_refl _) _).drew⟩

set_option maxHeartbeats 400000 in
/-- costs of a log that keeps its costs apart: they are handed out; nothing turns. -/
theorem costs_some (l : Nat) (a : Option Addr) (g : Addr) (N M : Nat) (h n t : Int) (w : World) (hl : LogAt w l a N (some g) M h n t) :
    Calls Try.prog 26 #[.pointer (some ⟨l, 0, none⟩)] w fun e w' => e = .returned (.slice (some g) M M) ∧ w = w' := by
  have hs := eqn26
  have k1 := hl.c1
  go_enter Try.func26, Try.ntmps26
  go_wp2
  go_ret
  exact ⟨rfl, rfl⟩

set_option maxHeartbeats 400000 in
/-- costs of a log without costs: a fresh row of ones, kept from now on. -/
theorem costs_none (l : Nat) (a : Option Addr) (N : Nat) (h n t : Int) (w : World) (hN : N ≤ 1048576) (hl : LogAt w l a N none 0 h n t) :
    Calls Try.prog 26 #[.pointer (some ⟨l, 0, none⟩)] w fun e w' => e = .returned (.slice (some ⟨w.heap.size, 0, none⟩) N N) ∧
      LogAt w' l a N (some ⟨w.heap.size, 0, none⟩) N h n t ∧ Row w' w.heap.size 3 .i64 (List.replicate N 1) ∧ Keeps (fun k => k = l) w w' ∧ w'.heap.size = w.heap.size + 1 := by
  have hs := eqn26
  have k0 := hl.c0
  have k1 := hl.c1
  have hlt := hl.lt
  go_enter Try.func26, Try.ntmps26
  go_wp2_with (at_make; refine wpList_make_row _ rfl _ _ 26 rfl 3 .i64 8 Try.underlying26 info3 _ _ _ _ N rfl rfl rfl rfl (by omega) (by unfold maxLen; omega) ?_; intro w1 hr1 hb1 hz1; have f1' := (hl.keep hb1).free 1; have k1' := (hl.keep hb1).c1)
  have L1 := (hl.keep hb1).set1 (some ⟨w.heap.size, 0, none⟩) N
  have L2 := (hr1.store_other (b := l) (j := 1) (by omega) (.slice (some ⟨w.heap.size, 0, none⟩) N N)).cast (fill_start (List.replicate N 1) N).symm
  have L3 := (Keeps.of_below (S := fun k => k = l) hb1).setCell (b := l) (.inl rfl) 1 (.slice (some ⟨w.heap.size, 0, none⟩) N N)
  go_loopw [23] (fun i wr => ∃ k : Nat, k ≤ N ∧ i = .int .i64 k ∧ LogAt wr l a N (some ⟨w.heap.size, 0, none⟩) N h n t ∧ Row wr w.heap.size 3 .i64 ((List.replicate N 1).take k ++ List.replicate (N - k) 0) ∧ Keeps (fun k => k = l) w wr ∧ wr.heap.size = w.heap.size + 1) (fun i _ => N - (intOf i).toNat)
  case atStart => exact ⟨0, Nat.zero_le _, rfl, L1, L2, L3, by simpa using hz1⟩
  case round =>
    obtain ⟨k, hk, rfl, hL, hR, hK, hsz⟩ := hrel
    clear L1 L2 L3 k1' f1' hr1 hb1 hz1 k0 k1 hl
    have k1 := hL.c1
    by_cases hk2 : k < N
    · have hlen := fill_len (List.replicate N 1) N k hk (by simp)
      obtain ⟨x0, hcy⟩ : ∃ v, wr.cell? ⟨w.heap.size, k, none⟩ = some v := ⟨_, hR.cell (j := k) (by omega)⟩
      have hfy := hR.free k
      have R1 : LogAt (wr.setCell ⟨w.heap.size, k, none⟩ (.int .i64 1)) l a N (some ⟨w.heap.size, 0, none⟩) N h n t := hL.of_eq (heap_setCell_other wr ⟨w.heap.size, k, none⟩ l _ (show l ≠ w.heap.size by omega))
      have R2 := (hR.set k 1).cast (fill_set (List.replicate N 1) N k 1 (ones_at N k hk2).symm hk2 (by simp))
      have R3 := hK.setCell (b := w.heap.size) (.inr (Nat.le_refl _)) k (.int .i64 1)
      clear hL hR hK hlen
      go_wp2
      go_roundw
      case rel => exact ⟨k + 1, by omega, by go_num, R1, R2, R3, by simpa using hsz⟩
      case measure => simp [intOf]; omega
    · go_wp2
      go_ret
      have e : k = N := by omega
      subst e
      exact ⟨rfl, hL, hR.cast ((fill_end _ k).trans (take_all (by simp))), hK, hsz⟩
end Go.Proofs.Qxb6601013a.Log
