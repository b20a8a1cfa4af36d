/-
  logicalView: the entries of a ring, oldest first, in two fresh rows.
-/
import Derived.Test.Qxb6601013aClone
namespace Go.Proofs.Qxb6601013a.View
open Go.RowKit Go.Proofs.Qxb6601013a.Mem Go.Proofs.Qxb6601013a.Clone

set_option maxHeartbeats 400000 in
theorem view_none (N : Nat) (a : Option Addr) (A : List Int) (h n : Nat) (w : World) (ha : Sl w a 2 A) (hAN : A.length = N) (hN : N ≤ 1048576) (hn : n ≤ N) (hh : h ≤ N) :
    Calls Try.prog 15 #[.slice a N N, .slice none 0 0, .int .i64 h, .int .i64 n] w fun e w' =>
      e = .returned (.tuple #[.slice (some ⟨w.heap.size, 0, none⟩) n n, .slice (some ⟨w.heap.size + 1, 0, none⟩) n n]) ∧
      Row w' w.heap.size 2 .i64 (view N A h n) ∧ Row w' (w.heap.size + 1) 3 .i64 (List.replicate n (1 : Int)) ∧ Below w.heap.size w w' ∧ w'.heap.size = w.heap.size + 2 := by
  have hs := eqn26
  go_enter Try.func15, Try.ntmps15
  go_wp2_with (first | (at_make; refine wpList_make_row _ rfl (.tmp 15) (.tmp 15) 25 rfl 2 .i64 8 Try.underlying25 info2 _ _ _ _ n rfl rfl rfl rfl (by omega) (by unfold maxLen; omega) ?_; intro w1 hr1 hb1 hz1) | (at_make; refine wpList_make_row _ rfl (.tmp 17) (.tmp 17) 26 rfl 3 .i64 8 Try.underlying26 info3 _ _ _ _ n rfl rfl rfl rfl (by omega) (by unfold maxLen; omega) ?_; intro w2 hr2 hb2 hz2))
  have hr1' := hr1.keep hb2
  rw [hz1] at hr2 hb2 hz2
  have hbb : Below w.heap.size w w2 := hb1.trans (hb2.mono (by omega))
  have hvl := view_len N A h n
  have hcl : (List.replicate n (1 : Int)).length = n := by simp
  clear hr1 hb1 hb2 hz1
  go_loopw [13] (fun i wr => ∃ k : Nat, k ≤ n ∧ i = .int .i64 k ∧ Row wr w.heap.size 2 .i64 ((view N A h n).take k ++ List.replicate (n - k) 0) ∧ Row wr (w.heap.size + 1) 3 .i64 ((List.replicate n (1 : Int)).take k ++ List.replicate (n - k) 0) ∧ Below w.heap.size w wr ∧ wr.heap.size = w.heap.size + 2) (fun i _ => n - (intOf i).toNat)
  case atStart => exact ⟨0, Nat.zero_le _, rfl, hr1'.cast (fill_start _ n).symm, hr2.cast (fill_start _ n).symm, hbb, hz2⟩
  case round =>
    obtain ⟨k, hk, rfl, hrA, hrC, hbel, hsz⟩ := hrel
    clear hr1' hr2 hbb
    by_cases hlt : k < n
    · obtain ⟨g, rfl, hgr⟩ := ha.some (by omega)
      have hm := mod_bounds h k N (by omega)
      have hgl := hgr.lt
      have hcm := Nat.mod_lt (h + k) (show 0 < N by omega)
      obtain ⟨x, hx⟩ : ∃ x, x = A[(h + k) % N]?.getD 0 := ⟨_, rfl⟩
      obtain ⟨y, hy⟩ : ∃ y, y = (1 : Int) := ⟨_, rfl⟩
      have hcx := (hgr.keep hbel).cell (j := (h + k) % N) (by omega)
      rw [← hx] at hcx
      have hl1 := fill_len (view N A h n) n k hk (by omega)
      have hl2 := fill_len (List.replicate n (1 : Int)) n k hk (by omega)
      obtain ⟨x0, hcy⟩ : ∃ v, wr.cell? ⟨w.heap.size, k, none⟩ = some v := ⟨_, hrA.cell (j := k) (by omega)⟩
      obtain ⟨y0, hcz⟩ : ∃ v, wr.cell? ⟨w.heap.size + 1, k, none⟩ = some v := ⟨_, hrC.cell (j := k) (by omega)⟩
      have hfy := hrA.free k
      have hfz := hrC.free k
      have R1 := ((hrA.set k x).cast (fill_set (view N A h n) n k x (by rw [view_at N A h n k hlt]; exact hx) hlt (by omega))).store_other (b := w.heap.size + 1) (j := k) (by omega) (.int .i64 y)
      have R2 := ((hrC.store_other (b := w.heap.size) (j := k) (by omega) (.int .i64 x)).set k y).cast (fill_set (List.replicate n (1 : Int)) n k y (by rw [ones_at n k hlt]; exact hy) hlt (by omega))
      have R3 := (hbel.setCell (p := ⟨w.heap.size, k, none⟩) (Nat.le_refl _) (.int .i64 x)).setCell (p := ⟨w.heap.size + 1, k, none⟩) (Nat.le_succ _) (.int .i64 y)
      subst hy; clear hrA hrC hbel hl1 hl2 hgr hx
      go_wp2
      go_roundw
      case rel => exact ⟨k + 1, by omega, by go_num, R1, R2, R3, by simpa using hsz⟩
      case measure => simp [intOf]; omega
    · go_wp2
      go_ret2
      have e : k = n := by omega
      subst e
      exact ⟨rfl, hrA.cast ((fill_end _ k).trans (take_all hvl)), hrC.cast ((fill_end _ k).trans (take_all hcl)), hbel, hsz⟩

set_option maxHeartbeats 400000 in
theorem view_some (N : Nat) (a : Option Addr) (A : List Int) (c : Nat) (C : List Int) (h n : Nat) (w : World) (ha : Sl w a 2 A) (hAN : A.length = N) (hc : Row w c 3 .i64 C) (hCN : C.length = N) (hN : N ≤ 1048576) (hn : n ≤ N) (hh : h ≤ N) :
    Calls Try.prog 15 #[.slice a N N, .slice (some ⟨c, 0, none⟩) N N, .int .i64 h, .int .i64 n] w fun e w' =>
      e = .returned (.tuple #[.slice (some ⟨w.heap.size, 0, none⟩) n n, .slice (some ⟨w.heap.size + 1, 0, none⟩) n n]) ∧
      Row w' w.heap.size 2 .i64 (view N A h n) ∧ Row w' (w.heap.size + 1) 3 .i64 (view N C h n) ∧ Below w.heap.size w w' ∧ w'.heap.size = w.heap.size + 2 := by
  have hs := eqn26
  go_enter Try.func15, Try.ntmps15
  go_wp2_with (first | (at_make; refine wpList_make_row _ rfl (.tmp 15) (.tmp 15) 25 rfl 2 .i64 8 Try.underlying25 info2 _ _ _ _ n rfl rfl rfl rfl (by omega) (by unfold maxLen; omega) ?_; intro w1 hr1 hb1 hz1) | (at_make; refine wpList_make_row _ rfl (.tmp 17) (.tmp 17) 26 rfl 3 .i64 8 Try.underlying26 info3 _ _ _ _ n rfl rfl rfl rfl (by omega) (by unfold maxLen; omega) ?_; intro w2 hr2 hb2 hz2))
  have hr1' := hr1.keep hb2
  rw [hz1] at hr2 hb2 hz2
  have hbb : Below w.heap.size w w2 := hb1.trans (hb2.mono (by omega))
  have hvl := view_len N A h n
  have hcl : (view N C h n).length = n := by simp [view_len]
  clear hr1 hb1 hb2 hz1
  go_loopw [13] (fun i wr => ∃ k : Nat, k ≤ n ∧ i = .int .i64 k ∧ Row wr w.heap.size 2 .i64 ((view N A h n).take k ++ List.replicate (n - k) 0) ∧ Row wr (w.heap.size + 1) 3 .i64 ((view N C h n).take k ++ List.replicate (n - k) 0) ∧ Below w.heap.size w wr ∧ wr.heap.size = w.heap.size + 2) (fun i _ => n - (intOf i).toNat)
  case atStart => exact ⟨0, Nat.zero_le _, rfl, hr1'.cast (fill_start _ n).symm, hr2.cast (fill_start _ n).symm, hbb, hz2⟩
  case round =>
    obtain ⟨k, hk, rfl, hrA, hrC, hbel, hsz⟩ := hrel
    clear hr1' hr2 hbb
    by_cases hlt : k < n
    · obtain ⟨g, rfl, hgr⟩ := ha.some (by omega)
      have hm := mod_bounds h k N (by omega)
      have hgl := hgr.lt
      have hcm := Nat.mod_lt (h + k) (show 0 < N by omega)
      obtain ⟨x, hx⟩ : ∃ x, x = A[(h + k) % N]?.getD 0 := ⟨_, rfl⟩
      obtain ⟨y, hy⟩ : ∃ y, y = C[(h + k) % N]?.getD 0 := ⟨_, rfl⟩
      have hcx := (hgr.keep hbel).cell (j := (h + k) % N) (by omega)
      rw [← hx] at hcx
      have hgc := hc.lt
      have hcw := (hc.keep hbel).cell (j := (h + k) % N) (by omega)
      rw [← hy] at hcw
      have hl1 := fill_len (view N A h n) n k hk (by omega)
      have hl2 := fill_len (view N C h n) n k hk (by omega)
      obtain ⟨x0, hcy⟩ : ∃ v, wr.cell? ⟨w.heap.size, k, none⟩ = some v := ⟨_, hrA.cell (j := k) (by omega)⟩
      obtain ⟨y0, hcz⟩ : ∃ v, wr.cell? ⟨w.heap.size + 1, k, none⟩ = some v := ⟨_, hrC.cell (j := k) (by omega)⟩
      have hfy := hrA.free k
      have hfz := hrC.free k
      have R1 := ((hrA.set k x).cast (fill_set (view N A h n) n k x (by rw [view_at N A h n k hlt]; exact hx) hlt (by omega))).store_other (b := w.heap.size + 1) (j := k) (by omega) (.int .i64 y)
      have R2 := ((hrC.store_other (b := w.heap.size) (j := k) (by omega) (.int .i64 x)).set k y).cast (fill_set (view N C h n) n k y (by rw [view_at N C h n k hlt]; exact hy) hlt (by omega))
      have R3 := (hbel.setCell (p := ⟨w.heap.size, k, none⟩) (Nat.le_refl _) (.int .i64 x)).setCell (p := ⟨w.heap.size + 1, k, none⟩) (Nat.le_succ _) (.int .i64 y)
      clear hy; clear hrA hrC hbel hl1 hl2 hgr hx
      go_wp2
      go_roundw
      case rel => exact ⟨k + 1, by omega, by go_num, R1, R2, R3, by simpa using hsz⟩
      case measure => simp [intOf]; omega
    · go_wp2
      go_ret2
      have e : k = n := by omega
      subst e
      exact ⟨rfl, hrA.cast ((fill_end _ k).trans (take_all hvl)), hrC.cast ((fill_end _ k).trans (take_all hcl)), hbel, hsz⟩
end Go.Proofs.Qxb6601013a.View
