/-
  grown: a ring twice as long, the same entries from index 0.
-/
import Derived.Test.Qxb6601013aLog
import Derived.Laws.CopyOwn
namespace Go.Proofs.Qxb6601013a.Grown
open Go.RowKit Go.Proofs.Qxb6601013a.Mem Go.Proofs.Qxb6601013a.Clone Go.Proofs.Qxb6601013a.Log

theorem size2 : (Try.prog.info? 2).map (·.size) = some 1 := by kernel_rfl
theorem size3 : (Try.prog.info? 3).map (·.size) = some 1 := by kernel_rfl

/-- The built-in copy, from a row of numbers into a row of numbers. -/
theorem copy_run (T ty E : TypeId) (hT : Try.prog.underlying T = some (.slice E)) (hE : (Try.prog.info? E).map (·.size) = some 1) (w : World) (g off dLen dCap sLen sCap : Nat) (dp sp : Option Addr) (cur cs : List Int)
    (hr : Row w g E .i64 cur) (hn : cs.length = Nat.min sLen dLen)
    (hpos : 0 < cs.length → dp = some ⟨g, off, none⟩ ∧ ∃ g' o', sp = some ⟨g', o', none⟩ ∧ ∀ j, j < cs.length → w.cell? ⟨g', o' + j, none⟩ = some (.int .i64 (cs[j]?.getD 0)))
    (hfit : off + cs.length ≤ cur.length) :
    ∃ w', (Builtin.copy_ #[T, T] ty #[.slice dp dLen dCap, .slice sp sLen sCap]).run Try.prog w = .ok (.int .i64 (cs.length : Nat)) w' ∧ Row w' g E .i64 (splice cur off cs) ∧ Below g w w' ∧ w'.heap.size = w.heap.size := by
  by_cases h0 : cs.length = 0
  · obtain rfl : cs = [] := List.eq_nil_of_length_eq_zero h0
    refine ⟨w, run_copy_none (P := Try.prog) w T T ty E dp sp dLen dCap sLen sCap hT hE (by simpa using hn.symm), ?_, Below.refl _ _, rfl⟩
    exact hr.cast (by simp [splice])
  · obtain ⟨rfl, g', o', rfl, hc⟩ := hpos (by omega)
    have hrun := run_copy_row (P := Try.prog) w T T ty E g off dLen dCap ⟨g', o', none⟩ sLen sCap _ E (cs.map (Value.int .i64)) hT hE hr (by simpa using hn)
      (fun j v hv => by
        rw [Addr.add_lit]
        have hj : j < cs.length := by
          have := (List.getElem?_eq_some_iff.1 hv).1
          simpa using this
        rw [hc j hj]
        simp [hj] at hv
        simp [hj, hv]) (by simpa using hfit) (ints_oneCell .i64 cs)
    refine ⟨_, by simpa [goInt] using hrun, ?_, below_setRow (Below.refl _ _) (Nat.le_refl _) _, by simp⟩
    have := setRow_heap w g _ (((cur.map (Value.int .i64)).toArray.toList.take off ++ (cs.map (Value.int .i64) ++ (cur.map (Value.int .i64)).toArray.toList.drop (off + (cs.map (Value.int .i64)).length))).toArray) E _ hr
    unfold Row
    simpa [splice] using this

/-- What the grown ring holds. -/
def big (A : List Int) (h G : Nat) : List Int := A.drop h ++ (A.take h ++ List.replicate (G - A.length) 0)

theorem big_len (A : List Int) (h G : Nat) (hh : h ≤ A.length) (hG : A.length ≤ G) : (big A h G).length = G := by simp [big]; omega

theorem splice_two (A : List Int) (h G m : Nat) (hm : m = A.length - h) (hh : h ≤ A.length) (hG : A.length ≤ G) :
    splice (splice (List.replicate G 0) 0 (A.drop h)) m (A.take h) = big A h G := by
  subst hm
  have e1 : splice (List.replicate G (0 : Int)) 0 (A.drop h) = A.drop h ++ List.replicate (G - (A.length - h)) 0 := by simp [splice]
  rw [e1]
  have l1 : (A.drop h).length = A.length - h := by simp
  have l2 : (A.take h).length = h := by simp; omega
  have e2 : G - (A.length - h) - (A.length - h + h - (A.length - h)) = G - A.length := by omega
  have e3 : List.drop (A.length - h + h) (A.drop h ++ List.replicate (G - (A.length - h)) (0 : Int)) = List.replicate (G - A.length) 0 := by
    have e4 : List.drop (A.length - h + h) (A.drop h) = [] := List.drop_eq_nil_of_le (by rw [l1]; omega)
    rw [List.drop_append, e4, l1, List.nil_append, List.drop_replicate, e2]
  unfold splice big
  rw [List.take_left' l1, l2, e3]

set_option maxHeartbeats 800000 in
theorem grown27_mid_a (N h g : Nat) (A : List Int) (w : World) (hr : Row w g 2 .i64 A) (hAN : A.length = N) (hN : N ≤ 1048576) (h0 : 0 < h) (hh : h < N) (hG : 4 < 2 * N) :
    Calls Try.prog 27 #[.slice (some ⟨g, 0, none⟩) N N, .int .i64 h] w fun e w' => e = .returned (.slice (some ⟨w.heap.size, 0, none⟩) (2 * N) (2 * N)) ∧ Row w' w.heap.size 2 .i64 (big A h (2 * N)) ∧ Below w.heap.size w w' ∧ w'.heap.size = w.heap.size + 1 := by
  have hg := hr.lt
  go_enter Try.func27, Try.ntmps27
  go_wp2_with (at_make; refine wpList_make_row _ rfl _ _ 25 rfl 2 .i64 8 Try.underlying25 info2 _ _ _ _ (2 * N) rfl rfl (by omega) (by omega) (by omega) (by unfold maxLen; omega) ?_; intro w1 hr1 hb1 hz1)
  obtain ⟨m, hm⟩ : ∃ m, m = N - h := ⟨_, rfl⟩
  have hd : (A.drop h).length = m := by simp; omega
  have ht : (A.take h).length = h := by simp; omega
  have hra := hr.keep hb1
  obtain ⟨w2, run2, hr2, hb2, hz2⟩ := copy_run 25 3 2 Try.underlying25 size2 w1.drew w.heap.size 0 (2 * N) (2 * N) (N - h) (N - h) (some ⟨w.heap.size, 0, none⟩) (some ⟨g, h, none⟩) (List.replicate (2 * N) 0) (A.drop h) hr1
    (by rw [hd, hm]; exact (Nat.min_eq_left (by omega)).symm) (fun _ => ⟨rfl, g, h, rfl, fun j hj => by rw [show (A.drop h)[j]?.getD 0 = A[h + j]?.getD 0 from by simp]; exact hra.cell (j := h + j) (by omega)⟩) (by simp; omega)
  rw [hd] at run2
  have hb2' : Below w.heap.size w1 w2 := ⟨hb2.os, hb2.tape, hb2.output, hb2.size, hb2.block⟩
  have hra2 := hra.below hb2' hg
  obtain ⟨w3, run3, hr3, hb3, hz3⟩ := copy_run 25 3 2 Try.underlying25 size2 w2 w.heap.size m ((2 * N) - m) ((2 * N) - m) h N (some ⟨w.heap.size, m, none⟩) (some ⟨g, 0, none⟩) _ (A.take h) hr2
    (by rw [ht]; exact (Nat.min_eq_left (by omega)).symm) (fun _ => ⟨rfl, g, 0, rfl, fun j hj => by rw [Nat.zero_add, show (A.take h)[j]?.getD 0 = A[j]?.getD 0 from by rw [List.getElem?_take, if_pos (by omega)]]; exact hra2.cell (j := j) (by omega)⟩) (by rw [length_splice _ _ _ (by simp; omega), ht]; simp; omega)
  rw [ht] at run3
  have hrr := hr3.cast (splice_two A h (2 * N) m (by omega) (by omega) (by omega))
  have hbb : Below w.heap.size w w3 := (hb1.trans hb2').trans hb3
  have hzz : w3.heap.size = w.heap.size + 1 := by rw [hz3, hz2]; exact hz1
  have hle : h ≤ N := by omega
  have hne : ¬ N = h := by omega
  have l1' : m ≤ 2 * N := by omega
  have l1'' : ¬ 2 * N = m := by omega
  have HM := hide hm
  clear hr3 hr2 hr1 hra hra2 hb1 hb2 hb2' hb3 hz1 hz2 hz3 hm hd ht hr
  go_region
  go_wp2
  go_ret
  exact ⟨rfl, hrr, hbb, hzz⟩

set_option maxHeartbeats 800000 in
theorem grown27_mid_b (N h g : Nat) (A : List Int) (w : World) (hr : Row w g 2 .i64 A) (hAN : A.length = N) (hN : N ≤ 1048576) (h0 : 0 < h) (hh : h < N) (hG : 2 * N ≤ 4) :
    Calls Try.prog 27 #[.slice (some ⟨g, 0, none⟩) N N, .int .i64 h] w fun e w' => e = .returned (.slice (some ⟨w.heap.size, 0, none⟩) (4) (4)) ∧ Row w' w.heap.size 2 .i64 (big A h (4)) ∧ Below w.heap.size w w' ∧ w'.heap.size = w.heap.size + 1 := by
  have hg := hr.lt
  go_enter Try.func27, Try.ntmps27
  go_wp2_with (at_make; refine wpList_make_row _ rfl _ _ 25 rfl 2 .i64 8 Try.underlying25 info2 _ _ _ _ (4) rfl rfl (by omega) (by omega) (by omega) (by unfold maxLen; omega) ?_; intro w1 hr1 hb1 hz1)
  obtain ⟨m, hm⟩ : ∃ m, m = N - h := ⟨_, rfl⟩
  have hd : (A.drop h).length = m := by simp; omega
  have ht : (A.take h).length = h := by simp; omega
  have hra := hr.keep hb1
  obtain ⟨w2, run2, hr2, hb2, hz2⟩ := copy_run 25 3 2 Try.underlying25 size2 w1.drew w.heap.size 0 (4) (4) (N - h) (N - h) (some ⟨w.heap.size, 0, none⟩) (some ⟨g, h, none⟩) (List.replicate (4) 0) (A.drop h) hr1
    (by rw [hd, hm]; exact (Nat.min_eq_left (by omega)).symm) (fun _ => ⟨rfl, g, h, rfl, fun j hj => by rw [show (A.drop h)[j]?.getD 0 = A[h + j]?.getD 0 from by simp]; exact hra.cell (j := h + j) (by omega)⟩) (by simp; omega)
  rw [hd] at run2
  have hb2' : Below w.heap.size w1 w2 := ⟨hb2.os, hb2.tape, hb2.output, hb2.size, hb2.block⟩
  have hra2 := hra.below hb2' hg
  obtain ⟨w3, run3, hr3, hb3, hz3⟩ := copy_run 25 3 2 Try.underlying25 size2 w2 w.heap.size m ((4) - m) ((4) - m) h N (some ⟨w.heap.size, m, none⟩) (some ⟨g, 0, none⟩) _ (A.take h) hr2
    (by rw [ht]; exact (Nat.min_eq_left (by omega)).symm) (fun _ => ⟨rfl, g, 0, rfl, fun j hj => by rw [Nat.zero_add, show (A.take h)[j]?.getD 0 = A[j]?.getD 0 from by rw [List.getElem?_take, if_pos (by omega)]]; exact hra2.cell (j := j) (by omega)⟩) (by rw [length_splice _ _ _ (by simp; omega), ht]; simp; omega)
  rw [ht] at run3
  have hrr := hr3.cast (splice_two A h (4) m (by omega) (by omega) (by omega))
  have hbb : Below w.heap.size w w3 := (hb1.trans hb2').trans hb3
  have hzz : w3.heap.size = w.heap.size + 1 := by rw [hz3, hz2]; exact hz1
  have hle : h ≤ N := by omega
  have hne : ¬ N = h := by omega
  have l1' : m ≤ 4 := by omega
  have l1'' : ¬ 4 = m := by omega
  have HM := hide hm
  clear hr3 hr2 hr1 hra hra2 hb1 hb2 hb2' hb3 hz1 hz2 hz3 hm hd ht hr
  go_region
  go_wp2
  go_ret
  exact ⟨rfl, hrr, hbb, hzz⟩

set_option maxHeartbeats 800000 in
theorem grown28_mid_a (N h g : Nat) (A : List Int) (w : World) (hr : Row w g 3 .i64 A) (hAN : A.length = N) (hN : N ≤ 1048576) (h0 : 0 < h) (hh : h < N) (hG : 4 < 2 * N) :
    Calls Try.prog 28 #[.slice (some ⟨g, 0, none⟩) N N, .int .i64 h] w fun e w' => e = .returned (.slice (some ⟨w.heap.size, 0, none⟩) (2 * N) (2 * N)) ∧ Row w' w.heap.size 3 .i64 (big A h (2 * N)) ∧ Below w.heap.size w w' ∧ w'.heap.size = w.heap.size + 1 := by
  have hg := hr.lt
  go_enter Try.func28, Try.ntmps28
  go_wp2_with (at_make; refine wpList_make_row _ rfl _ _ 26 rfl 3 .i64 8 Try.underlying26 info3 _ _ _ _ (2 * N) rfl rfl (by omega) (by omega) (by omega) (by unfold maxLen; omega) ?_; intro w1 hr1 hb1 hz1)
  obtain ⟨m, hm⟩ : ∃ m, m = N - h := ⟨_, rfl⟩
  have hd : (A.drop h).length = m := by simp; omega
  have ht : (A.take h).length = h := by simp; omega
  have hra := hr.keep hb1
  obtain ⟨w2, run2, hr2, hb2, hz2⟩ := copy_run 26 3 3 Try.underlying26 size3 w1.drew w.heap.size 0 (2 * N) (2 * N) (N - h) (N - h) (some ⟨w.heap.size, 0, none⟩) (some ⟨g, h, none⟩) (List.replicate (2 * N) 0) (A.drop h) hr1
    (by rw [hd, hm]; exact (Nat.min_eq_left (by omega)).symm) (fun _ => ⟨rfl, g, h, rfl, fun j hj => by rw [show (A.drop h)[j]?.getD 0 = A[h + j]?.getD 0 from by simp]; exact hra.cell (j := h + j) (by omega)⟩) (by simp; omega)
  rw [hd] at run2
  have hb2' : Below w.heap.size w1 w2 := ⟨hb2.os, hb2.tape, hb2.output, hb2.size, hb2.block⟩
  have hra2 := hra.below hb2' hg
  obtain ⟨w3, run3, hr3, hb3, hz3⟩ := copy_run 26 3 3 Try.underlying26 size3 w2 w.heap.size m ((2 * N) - m) ((2 * N) - m) h N (some ⟨w.heap.size, m, none⟩) (some ⟨g, 0, none⟩) _ (A.take h) hr2
    (by rw [ht]; exact (Nat.min_eq_left (by omega)).symm) (fun _ => ⟨rfl, g, 0, rfl, fun j hj => by rw [Nat.zero_add, show (A.take h)[j]?.getD 0 = A[j]?.getD 0 from by rw [List.getElem?_take, if_pos (by omega)]]; exact hra2.cell (j := j) (by omega)⟩) (by rw [length_splice _ _ _ (by simp; omega), ht]; simp; omega)
  rw [ht] at run3
  have hrr := hr3.cast (splice_two A h (2 * N) m (by omega) (by omega) (by omega))
  have hbb : Below w.heap.size w w3 := (hb1.trans hb2').trans hb3
  have hzz : w3.heap.size = w.heap.size + 1 := by rw [hz3, hz2]; exact hz1
  have hle : h ≤ N := by omega
  have hne : ¬ N = h := by omega
  have l1' : m ≤ 2 * N := by omega
  have l1'' : ¬ 2 * N = m := by omega
  have HM := hide hm
  clear hr3 hr2 hr1 hra hra2 hb1 hb2 hb2' hb3 hz1 hz2 hz3 hm hd ht hr
  go_region
  go_wp2
  go_ret
  exact ⟨rfl, hrr, hbb, hzz⟩

set_option maxHeartbeats 800000 in
theorem grown28_mid_b (N h g : Nat) (A : List Int) (w : World) (hr : Row w g 3 .i64 A) (hAN : A.length = N) (hN : N ≤ 1048576) (h0 : 0 < h) (hh : h < N) (hG : 2 * N ≤ 4) :
    Calls Try.prog 28 #[.slice (some ⟨g, 0, none⟩) N N, .int .i64 h] w fun e w' => e = .returned (.slice (some ⟨w.heap.size, 0, none⟩) (4) (4)) ∧ Row w' w.heap.size 3 .i64 (big A h (4)) ∧ Below w.heap.size w w' ∧ w'.heap.size = w.heap.size + 1 := by
  have hg := hr.lt
  go_enter Try.func28, Try.ntmps28
  go_wp2_with (at_make; refine wpList_make_row _ rfl _ _ 26 rfl 3 .i64 8 Try.underlying26 info3 _ _ _ _ (4) rfl rfl (by omega) (by omega) (by omega) (by unfold maxLen; omega) ?_; intro w1 hr1 hb1 hz1)
  obtain ⟨m, hm⟩ : ∃ m, m = N - h := ⟨_, rfl⟩
  have hd : (A.drop h).length = m := by simp; omega
  have ht : (A.take h).length = h := by simp; omega
  have hra := hr.keep hb1
  obtain ⟨w2, run2, hr2, hb2, hz2⟩ := copy_run 26 3 3 Try.underlying26 size3 w1.drew w.heap.size 0 (4) (4) (N - h) (N - h) (some ⟨w.heap.size, 0, none⟩) (some ⟨g, h, none⟩) (List.replicate (4) 0) (A.drop h) hr1
    (by rw [hd, hm]; exact (Nat.min_eq_left (by omega)).symm) (fun _ => ⟨rfl, g, h, rfl, fun j hj => by rw [show (A.drop h)[j]?.getD 0 = A[h + j]?.getD 0 from by simp]; exact hra.cell (j := h + j) (by omega)⟩) (by simp; omega)
  rw [hd] at run2
  have hb2' : Below w.heap.size w1 w2 := ⟨hb2.os, hb2.tape, hb2.output, hb2.size, hb2.block⟩
  have hra2 := hra.below hb2' hg
  obtain ⟨w3, run3, hr3, hb3, hz3⟩ := copy_run 26 3 3 Try.underlying26 size3 w2 w.heap.size m ((4) - m) ((4) - m) h N (some ⟨w.heap.size, m, none⟩) (some ⟨g, 0, none⟩) _ (A.take h) hr2
    (by rw [ht]; exact (Nat.min_eq_left (by omega)).symm) (fun _ => ⟨rfl, g, 0, rfl, fun j hj => by rw [Nat.zero_add, show (A.take h)[j]?.getD 0 = A[j]?.getD 0 from by rw [List.getElem?_take, if_pos (by omega)]]; exact hra2.cell (j := j) (by omega)⟩) (by rw [length_splice _ _ _ (by simp; omega), ht]; simp; omega)
  rw [ht] at run3
  have hrr := hr3.cast (splice_two A h (4) m (by omega) (by omega) (by omega))
  have hbb : Below w.heap.size w w3 := (hb1.trans hb2').trans hb3
  have hzz : w3.heap.size = w.heap.size + 1 := by rw [hz3, hz2]; exact hz1
  have hle : h ≤ N := by omega
  have hne : ¬ N = h := by omega
  have l1' : m ≤ 4 := by omega
  have l1'' : ¬ 4 = m := by omega
  have HM := hide hm
  clear hr3 hr2 hr1 hra hra2 hb1 hb2 hb2' hb3 hz1 hz2 hz3 hm hd ht hr
  go_region
  go_wp2
  go_ret
  exact ⟨rfl, hrr, hbb, hzz⟩

set_option maxHeartbeats 800000 in
theorem grown27_zero_a (N g : Nat) (A : List Int) (w : World) (hr : Row w g 2 .i64 A) (hAN : A.length = N) (hN : N ≤ 1048576) (hh : 0 < N) (hG : 4 < 2 * N) :
    Calls Try.prog 27 #[.slice (some ⟨g, 0, none⟩) N N, .int .i64 0] w fun e w' => e = .returned (.slice (some ⟨w.heap.size, 0, none⟩) (2 * N) (2 * N)) ∧ Row w' w.heap.size 2 .i64 (big A 0 (2 * N)) ∧ Below w.heap.size w w' ∧ w'.heap.size = w.heap.size + 1 := by
  have hg := hr.lt
  go_enter Try.func27, Try.ntmps27
  go_wp2_with (at_make; refine wpList_make_row _ rfl _ _ 25 rfl 2 .i64 8 Try.underlying25 info2 _ _ _ _ (2 * N) rfl rfl (by omega) (by omega) (by omega) (by unfold maxLen; omega) ?_; intro w1 hr1 hb1 hz1)
  have hra := hr.keep hb1
  obtain ⟨w2, run2, hr2, hb2, hz2⟩ := copy_run 25 3 2 Try.underlying25 size2 w1.drew w.heap.size 0 (2 * N) (2 * N) N N (some ⟨w.heap.size, 0, none⟩) (some ⟨g, 0, none⟩) (List.replicate (2 * N) 0) A hr1
    (by rw [hAN]; exact (Nat.min_eq_left (by omega)).symm) (fun _ => ⟨rfl, g, 0, rfl, fun j hj => by rw [Nat.zero_add]; exact hra.cell (j := j) (by omega)⟩) (by simp; omega)
  rw [hAN] at run2
  have hb2' : Below w.heap.size w1 w2 := ⟨hb2.os, hb2.tape, hb2.output, hb2.size, hb2.block⟩
  obtain ⟨w3, run3, hr3, hb3, hz3⟩ := copy_run 25 3 2 Try.underlying25 size2 w2 w.heap.size N ((2 * N) - N) ((2 * N) - N) 0 N (some ⟨w.heap.size, N, none⟩) (some ⟨g, 0, none⟩) _ [] hr2
    (by simp) (fun e => by simp at e) (by rw [length_splice _ _ _ (by simp; omega)]; simp; omega)
  have hrr := hr3.cast (by have e := splice_two A 0 (2 * N) N (by omega) (by omega) (by omega); simpa using e)
  have hbb : Below w.heap.size w w3 := (hb1.trans hb2').trans hb3
  have hzz : w3.heap.size = w.heap.size + 1 := by rw [hz3, hz2]; exact hz1
  have hne : ¬ N = 0 := by omega
  have l1' : N ≤ 2 * N := by omega
  have l1'' : ¬ 2 * N = N := by omega
  clear hr3 hr2 hr1 hra hb1 hb2 hb2' hb3 hz1 hz2 hz3 hr
  go_region
  go_wp2
  go_ret
  exact ⟨rfl, hrr, hbb, hzz⟩

set_option maxHeartbeats 800000 in
theorem grown27_zero_b (N g : Nat) (A : List Int) (w : World) (hr : Row w g 2 .i64 A) (hAN : A.length = N) (hN : N ≤ 1048576) (hh : 0 < N) (hG : 2 * N ≤ 4) :
    Calls Try.prog 27 #[.slice (some ⟨g, 0, none⟩) N N, .int .i64 0] w fun e w' => e = .returned (.slice (some ⟨w.heap.size, 0, none⟩) (4) (4)) ∧ Row w' w.heap.size 2 .i64 (big A 0 (4)) ∧ Below w.heap.size w w' ∧ w'.heap.size = w.heap.size + 1 := by
  have hg := hr.lt
  go_enter Try.func27, Try.ntmps27
  go_wp2_with (at_make; refine wpList_make_row _ rfl _ _ 25 rfl 2 .i64 8 Try.underlying25 info2 _ _ _ _ (4) rfl rfl (by omega) (by omega) (by omega) (by unfold maxLen; omega) ?_; intro w1 hr1 hb1 hz1)
  have hra := hr.keep hb1
  obtain ⟨w2, run2, hr2, hb2, hz2⟩ := copy_run 25 3 2 Try.underlying25 size2 w1.drew w.heap.size 0 (4) (4) N N (some ⟨w.heap.size, 0, none⟩) (some ⟨g, 0, none⟩) (List.replicate (4) 0) A hr1
    (by rw [hAN]; exact (Nat.min_eq_left (by omega)).symm) (fun _ => ⟨rfl, g, 0, rfl, fun j hj => by rw [Nat.zero_add]; exact hra.cell (j := j) (by omega)⟩) (by simp; omega)
  rw [hAN] at run2
  have hb2' : Below w.heap.size w1 w2 := ⟨hb2.os, hb2.tape, hb2.output, hb2.size, hb2.block⟩
  obtain ⟨w3, run3, hr3, hb3, hz3⟩ := copy_run 25 3 2 Try.underlying25 size2 w2 w.heap.size N ((4) - N) ((4) - N) 0 N (some ⟨w.heap.size, N, none⟩) (some ⟨g, 0, none⟩) _ [] hr2
    (by simp) (fun e => by simp at e) (by rw [length_splice _ _ _ (by simp; omega)]; simp; omega)
  have hrr := hr3.cast (by have e := splice_two A 0 (4) N (by omega) (by omega) (by omega); simpa using e)
  have hbb : Below w.heap.size w w3 := (hb1.trans hb2').trans hb3
  have hzz : w3.heap.size = w.heap.size + 1 := by rw [hz3, hz2]; exact hz1
  have hne : ¬ N = 0 := by omega
  have l1' : N ≤ 4 := by omega
  have l1'' : ¬ 4 = N := by omega
  clear hr3 hr2 hr1 hra hb1 hb2 hb2' hb3 hz1 hz2 hz3 hr
  go_region
  go_wp2
  go_ret
  exact ⟨rfl, hrr, hbb, hzz⟩

set_option maxHeartbeats 800000 in
theorem grown27_nil (w : World) :
    Calls Try.prog 27 #[.slice none 0 0, .int .i64 0] w fun e w' => e = .returned (.slice (some ⟨w.heap.size, 0, none⟩) 4 4) ∧ Row w' w.heap.size 2 .i64 (big [] 0 4) ∧ Below w.heap.size w w' ∧ w'.heap.size = w.heap.size + 1 := by
  go_enter Try.func27, Try.ntmps27
  go_wp2_with (at_make; refine wpList_make_row _ rfl _ _ 25 rfl 2 .i64 8 Try.underlying25 info2 _ _ _ _ 4 rfl rfl (by omega) (by omega) (by omega) (by unfold maxLen; omega) ?_; intro w1 hr1 hb1 hz1)
  have run2 := fun wx => run_copy_none (P := Try.prog) wx 25 25 3 2 (some ⟨w.heap.size, 0, none⟩) none 4 4 0 0 Try.underlying25 size2 (by simp)
  simp only [goInt] at run2
  have hrr : Row w1 w.heap.size 2 .i64 (big [] 0 4) := hr1.cast (by simp [big])
  clear hr1
  go_region
  go_wp2
  go_ret
  exact ⟨rfl, hrr, hb1.drew, hz1⟩

set_option maxHeartbeats 800000 in
theorem grown27_empty (g : Nat) (w : World) :
    Calls Try.prog 27 #[.slice (some ⟨g, 0, none⟩) 0 0, .int .i64 0] w fun e w' => e = .returned (.slice (some ⟨w.heap.size, 0, none⟩) 4 4) ∧ Row w' w.heap.size 2 .i64 (big [] 0 4) ∧ Below w.heap.size w w' ∧ w'.heap.size = w.heap.size + 1 := by
  go_enter Try.func27, Try.ntmps27
  go_wp2_with (at_make; refine wpList_make_row _ rfl _ _ 25 rfl 2 .i64 8 Try.underlying25 info2 _ _ _ _ 4 rfl rfl (by omega) (by omega) (by omega) (by unfold maxLen; omega) ?_; intro w1 hr1 hb1 hz1)
  have run2 := fun wx => run_copy_none (P := Try.prog) wx 25 25 3 2 (some ⟨w.heap.size, 0, none⟩) (some ⟨g, 0, none⟩) 4 4 0 0 Try.underlying25 size2 (by simp)
  simp only [goInt] at run2
  have hrr : Row w1 w.heap.size 2 .i64 (big [] 0 4) := hr1.cast (by simp [big])
  clear hr1
  go_region
  go_wp2
  go_ret
  exact ⟨rfl, hrr, hb1.drew, hz1⟩

set_option maxHeartbeats 800000 in
theorem grown28_zero_a (N g : Nat) (A : List Int) (w : World) (hr : Row w g 3 .i64 A) (hAN : A.length = N) (hN : N ≤ 1048576) (hh : 0 < N) (hG : 4 < 2 * N) :
    Calls Try.prog 28 #[.slice (some ⟨g, 0, none⟩) N N, .int .i64 0] w fun e w' => e = .returned (.slice (some ⟨w.heap.size, 0, none⟩) (2 * N) (2 * N)) ∧ Row w' w.heap.size 3 .i64 (big A 0 (2 * N)) ∧ Below w.heap.size w w' ∧ w'.heap.size = w.heap.size + 1 := by
  have hg := hr.lt
  go_enter Try.func28, Try.ntmps28
  go_wp2_with (at_make; refine wpList_make_row _ rfl _ _ 26 rfl 3 .i64 8 Try.underlying26 info3 _ _ _ _ (2 * N) rfl rfl (by omega) (by omega) (by omega) (by unfold maxLen; omega) ?_; intro w1 hr1 hb1 hz1)
  have hra := hr.keep hb1
  obtain ⟨w2, run2, hr2, hb2, hz2⟩ := copy_run 26 3 3 Try.underlying26 size3 w1.drew w.heap.size 0 (2 * N) (2 * N) N N (some ⟨w.heap.size, 0, none⟩) (some ⟨g, 0, none⟩) (List.replicate (2 * N) 0) A hr1
    (by rw [hAN]; exact (Nat.min_eq_left (by omega)).symm) (fun _ => ⟨rfl, g, 0, rfl, fun j hj => by rw [Nat.zero_add]; exact hra.cell (j := j) (by omega)⟩) (by simp; omega)
  rw [hAN] at run2
  have hb2' : Below w.heap.size w1 w2 := ⟨hb2.os, hb2.tape, hb2.output, hb2.size, hb2.block⟩
  obtain ⟨w3, run3, hr3, hb3, hz3⟩ := copy_run 26 3 3 Try.underlying26 size3 w2 w.heap.size N ((2 * N) - N) ((2 * N) - N) 0 N (some ⟨w.heap.size, N, none⟩) (some ⟨g, 0, none⟩) _ [] hr2
    (by simp) (fun e => by simp at e) (by rw [length_splice _ _ _ (by simp; omega)]; simp; omega)
  have hrr := hr3.cast (by have e := splice_two A 0 (2 * N) N (by omega) (by omega) (by omega); simpa using e)
  have hbb : Below w.heap.size w w3 := (hb1.trans hb2').trans hb3
  have hzz : w3.heap.size = w.heap.size + 1 := by rw [hz3, hz2]; exact hz1
  have hne : ¬ N = 0 := by omega
  have l1' : N ≤ 2 * N := by omega
  have l1'' : ¬ 2 * N = N := by omega
  clear hr3 hr2 hr1 hra hb1 hb2 hb2' hb3 hz1 hz2 hz3 hr
  go_region
  go_wp2
  go_ret
  exact ⟨rfl, hrr, hbb, hzz⟩

set_option maxHeartbeats 800000 in
theorem grown28_zero_b (N g : Nat) (A : List Int) (w : World) (hr : Row w g 3 .i64 A) (hAN : A.length = N) (hN : N ≤ 1048576) (hh : 0 < N) (hG : 2 * N ≤ 4) :
    Calls Try.prog 28 #[.slice (some ⟨g, 0, none⟩) N N, .int .i64 0] w fun e w' => e = .returned (.slice (some ⟨w.heap.size, 0, none⟩) (4) (4)) ∧ Row w' w.heap.size 3 .i64 (big A 0 (4)) ∧ Below w.heap.size w w' ∧ w'.heap.size = w.heap.size + 1 := by
  have hg := hr.lt
  go_enter Try.func28, Try.ntmps28
  go_wp2_with (at_make; refine wpList_make_row _ rfl _ _ 26 rfl 3 .i64 8 Try.underlying26 info3 _ _ _ _ (4) rfl rfl (by omega) (by omega) (by omega) (by unfold maxLen; omega) ?_; intro w1 hr1 hb1 hz1)
  have hra := hr.keep hb1
  obtain ⟨w2, run2, hr2, hb2, hz2⟩ := copy_run 26 3 3 Try.underlying26 size3 w1.drew w.heap.size 0 (4) (4) N N (some ⟨w.heap.size, 0, none⟩) (some ⟨g, 0, none⟩) (List.replicate (4) 0) A hr1
    (by rw [hAN]; exact (Nat.min_eq_left (by omega)).symm) (fun _ => ⟨rfl, g, 0, rfl, fun j hj => by rw [Nat.zero_add]; exact hra.cell (j := j) (by omega)⟩) (by simp; omega)
  rw [hAN] at run2
  have hb2' : Below w.heap.size w1 w2 := ⟨hb2.os, hb2.tape, hb2.output, hb2.size, hb2.block⟩
  obtain ⟨w3, run3, hr3, hb3, hz3⟩ := copy_run 26 3 3 Try.underlying26 size3 w2 w.heap.size N ((4) - N) ((4) - N) 0 N (some ⟨w.heap.size, N, none⟩) (some ⟨g, 0, none⟩) _ [] hr2
    (by simp) (fun e => by simp at e) (by rw [length_splice _ _ _ (by simp; omega)]; simp; omega)
  have hrr := hr3.cast (by have e := splice_two A 0 (4) N (by omega) (by omega) (by omega); simpa using e)
  have hbb : Below w.heap.size w w3 := (hb1.trans hb2').trans hb3
  have hzz : w3.heap.size = w.heap.size + 1 := by rw [hz3, hz2]; exact hz1
  have hne : ¬ N = 0 := by omega
  have l1' : N ≤ 4 := by omega
  have l1'' : ¬ 4 = N := by omega
  clear hr3 hr2 hr1 hra hb1 hb2 hb2' hb3 hz1 hz2 hz3 hr
  go_region
  go_wp2
  go_ret
  exact ⟨rfl, hrr, hbb, hzz⟩

set_option maxHeartbeats 800000 in
theorem grown28_nil (w : World) :
    Calls Try.prog 28 #[.slice none 0 0, .int .i64 0] w fun e w' => e = .returned (.slice (some ⟨w.heap.size, 0, none⟩) 4 4) ∧ Row w' w.heap.size 3 .i64 (big [] 0 4) ∧ Below w.heap.size w w' ∧ w'.heap.size = w.heap.size + 1 := by
  go_enter Try.func28, Try.ntmps28
  go_wp2_with (at_make; refine wpList_make_row _ rfl _ _ 26 rfl 3 .i64 8 Try.underlying26 info3 _ _ _ _ 4 rfl rfl (by omega) (by omega) (by omega) (by unfold maxLen; omega) ?_; intro w1 hr1 hb1 hz1)
  have run2 := fun wx => run_copy_none (P := Try.prog) wx 26 26 3 3 (some ⟨w.heap.size, 0, none⟩) none 4 4 0 0 Try.underlying26 size3 (by simp)
  simp only [goInt] at run2
  have hrr : Row w1 w.heap.size 3 .i64 (big [] 0 4) := hr1.cast (by simp [big])
  clear hr1
  go_region
  go_wp2
  go_ret
  exact ⟨rfl, hrr, hb1.drew, hz1⟩

set_option maxHeartbeats 800000 in
theorem grown28_empty (g : Nat) (w : World) :
    Calls Try.prog 28 #[.slice (some ⟨g, 0, none⟩) 0 0, .int .i64 0] w fun e w' => e = .returned (.slice (some ⟨w.heap.size, 0, none⟩) 4 4) ∧ Row w' w.heap.size 3 .i64 (big [] 0 4) ∧ Below w.heap.size w w' ∧ w'.heap.size = w.heap.size + 1 := by
  go_enter Try.func28, Try.ntmps28
  go_wp2_with (at_make; refine wpList_make_row _ rfl _ _ 26 rfl 3 .i64 8 Try.underlying26 info3 _ _ _ _ 4 rfl rfl (by omega) (by omega) (by omega) (by unfold maxLen; omega) ?_; intro w1 hr1 hb1 hz1)
  have run2 := fun wx => run_copy_none (P := Try.prog) wx 26 26 3 3 (some ⟨w.heap.size, 0, none⟩) (some ⟨g, 0, none⟩) 4 4 0 0 Try.underlying26 size3 (by simp)
  simp only [goInt] at run2
  have hrr : Row w1 w.heap.size 3 .i64 (big [] 0 4) := hr1.cast (by simp [big])
  clear hr1
  go_region
  go_wp2
  go_ret
  exact ⟨rfl, hrr, hb1.drew, hz1⟩

/-- The length of a ring that was full at length N. -/
def room (N : Nat) : Nat := max 4 (2 * N)
theorem room_a (N : Nat) (h : 4 < 2 * N) : room N = 2 * N := by unfold room; omega
theorem room_b (N : Nat) (h : 2 * N ≤ 4) : room N = 4 := by unfold room; omega
theorem cast0 : ((0 : Nat) : Int) = 0 := rfl

theorem grown27_any (N h : Nat) (a : Option Addr) (A : List Int) (w : World) (ha : Sl w a 2 A) (hAN : A.length = N) (hN : N ≤ 524288) (h0 : N = 0 → h = 0) (hh : 0 < N → h < N) :
    Calls Try.prog 27 #[.slice a N N, .int .i64 h] w fun e w' => e = .returned (.slice (some ⟨w.heap.size, 0, none⟩) (room N) (room N)) ∧ Row w' w.heap.size 2 .i64 (big A h (room N)) ∧ Below w.heap.size w w' ∧ w'.heap.size = w.heap.size + 1 := by
  by_cases hN0 : N = 0
  · obtain rfl := h0 hN0
    obtain rfl : A = [] := List.eq_nil_of_length_eq_zero (by omega)
    subst hN0
    rw [room_b 0 (by omega), cast0]
    rcases ha with ⟨rfl, _⟩ | ⟨g, rfl, _⟩
    · exact grown27_nil w
    · exact grown27_empty g w
  · have hh' := hh (by omega)
    obtain ⟨g, rfl, hr⟩ := ha.some (by omega)
    by_cases hz : h = 0
    · subst hz
      rw [cast0]
      by_cases h4 : 4 < 2 * N
      · rw [room_a N h4]; exact grown27_zero_a N g A w hr hAN (by omega) (by omega) h4
      · rw [room_b N (by omega)]; exact grown27_zero_b N g A w hr hAN (by omega) (by omega) (by omega)
    · by_cases h4 : 4 < 2 * N
      · rw [room_a N h4]; exact grown27_mid_a N h g A w hr hAN (by omega) (by omega) hh' h4
      · rw [room_b N (by omega)]; exact grown27_mid_b N h g A w hr hAN (by omega) (by omega) hh' (by omega)

theorem grown28_any (N h : Nat) (a : Option Addr) (A : List Int) (w : World) (ha : Sl w a 3 A) (hAN : A.length = N) (hN : N ≤ 524288) (h0 : N = 0 → h = 0) (hh : 0 < N → h < N) :
    Calls Try.prog 28 #[.slice a N N, .int .i64 h] w fun e w' => e = .returned (.slice (some ⟨w.heap.size, 0, none⟩) (room N) (room N)) ∧ Row w' w.heap.size 3 .i64 (big A h (room N)) ∧ Below w.heap.size w w' ∧ w'.heap.size = w.heap.size + 1 := by
  by_cases hN0 : N = 0
  · obtain rfl := h0 hN0
    obtain rfl : A = [] := List.eq_nil_of_length_eq_zero (by omega)
    subst hN0
    rw [room_b 0 (by omega), cast0]
    rcases ha with ⟨rfl, _⟩ | ⟨g, rfl, _⟩
    · exact grown28_nil w
    · exact grown28_empty g w
  · have hh' := hh (by omega)
    obtain ⟨g, rfl, hr⟩ := ha.some (by omega)
    by_cases hz : h = 0
    · subst hz
      rw [cast0]
      by_cases h4 : 4 < 2 * N
      · rw [room_a N h4]; exact grown28_zero_a N g A w hr hAN (by omega) (by omega) h4
      · rw [room_b N (by omega)]; exact grown28_zero_b N g A w hr hAN (by omega) (by omega) (by omega)
    · by_cases h4 : 4 < 2 * N
      · rw [room_a N h4]; exact grown28_mid_a N h g A w hr hAN (by omega) (by omega) hh' h4
      · rw [room_b N (by omega)]; exact grown28_mid_b N h g A w hr hAN (by omega) (by omega) hh' (by omega)
end Go.Proofs.Qxb6601013a.Grown
