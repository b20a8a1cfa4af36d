/-
  slot and push.
-/
import Derived.Test.Qxb6601013aRing
import Derived.Test.Qxb6601013aEnt
import Derived.Deep.RegionWith
import Derived.Deep.DeepCutAuto
namespace Go.Proofs.Qxb6601013a.Push
open Go.RowKit Go.Proofs.Qxb6601013a.Mem Go.Proofs.Qxb6601013a.Clone Go.Proofs.Qxb6601013a.Log Go.Proofs.Qxb6601013a.Grown Go.Proofs.Qxb6601013a.Ring

set_option maxHeartbeats 800000 in
theorem slot_any (l : Nat) (a c : Option Addr) (N M : Nat) (h n : Nat) (m t : Int) (w : World) (hl : LogAt w l a N c M h m t) (hN : N ≤ 1048576) (hN0 : 0 < N) (hh : h < N) (hn : n < N) (hb : bits .and .i64 ((h : Int) + (n : Int)) ((N : Int) - 1) = (((h + n) % N : Nat) : Int)) :
    Calls Try.prog 29 #[.pointer (some ⟨l, 0, none⟩), .int .i64 n] w fun e w' => e = .returned (.int .i64 (((h + n) % N : Nat) : Int)) ∧ Below w.heap.size w w' := by
  have k0 := hl.c0
  have k2 := hl.c2
  go_enter Try.func29, Try.ntmps29
  go_wp2
  go_quiet (fail)
  go_wp2
  go_ret
  exact ⟨rfl, below_drewN (Below.refl _ _) _⟩

/-- The log at l, in the world w', holds the entries V with the costs K, n of them, from head h, in a ring of length N; 'nl': no costs are kept apart. Since w only blocks in S, and new ones, have turned; the ring lies there. -/
def Holds (S : Nat → Prop) (w : World) (l N h n : Nat) (t : Int) (nl : Bool) (V K : List Int) (w' : World) : Prop :=
  ∃ a c M A C, LogAt w' l a N c M h n t ∧ Sl w' a 2 A ∧ A.length = N ∧ Sl w' c 3 C ∧ C.length = M ∧ (c.isNone = false → M = N) ∧ c.isNone = nl ∧ view N A h n = V ∧ cv N c C h n = K ∧ Keeps S w w' ∧
    (∀ y, a = some y → S y.block ∨ w.heap.size ≤ y.block) ∧ (∀ y, c = some y → S y.block ∨ w.heap.size ≤ y.block)

def next (N n : Nat) : Nat := if n = N then room N else N
def nexth (N h n : Nat) : Nat := if n = N then 0 else h

theorem Holds.drew {S : Nat → Prop} {w : World} {l N h n : Nat} {t : Int} {nl : Bool} {V K : List Int} {w' : World} (H : Holds S w l N h n t nl V K w') : Holds S w l N h n t nl V K w'.drew := H
theorem Below.undrew {B : Nat} {w w' : World} (H : Below B w.drew w') : Below B w w' := ⟨H.os, H.tape, H.output, H.size, H.block⟩
theorem Below.undrewN {B k : Nat} {w w' : World} (H : Below B (w.drewN k) w') : Below B w w' := ⟨H.os, H.tape, H.output, H.size, H.block⟩

/-- A full ring without costs, doubled. -/
theorem full_none {S : Nat → Prop} {l h n : Nat} {a : Option Addr} {A C : List Int} {t : Int} {w w1 : World} (hS : S l) (hl : LogAt w l a n none 0 h n t) (hAN : A.length = n) (hh : 0 < n → h < n) (h0 : n = 0 → h = 0)
    (hr1 : Row w1 w.heap.size 2 .i64 (big A h (room n))) (hb1 : Below w.heap.size w w1) :
    Holds S w l (next n n) (nexth n h n) n t true (view n A h n) (cv n none C h n) ((w1.setCell ⟨l, 0, none⟩ (.slice (some ⟨w.heap.size, 0, none⟩) (room n) (room n))).setCell ⟨l, 2, none⟩ (.int .i64 0)) := by
  have hlt := hl.lt
  have hle : n ≤ room n := Nat.le_of_lt (room_lt n)
  have hhn : h ≤ A.length := by
    by_cases e : n = 0
    · have := h0 e; omega
    · have := hh (by omega); omega
  refine ⟨some ⟨w.heap.size, 0, none⟩, none, 0, big A h (room n), [], ?_, .inr ⟨_, rfl, ?_⟩, ?_, .inl ⟨rfl, rfl⟩, rfl, by simp, rfl, ?_, ?_, ?_, ?_, by simp⟩
  · simp only [next, nexth, if_pos]
    exact ((hl.keep hb1).set0 _ _).set2 0
  · exact (hr1.store_other (by omega) _).store_other (by omega) _
  · simp only [next, if_pos]
    exact big_len A h (room n) hhn (by omega)
  · simp only [next, nexth, if_pos]
    exact view_big n A h (room n) hAN hh hle
  · simp [cv]
  · exact ((Keeps.of_below hb1).setCell (.inl hS) 0 _).setCell (.inl hS) 2 _
  · intro y hy
    simp only [Option.some.injEq] at hy
    subst hy
    exact .inr (Nat.le_refl _)

/-- A full ring with costs, doubled. -/
theorem full_some {S : Nat → Prop} {l h n gc : Nat} {a : Option Addr} {A C : List Int} {t : Int} {w w1 w2 : World} (hS : S l) (hl : LogAt w l a n (some ⟨gc, 0, none⟩) n h n t) (hAN : A.length = n) (hCN : C.length = n) (hh : 0 < n → h < n) (h0 : n = 0 → h = 0)
    (hr1 : Row w1 w.heap.size 2 .i64 (big A h (room n))) (hb1 : Below w.heap.size w w1) (hr2 : Row w2 w1.heap.size 3 .i64 (big C h (room n))) (hb2 : Below w1.heap.size (w1.setCell ⟨l, 0, none⟩ (.slice (some ⟨w.heap.size, 0, none⟩) (room n) (room n))) w2) :
    Holds S w l (next n n) (nexth n h n) n t false (view n A h n) (cv n (some ⟨gc, 0, none⟩) C h n) ((w2.setCell ⟨l, 1, none⟩ (.slice (some ⟨w1.heap.size, 0, none⟩) (room n) (room n))).setCell ⟨l, 2, none⟩ (.int .i64 0)) := by
  have hlt := hl.lt
  have hle : n ≤ room n := Nat.le_of_lt (room_lt n)
  have hhn : h ≤ n := by
    by_cases e : n = 0
    · have := h0 e; omega
    · have := hh (by omega); omega
  have hg1 := hr1.lt
  have hL1 := (hl.keep hb1).set0 (some ⟨w.heap.size, 0, none⟩) (room n)
  have hsz := hb1.size
  have hL2 : LogAt w2 l _ _ _ _ _ _ _ := hL1.of_eq (hb2.block l (by omega))
  have hR1 : Row w2 w.heap.size 2 .i64 (big A h (room n)) := (hr1.store_other (b := l) (j := 0) (by omega) (.slice (some ⟨w.heap.size, 0, none⟩) (room n) (room n))).of_eq (hb2.block _ hg1)
  refine ⟨some ⟨w.heap.size, 0, none⟩, some ⟨w1.heap.size, 0, none⟩, room n, big A h (room n), big C h (room n), ?_, .inr ⟨_, rfl, ?_⟩, ?_, .inr ⟨_, rfl, ?_⟩, ?_, ?_, rfl, ?_, ?_, ?_, ?_, ?_⟩
  · simp only [next, nexth, if_pos]
    exact (hL2.set1 _ _).set2 0
  · exact (hR1.store_other (by omega) _).store_other (by omega) _
  · simp only [next, if_pos]
    exact big_len A h (room n) (by omega) (by omega)
  · exact (hr2.store_other (by omega) _).store_other (by omega) _
  · exact big_len C h (room n) (by omega) (by omega)
  · intro _
    simp only [next, if_pos]
  · simp only [next, nexth, if_pos]
    exact view_big n A h (room n) hAN hh hle
  · simp only [cv, next, nexth, if_pos, Option.isNone_some, Bool.false_eq_true, if_false]
    exact view_big n C h (room n) hCN hh hle
  · have K1 := (Keeps.of_below (S := S) hb1).setCell (b := l) (.inl hS) 0 (.slice (some ⟨w.heap.size, 0, none⟩) (room n) (room n))
    have K2 : Keeps S w w2 := K1.trans (S' := fun k => w1.heap.size ≤ k) ⟨hb2.os, hb2.tape, hb2.output, hb2.size, fun k _ hk => hb2.block k (by omega)⟩ (fun k hk => .inr (by omega))
    exact (K2.setCell (.inl hS) 1 _).setCell (.inl hS) 2 _
  · intro y hy
    simp only [Option.some.injEq] at hy
    subst hy
    exact .inr (Nat.le_refl _)
  · intro y hy
    simp only [Option.some.injEq] at hy
    subst hy
    exact .inr hsz

/-- A ring that is not full stays as it is. -/
theorem not_full {S : Nat → Prop} {l N M h n : Nat} {a c : Option Addr} {A C : List Int} {t : Int} {w : World} (hSa : ∀ y, a = some y → S y.block) (hSc : ∀ y, c = some y → S y.block)
    (hl : LogAt w l a N c M h n t) (ha : Sl w a 2 A) (hAN : A.length = N) (hc : Sl w c 3 C) (hCM : C.length = M) (hMN : c.isNone = false → M = N) (hn : ¬ n = N) :
    Holds S w l (next N n) (nexth N h n) n t c.isNone (view N A h n) (cv N c C h n) w := by
  unfold next nexth
  rw [if_neg hn, if_neg hn]
  exact ⟨a, c, M, A, C, hl, ha, hAN, hc, hCM, hMN, rfl, rfl, rfl, Keeps.refl _ _, fun y hy => .inl (hSa y hy), fun y hy => .inl (hSc y hy)⟩

theorem cast_succ (n : Nat) : ((n + 1 : Nat) : Int) = (n : Int) + 1 := by omega

theorem end_one {S : Nat → Prop} {l N h n g : Nat} {A C V K : List Int} {t x : Int} {w w2 : World} (hS : S l) (hSg : S g ∨ w.heap.size ≤ g) (hL : LogAt w2 l (some ⟨g, 0, none⟩) N none 0 h n t) (hr : Row w2 g 2 .i64 A) (hA : A.length = N) (hn : n < N)
    (hV : view N A h n = V) (hK : cv N none C h n = K) (hk : Keeps S w w2) :
    Holds S w l N h (n + 1) t true (V ++ [x]) (K ++ [1]) ((w2.setCell ⟨g, (h + n) % N, none⟩ (.int .i64 x)).setCell ⟨l, 3, none⟩ (.int .i64 ((n : Int) + 1))) := by
  have hne := hL.ne hr (by decide)
  refine ⟨some ⟨g, 0, none⟩, none, 0, A.set ((h + n) % N) x, [], ?_, .inr ⟨_, rfl, ?_⟩, by simpa using hA, .inl ⟨rfl, rfl⟩, rfl, by simp, rfl, ?_, ?_, ?_, ?_, by simp⟩
  · rw [cast_succ]
    exact (hL.of_eq (w' := w2.setCell ⟨g, (h + n) % N, none⟩ (.int .i64 x)) (heap_setCell_other w2 ⟨g, (h + n) % N, none⟩ l _ (Ne.symm hne))).set3 _
  · exact (hr.set _ x).store_other hne _
  · rw [view_push N A h n x hA hn, hV]
  · rw [← hK]
    simp [cv, ones_snoc]
  · exact (hk.setCell hSg _ _).setCell (.inl hS) _ _
  · intro y hy
    simp only [Option.some.injEq] at hy
    subst hy
    exact hSg

theorem end_new {S : Nat → Prop} {l N h n g q : Nat} {A C V K : List Int} {t x v : Int} {w w2 w4 : World} (hS : S l) (hSg : S g ∨ w.heap.size ≤ g) (hL : LogAt w2 l (some ⟨g, 0, none⟩) N none 0 h n t) (hr : Row w2 g 2 .i64 A) (hA : A.length = N) (hn : n < N)
    (hV : view N A h n = V) (hK : cv N none C h n = K) (hk : Keeps S w w2)
    (hL4 : LogAt w4 l (some ⟨g, 0, none⟩) N (some ⟨q, 0, none⟩) N h n t) (hr4 : Row w4 q 3 .i64 (List.replicate N 1)) (hk4 : Keeps (fun k => k = l) (w2.setCell ⟨g, (h + n) % N, none⟩ (.int .i64 x)) w4) (hq : w2.heap.size ≤ q) :
    Holds S w l N h (n + 1) t false (V ++ [x]) (K ++ [v]) ((w4.setCell ⟨q, (h + n) % N, none⟩ (.int .i64 v)).setCell ⟨l, 3, none⟩ (.int .i64 ((n : Int) + 1))) := by
  have hne := hL.ne hr (by decide)
  have hlt := hL.lt
  have hg := hr.lt
  have hsz := hk.size
  have hr3 : Row w4 g 2 .i64 (A.set ((h + n) % N) x) := (hr.set ((h + n) % N) x).stay hk4 hne
  have hk3 : Keeps S w (w2.setCell ⟨g, (h + n) % N, none⟩ (.int .i64 x)) := hk.setCell hSg _ _
  refine ⟨some ⟨g, 0, none⟩, some ⟨q, 0, none⟩, N, A.set ((h + n) % N) x, (List.replicate N (1 : Int)).set ((h + n) % N) v, ?_, .inr ⟨_, rfl, ?_⟩, by simpa using hA, .inr ⟨_, rfl, ?_⟩, by simp, by simp, rfl, ?_, ?_, ?_, ?_, ?_⟩
  · rw [cast_succ]
    exact (hL4.of_eq (w' := w4.setCell ⟨q, (h + n) % N, none⟩ (.int .i64 v)) (heap_setCell_other w4 ⟨q, (h + n) % N, none⟩ l _ (show l ≠ q by omega))).set3 _
  · exact (hr3.store_other (by omega) _).store_other hne _
  · exact (hr4.set _ v).store_other (by omega) _
  · rw [view_push N A h n x hA hn, hV]
  · rw [← hK]
    simp only [cv, Option.isNone_some, Option.isNone_none, Bool.false_eq_true, if_false, if_true]
    rw [view_push N _ h n v (by simp) hn, view_ones N h n (by omega)]
  · exact ((hk3.trans hk4 (fun k e => .inl (by subst e; exact hS))).setCell (.inr (by omega)) _ _).setCell (.inl hS) _ _
  · intro y hy
    simp only [Option.some.injEq] at hy
    subst hy
    exact hSg
  · intro y hy
    simp only [Option.some.injEq] at hy
    subst hy
    exact .inr (by show w.heap.size ≤ q; omega)

theorem end_apart {S : Nat → Prop} {l N h n g gc : Nat} {A C V K : List Int} {t x v : Int} {w w2 : World} (hS : S l) (hSg : S g ∨ w.heap.size ≤ g) (hSc : S gc ∨ w.heap.size ≤ gc) (hL : LogAt w2 l (some ⟨g, 0, none⟩) N (some ⟨gc, 0, none⟩) N h n t)
    (hr : Row w2 g 2 .i64 A) (hA : A.length = N) (hrc : Row w2 gc 3 .i64 C) (hC : C.length = N) (hn : n < N)
    (hV : view N A h n = V) (hK : cv N (some ⟨gc, 0, none⟩) C h n = K) (hk : Keeps S w w2) :
    Holds S w l N h (n + 1) t false (V ++ [x]) (K ++ [v]) (((w2.setCell ⟨g, (h + n) % N, none⟩ (.int .i64 x)).setCell ⟨gc, (h + n) % N, none⟩ (.int .i64 v)).setCell ⟨l, 3, none⟩ (.int .i64 ((n : Int) + 1))) := by
  have hne := hL.ne hr (by decide)
  have hnc := hL.ne hrc (by decide)
  have hgc : g ≠ gc := hr.ne hrc (by decide)
  refine ⟨some ⟨g, 0, none⟩, some ⟨gc, 0, none⟩, N, A.set ((h + n) % N) x, C.set ((h + n) % N) v, ?_, .inr ⟨_, rfl, ?_⟩, by simpa using hA, .inr ⟨_, rfl, ?_⟩, by simpa using hC, by simp, rfl, ?_, ?_, ?_, ?_, ?_⟩
  · rw [cast_succ]
    have H1 := hL.of_eq (w' := w2.setCell ⟨g, (h + n) % N, none⟩ (.int .i64 x)) (heap_setCell_other w2 ⟨g, (h + n) % N, none⟩ l _ (Ne.symm hne))
    exact (H1.of_eq (heap_setCell_other _ ⟨gc, (h + n) % N, none⟩ l (.int .i64 v) (Ne.symm hnc))).set3 _
  · exact ((hr.set _ x).store_other hgc _).store_other hne _
  · exact ((hrc.store_other (Ne.symm hgc) _).set _ v).store_other hnc _
  · rw [view_push N A h n x hA hn, hV]
  · rw [← hK]
    simp only [cv, Option.isNone_some, Bool.false_eq_true, if_false]
    rw [view_push N C h n v hC hn]
  · exact ((hk.setCell hSg _ _).setCell hSc _ _).setCell (.inl hS) _ _
  · intro y hy
    simp only [Option.some.injEq] at hy
    subst hy
    exact hSg
  · intro y hy
    simp only [Option.some.injEq] at hy
    subst hy
    exact hSc

theorem next_facts (N h n : Nat) (hp : N = 0 ∨ Pow N) (hN : N ≤ 524288) (hn : n ≤ N) (hh : 0 < N → h < N) : n < next N n ∧ nexth N h n < next N n ∧ Pow (next N n) ∧ next N n ≤ 1048576 := by
  unfold next nexth
  by_cases e : n = N
  · subst e
    rw [if_pos rfl, if_pos rfl]
    have := room_lt n
    exact ⟨this, by omega, pow_room n hp, room_le n hN⟩
  · rw [if_neg e, if_neg e]
    exact ⟨by omega, hh (by omega), hp.resolve_left (by omega), by omega⟩

set_option maxRecDepth 100000 in
set_option maxHeartbeats 1600000 in
theorem push_any (S : Nat → Prop) (l N M h n : Nat) (a c : Option Addr) (A C : List Int) (t x v : Int) (w : World) (hS : S l) (hSa : ∀ y, a = some y → S y.block) (hSc : ∀ y, c = some y → S y.block)
    (hl : LogAt w l a N c M h n t) (ha : Sl w a 2 A) (hAN : A.length = N) (hc : Sl w c 3 C) (hCM : C.length = M) (hMN : c.isNone = false → M = N) (hp : N = 0 ∨ Pow N) (hN : N ≤ 524288) (hn : n ≤ N) (h0 : N = 0 → h = 0) (hh : 0 < N → h < N) :
    Calls Try.prog 25 #[.pointer (some ⟨l, 0, none⟩), .int .i64 x, .int .i64 v] w fun e w' => e = .returned (.tuple #[]) ∧
      Holds S w l (next N n) (nexth N h n) (n + 1) t (c.isNone && v == 1) (view N A h n ++ [x]) (cv N c C h n ++ [v]) w' := by
  have k0 := hl.c0
  have k1 := hl.c1
  have k2 := hl.c2
  have k3 := hl.c3
  have f0 := hl.free 0
  have f1 := hl.free 1
  have f2 := hl.free 2
  have hs := nqn26
  have HMN := hide hMN
  have H0 := hide h0
  have Hp := hide hp
  have Hh := hide hh
  clear hMN h0 hp hh
  go_enter Try.func25, Try.ntmps25
  go_wp2
  go_quiet (fail)
  go_upto_if 16 with (fail)
  go_cut [] (fun wj => Holds S w l (next N n) (nexth N h n) n t c.isNone (view N A h n) (cv N c C h n) wj)
  case first =>
    by_cases hfull : n = N
    · subst hfull
      rcases hc with ⟨rfl, rfl⟩ | ⟨gc, rfl, hrc⟩
      · obtain rfl : 0 = M := by simpa using hCM
        go_wp2
        go_region_with (go_at_call 27; refine (grown27_any n h a A _ (by exact ha) hAN hN (unhide H0) (unhide Hh)).mono ?_; rintro e w1 ⟨rfl, hr1, hb1, hz1⟩; have hl1 := LogAt.keep (by exact hl) hb1; have k0' := hl1.c0; have k1' := hl1.c1; have k2' := hl1.c2; have f0' := hl1.free 0; have f2' := hl1.free 2; have R := hide (full_none (S := S) (C := []) hS hl hAN (unhide Hh) (unhide H0) (by exact hr1) (by exact (Below.undrewN (Below.undrew hb1)))); clear hz1 hr1 hb1 hl1)
        all_goals
          go_wp2
          go_meet
          case rel => exact unhide R
      · obtain rfl : n = M := ((unhide HMN) rfl).symm
        have hgl := hl.ne hrc (by decide)
        go_wp2
        go_region_with (go_at_call 27; refine (grown27_any n h a A _ (by exact ha) hAN hN (unhide H0) (unhide Hh)).mono ?_; rintro e w1 ⟨rfl, hr1, hb1, hz1⟩; have hl1 := LogAt.keep (by exact hl) hb1; have k0' := hl1.c0; have k1' := hl1.c1; have k2' := hl1.c2; have f0' := hl1.free 0; have hr1' : Row w1 w.heap.size 2 .i64 (big A h (room n)) := hr1; have hb1' : Below w.heap.size w w1 := Below.undrewN (Below.undrew hb1); clear hz1 hr1 hb1)
        all_goals
          have L3 := hl1.set0 (some ⟨w.heap.size, 0, none⟩) (room n)
          have hrc3 := (hrc.keep hb1').store_other (b := l) (j := 0) hgl (.slice (some ⟨w.heap.size, 0, none⟩) (room n) (room n))
          clear hl1
          go_wp2
          go_region_with (go_at_call 28; refine (grown28_any n h (some ⟨gc, 0, none⟩) C _ (by exact .inr ⟨gc, rfl, hrc3⟩) hCM hN (unhide H0) (unhide Hh)).mono ?_; rintro e w2 ⟨rfl, hr2, hb2, hz2⟩; have hl2 := LogAt.keep (by exact L3) hb2; have k1'' := hl2.c1; have k2'' := hl2.c2; have f1'' := hl2.free 1; have f2'' := hl2.free 2; clear hz2)
          all_goals
            have hr2' : Row w2 w1.heap.size 3 .i64 (big C h (room n)) := by simpa using hr2
            have hb2' : Below w1.heap.size (w1.setCell ⟨l, 0, none⟩ (.slice (some ⟨w.heap.size, 0, none⟩) (room n) (room n))) w2 := by simpa using Below.undrew hb2
            have R := hide (full_some (S := S) hS hl hAN hCM (unhide Hh) (unhide H0) hr1' hb1' hr2' hb2')
            clear hr2 hb2 hr2' hb2' hl2 L3
            go_wp2
            go_meet
            case rel => exact unhide R
    · have hf : ((n : Int) == (N : Int)) = false := beq_eq_false_iff_ne.2 (by omega)
      have R := hide (not_full (S := S) hSa hSc hl ha hAN hc hCM (unhide HMN) hfull)
      go_wp2
      go_meet
      case rel => exact unhide R
  case rest =>
    obtain ⟨q1, q2, q3, q4⟩ := next_facts N h n (unhide Hp) hN hn (unhide Hh)
    obtain ⟨N1, hN1⟩ : ∃ N1, next N n = N1 := ⟨_, rfl⟩
    obtain ⟨h1, hh1⟩ : ∃ h1, nexth N h n = h1 := ⟨_, rfl⟩
    obtain ⟨V, hV1⟩ : ∃ V, view N A h n = V := ⟨_, rfl⟩
    obtain ⟨K, hK1⟩ : ∃ K, cv N c C h n = K := ⟨_, rfl⟩
    have fin : ∀ b w', c.isNone = b → Holds S w l N1 h1 (n + 1) t (b && v == 1) (V ++ [x]) (K ++ [v]) w' → Holds S w l (next N n) (nexth N h n) (n + 1) t (c.isNone && v == 1) (view N A h n ++ [x]) (cv N c C h n ++ [v]) w' := fun b w' e H => by rw [e, hN1, hh1, hV1, hK1]; exact H
    have Fin := hide fin
    rw [hN1] at q1 q2 q3 q4
    rw [hh1] at q2
    rw [hN1, hh1, hV1, hK1] at hcut
    clear fin hN1 hh1 hV1 hK1
    have hmask := mask N1 h1 n q3 q4 (by omega) (by omega)
    have hs0 := Nat.mod_lt (h1 + n) (show 0 < N1 by omega)
    have hm := mod_bounds h1 n N1 (by omega)
    obtain ⟨a1, c1, M1, A1, C1, hL, hA, hAl, hC, hCl, hMl, hnil, hV, hK, hKe, hSa1, hSc1⟩ := hcut
    obtain ⟨g, rfl, hrA⟩ := hA.some (by omega)
    have HSg := hide (hSa1 _ rfl)
    have HSc := hide hSc1
    have HV := hide hV
    have HK := hide hK
    have HKe := hide hKe
    have HMl := hide hMl
    have Hnil := hide hnil
    clear hl ha hAN hc hCM hA hSa1 hSc1 hV hK hKe hMl hSa hSc k0 k1 k2 k3 f0 f1 f2 HMN H0 Hp Hh q3 hnil hn hN
    have kn := hL.c3
    go_wp2_with fail
    refine (slot_any l (some ⟨g, 0, none⟩) c1 N1 M1 h1 n n t _ hL q4 (by omega) (by omega) (by omega) hmask).mono ?_
    rintro e w2 ⟨rfl, hb2⟩
    have L2 := hL.keep hb2
    have rA2 := hrA.keep hb2
    have C2 := hC.keep hb2
    have K2 := hide ((unhide HKe).trans (Keeps.of_below (S := S) hb2) (fun k e => .inl e))
    clear hmask hL hrA hC hb2 kn
    have hgl := L2.ne rA2 (by decide)
    obtain ⟨v0, hcg⟩ : ∃ u, w2.cell? ⟨g, (h1 + n) % N1, none⟩ = some u := ⟨_, rA2.cell (by omega)⟩
    have hfg := rA2.free ((h1 + n) % N1)
    have k0 := L2.c0
    have k1 := L2.c1
    have k3 := L2.c3
    have f3 := L2.free 3
    have L3 : LogAt (w2.setCell ⟨g, (h1 + n) % N1, none⟩ (.int .i64 x)) l (some ⟨g, 0, none⟩) N1 c1 M1 h1 n t := L2.of_eq (heap_setCell_other w2 ⟨g, (h1 + n) % N1, none⟩ l _ (Ne.symm hgl))
    rcases C2 with ⟨rfl, rfl⟩ | ⟨gc, rfl, hrC⟩
    · obtain rfl : 0 = M1 := by simpa using hCl
      clear hCl HMl HSc
      by_cases hv : v = 1
      · subst hv
        have R := hide (end_one (S := S) (x := x) hS (unhide HSg) L2 rA2 hAl (by omega) (unhide HV) (unhide HK) (unhide K2))
        clear L2 L3 rA2 hAl
        go_wp2
        go_end0
        exact ⟨rfl, unhide Fin true _ (unhide Hnil).symm (unhide R)⟩
      · have hv1 : (v != 1) = true := by rw [bne_iff_ne]; exact hv
        have hv2 : (v == 1) = false := beq_eq_false_iff_ne.2 hv
        have R := hide (fun q w4 => end_new (S := S) (q := q) (w4 := w4) (x := x) (v := v) hS (unhide HSg) L2 rA2 hAl (by omega) (unhide HV) (unhide HK) (unhide K2))
        have hlt2 := L2.lt
        clear L2 rA2 hAl
        go_wp2_with fail
        refine (costs_none l (some ⟨g, 0, none⟩) N1 h1 n t _ q4 L3).mono ?_
        rintro e w4 ⟨rfl, L4, r4, K4, hz4⟩
        simp only [World.size_setCell] at L4 r4
        have R4 := hide ((unhide R) w2.heap.size w4 L4 r4 K4 (Nat.le_refl _))
        obtain ⟨v1, hcq⟩ : ∃ u, w4.cell? ⟨w2.heap.size, (h1 + n) % N1, none⟩ = some u := ⟨_, r4.cell (by simpa using hs0)⟩
        have hfq := r4.free ((h1 + n) % N1)
        have k3' := L4.c3
        have f3' := L4.free 3
        clear hz4 L4 r4 K4 R L3
        go_wp2
        go_end0
        exact ⟨rfl, unhide Fin true _ (unhide Hnil).symm (by rw [hv2]; exact unhide R4)⟩
    · obtain rfl : N1 = M1 := ((unhide HMl) rfl).symm
      have R := hide (end_apart (S := S) (x := x) (v := v) hS (unhide HSg) ((unhide HSc) _ rfl) L2 rA2 hAl hrC hCl (by omega) (unhide HV) (unhide HK) (unhide K2))
      have hgc := L2.ne hrC (by decide)
      have hgg := rA2.ne hrC (by decide)
      obtain ⟨v1, hcq⟩ : ∃ u, w2.cell? ⟨gc, (h1 + n) % N1, none⟩ = some u := ⟨_, hrC.cell (by omega)⟩
      have hfq := hrC.free ((h1 + n) % N1)
      clear L2 rA2 hAl hrC hCl HMl HSc
      cases hv : (v != 1) with
      | true =>
        go_wp2_with fail
        refine (costs_some l (some ⟨g, 0, none⟩) ⟨gc, 0, none⟩ N1 N1 h1 n t _ L3).mono ?_
        rintro e w' ⟨rfl, rfl⟩
        clear L3
        go_wp2
        go_end0
        exact ⟨rfl, unhide Fin false _ (unhide Hnil).symm (unhide R)⟩
      | false =>
        go_wp2_with fail
        refine (costs_some l (some ⟨g, 0, none⟩) ⟨gc, 0, none⟩ N1 N1 h1 n t _ L3).mono ?_
        rintro e w' ⟨rfl, rfl⟩
        clear L3
        go_wp2
        go_end0
        exact ⟨rfl, unhide Fin false _ (unhide Hnil).symm (unhide R)⟩

theorem zzPush_any (S : Nat → Prop) (l N M h n : Nat) (a c : Option Addr) (A C : List Int) (t x v : Int) (w : World) (hS : S l) (hSa : ∀ y, a = some y → S y.block) (hSc : ∀ y, c = some y → S y.block)
    (hl : LogAt w l a N c M h n t) (ha : Sl w a 2 A) (hAN : A.length = N) (hc : Sl w c 3 C) (hCM : C.length = M) (hMN : c.isNone = false → M = N) (hp : N = 0 ∨ Pow N) (hN : N ≤ 524288) (hn : n ≤ N) (h0 : N = 0 → h = 0) (hh : 0 < N → h < N) :
    Calls Try.prog 17 #[.pointer (some ⟨l, 0, none⟩), .int .i64 x, .int .i64 v] w fun e w' => e = .returned (.tuple #[]) ∧
      Holds S w l (next N n) (nexth N h n) (n + 1) t (c.isNone && v == 1) (view N A h n ++ [x]) (cv N c C h n ++ [v]) w' := by
  have P := hide (push_any S l N M h n a c A C t x v w hS hSa hSc hl ha hAN hc hCM hMN hp hN hn h0 hh)
  clear hS hSa hSc hl ha hAN hc hCM hMN hp hN hn h0 hh
  go_enter Try.func17, Try.ntmps17
  go_wp2_with fail
  refine (unhide P).mono ?_
  rintro e w' ⟨rfl, H⟩
  go_wp2
  go_end0
  exact ⟨rfl, H⟩
end Go.Proofs.Qxb6601013a.Push
