/-
  FnPushAppendsOneEntry: the walk.
-/
import Derived.Test.Qxb6601013aView
import Derived.Test.Qxb6601013aApp
import Derived.Test.Qxb6601013aBytes
namespace Go.Proofs.Qxb6601013a.Appends
open Go.RowKit Go.Proofs.Qxb6601013a.Mem Go.Proofs.Qxb6601013a.Clone Go.Proofs.Qxb6601013a.Log Go.Proofs.Qxb6601013a.Ent Go.Proofs.Qxb6601013a.Grown Go.Proofs.Qxb6601013a.Ring Go.Proofs.Qxb6601013a.Push Go.Proofs.Qxb6601013a.App

theorem Arg_max {w : World} {a : Option Addr} {len cap : Nat} {zs : List Int} (h : Arg w a len cap zs) : len ≤ maxLen := by
  rcases h with ⟨_, rfl, _, _⟩ | ⟨_, _, h1, h2, _⟩
  · exact Nat.zero_le _
  · omega

set_option maxRecDepth 100000 in
set_option maxHeartbeats 4000000 in
theorem law (a0 : Option Addr) (N cap0 : Nat) (z0 : List Int) (a1 : Option Addr) (M cap1 : Nat) (z1 : List Int) (hd n t X Y : Int) (w : World)
    (w0 : Arg w a0 N cap0 z0) (w1 : Arg w a1 M cap1 z1) :
    Calls Try.prog 6 #[.slice a0 N cap0, .slice a1 M cap1, .int .i64 hd, .int .i64 n, .int .i64 t, .int .i64 X, .int .i64 Y] w fun e w' => e = .returned (.bool true) ∧ Below w.heap.size w w' := by
  have hN := Arg_max w0
  have hM := Arg_max w1
  have W0 := hide w0
  have W1 := hide w1
  have hs1 := nqn26
  have hs2 := eqn26
  clear w0 w1
  go_enter Try.func6, Try.ntmps6
  go_wp2_with fail
  refine (Bytes.bytes11_any a0 a1 N M cap0 cap1 hd n t X Y w hN hM).mono ?_
  rintro e w' ⟨rfl, b, rfl, hb⟩
  cases b with
  | false =>
    go_wp2
    go_ret
    exact ⟨rfl, Below.refl _ _⟩
  | true =>
    obtain ⟨hN1, hM1⟩ := hb rfl
    clear hb hN hM
    by_cases h1 : 65536 < N
    · go_wp2
      go_ret
      exact ⟨rfl, Below.refl _ _⟩
    by_cases h2 : 65536 < M
    · go_wp2
      go_ret
      exact ⟨rfl, Below.refl _ _⟩
    go_wp2_with fail
    refine (Valid.valid_any a0 a1 N M cap0 cap1 hd n w hN1 hM1).mono ?_
    rintro e w' ⟨rfl, b, rfl, hb⟩
    cases b with
    | false =>
      go_wp2
      go_ret
      exact ⟨rfl, Below.refl _ _⟩
    | true =>
      obtain ⟨hpw, hMN, hn0, hnN, hz, hp⟩ := hb rfl
      clear hb
      have hd0 : 0 ≤ hd := by
        by_cases e : N = 0
        · rw [hz e]; exact Int.le_refl _
        · exact (hp (by omega)).1
      obtain ⟨h, rfl⟩ := Int.eq_ofNat_of_zero_le hd0
      obtain ⟨k, rfl⟩ := Int.eq_ofNat_of_zero_le hn0
      have hkN : k ≤ N := by omega
      have hhN : h ≤ N := by
        by_cases e : N = 0
        · have := hz e; omega
        · have := (hp (by omega)).2; omega
      have hhk : 0 < k → h < N := fun e => by have := (hp (by omega)).2; omega
      have hh0 : N = 0 → h = 0 := fun e => by have := hz e; omega
      have hhp : 0 < N → h < N := fun e => by have := (hp e).2; omega
      have hpo : N = 0 ∨ Ring.Pow N := by
        by_cases e : N = 0
        · exact .inl e
        · exact .inr (pow_of_and N (by omega) (hpw (by omega)))
      have Hh0 := hide hh0
      have Hhp := hide hhp
      have Hpo := hide hpo
      clear hd0 hn0 hnN hz hp hpw hh0 hhp hpo
      have HMN := hide hMN
      have Hhk := hide hhk
      clear hMN hhk
      go_wp2_with fail
      refine (clone13_any a0 N cap0 z0 w (unhide W0) hN1).mono ?_
      rintro e w2 ⟨x, rfl, hx⟩
      have W1' := hide ((unhide W1).keep hx.2.2.2)
      go_wp2_with fail
      refine (clone14_any a1 M cap1 z1 w2 (unhide W1') hM1).mono ?_
      rintro e w3 ⟨y, rfl, hy⟩
      have hAN := (unhide W0).len
      have hCM := (unhide W1).len
      generalize z0.take N = A at *
      generalize z1.take M = C at *
      have hb23 := hy.2.2.2
      have hbw := hx.2.2.2
      have hB3 : Below w.heap.size w w3 := hbw.trans (hb23.mono hbw.size)
      have hxs := hx.1.keep hb23
      have hz3 : w.heap.size ≤ w3.heap.size := hB3.size
      have hyS : ∀ u, y = some u → w.heap.size ≤ u.block ∧ u.block < w3.heap.size := fun u hu => by
        refine ⟨Nat.le_trans hbw.size (hy.2.2.1 u hu), ?_⟩
        rcases hy.1 with ⟨e, _⟩ | ⟨g, e, hg⟩
        · rw [e] at hu; simp at hu
        · rw [e] at hu; simp only [Option.some.injEq] at hu; subst hu; exact hg.lt
      have hxS : ∀ u, x = some u → w.heap.size ≤ u.block ∧ u.block < w3.heap.size := fun u hu => by
        refine ⟨hx.2.2.1 u hu, ?_⟩
        rcases hxs with ⟨e, _⟩ | ⟨g, e, hg⟩
        · rw [e] at hu; simp at hu
        · rw [e] at hu; simp only [Option.some.injEq] at hu; subst hu; exact hg.lt
      have HxS := hide hxS
      have HyS := hide hyS
      clear hxS hyS
      rcases hy.1 with ⟨rfl, rfl⟩ | ⟨gc, rfl, hrC⟩
      · obtain rfl : 0 = M := by simpa using hCM
        clear hx hy W0 W1 W1' HMN hb23 hbw
        go_wp2_with fail
        refine (View.view_none N x A h k w3 hxs hAN hN1 hkN hhN).mono ?_
        rintro e w4 ⟨rfl, hr1, hr2, hb4, hz4⟩
        have hcv : (List.replicate k (1 : Int)).length = k := by simp
        have hz4' : w3.heap.size + 1 < w4.heap.size := by omega
        clear hz4
        have hvl := view_len N A h k
        obtain ⟨g0, hg0⟩ : ∃ g0, g0 = w3.heap.size := ⟨_, rfl⟩
        have Hg0 := hide hg0
        rw [← hg0] at hr1 hr2 hb4 hz4' ⊢
        clear hg0
        go_wp2_with (first | (at_builtin; refine wpList_append_row _ rfl (.tmp 66) (.tmp 68) 25 rfl 2 Try.underlying25 info2 g0 k (view N A h k) X ⟨w4.heap.size, 0, none⟩ rfl rfl (hr1.keep ((Below.refl _ _).alloc (Nat.le_refl _) _)) hvl (by omega) (by simp [Addr.add]) ?_; intro g1 cap1' w5 hg1 hB1 hK1; have hr2' := (hr2.keep ((Below.refl _ _).alloc (Nat.le_refl _) _)).stay hK1 (by omega)) | (at_builtin; refine wpList_append_row _ rfl (.tmp 70) (.tmp 72) 26 rfl 3 Try.underlying26 info3 (g0 + 1) k (List.replicate k (1 : Int)) Y ⟨w5.heap.size, 0, none⟩ rfl rfl (hr2'.keep ((Below.refl _ _).alloc (Nat.le_refl _) _)) hcv (by omega) (by simp [Addr.add]) ?_; intro g2 cap2' w6 hg2 hB2 hK2))
        have hg0' := unhide Hg0
        have hb45 := hK1.below (B := g0) (fun k e => by subst e; exact Nat.le_refl _) (by simp; omega)
        have hb45' : Below g0 w4 w5 := ((Below.refl g0 w4).alloc (by omega) _).trans hb45
        have hz5 := hb45'.size
        have hb56 := hK2.below (B := g0) (fun k e => by subst e; omega) (by simp; omega)
        have hb56' : Below g0 w5 w6 := ((Below.refl g0 w5).alloc (by omega) _).trans hb56
        have hb36 : Below w3.heap.size w3 w6 := by rw [← hg0']; exact ((hb4.trans hb45').trans hb56')
        have hB1' : Begins w6 g1 2 (view N A h k ++ [X]) := (hB1.keep ((Below.refl _ _).alloc (Nat.le_refl _) _)).stay hK2 (fun e => (hB1.ne hr2' (by decide)) e)
        have hx6 := hxs.keep hb36

        have hB06 : Below w.heap.size w w6 := hB3.trans (hb36.mono hz3)
        have hl1 := hB1'.lt
        have hl2 := hB2.lt
        have hg1' : w3.heap.size ≤ g1 := by omega
        have hg2' : w3.heap.size ≤ g2 := by omega
        have hz6 := hb36.size
        clear hb45 hb45' hb56 hb56' hK1 hK2 hr2' hr1 hr2 hB1 hb4 hz4' hz5 hg0' hg1 hg2 Hg0 hxs hb36 hB3
        go_wp2_with fail
        refine (toLog_any x none N 0 h k t w6).mono ?_
        rintro e w7 ⟨rfl, hl7, hb7, hz7⟩
        have hx7 := hx6.keep hb7

        have q1 := hB1'.keep hb7
        have q2 := hB2.keep hb7
        have hB07 : Below w.heap.size w w7 := hB06.trans (hb7.mono hB06.size)
        have P := hide (zzPush_any (fun q => q = w6.heap.size + 1 ∨ (w.heap.size ≤ q ∧ q < w3.heap.size)) (w6.heap.size + 1) N 0 h k x none A [] t X Y w7 (.inl rfl) (fun u hu => .inr ((unhide HxS) u hu)) (fun u hu => .inr ((unhide HyS) u hu)) hl7 hx7 hAN (.inl ⟨rfl, rfl⟩) rfl (by simp) (unhide Hpo) (by omega) hkN (unhide Hh0) (unhide Hhp))
        have n1 : ¬ (g1 = w6.heap.size + 1 ∨ (w.heap.size ≤ g1 ∧ g1 < w3.heap.size)) := by omega
        have n2 : ¬ (g2 = w6.heap.size + 1 ∨ (w.heap.size ≤ g2 ∧ g2 < w3.heap.size)) := by omega
        have hlw : w.heap.size ≤ w6.heap.size + 1 := by omega
        clear hz7 hl7 hb7 hx7 hx6 hB1' hB2 hB06 
        go_wp2_with fail
        refine (unhide P).mono ?_
        rintro e w8 ⟨rfl, H8⟩
        obtain ⟨a', c', M', A', C', hL, hA, hAl, hCs, hCl, hMl, hnil, hV, hK, hKe, hSa, hSc⟩ := H8
        have q1' := q1.stay hKe n1
        have q2' := q2.stay hKe n2
        have hB08 : Below w.heap.size w w8 := hB07.trans (hKe.below (fun q e => by rcases e with e | e <;> omega) hB07.size)
        have qf := next_facts N h k (unhide Hpo) (by omega) hkN (unhide Hhp)
        clear P n1 n2 hlw q1 q2 hKe hSa hSc hB07 HxS HyS Hpo Hh0 Hhp
        rw [cast_succ] at hL
        generalize w6.heap.size + 1 = l at *
        have hx1 : Reads w8 (some ⟨g1, 0, none⟩) (k + 1) (fun i => A'[(nexth N h k + i) % next N k]?.getD 0) := q1'.reads (by simp [view_len]) (fun i hi => by rw [← hV]; exact view_at _ A' _ _ i hi)
        by_cases hfull : k = N
        · have e1 : next N k = room N := by unfold next; rw [if_pos hfull]
          have e2 : nexth N h k = 0 := by unfold nexth; rw [if_pos hfull]
          rw [e1, e2] at hL hx1 qf hV hK
          rw [e1] at hAl hMl
          clear e1 e2
          subst hfull
          rw [cast0] at hL
          have hrm := room_le k (by omega)
          rcases hCs with ⟨rfl, rfl⟩ | ⟨gd, rfl, hrd⟩
          · obtain rfl : 0 = M' := by simpa using hCl
            have hY : (Y == 1) = true := by simpa using hnil.symm
            have hx2 : Reads w8 (some ⟨g2, 0, none⟩) (k + 1) (fun _ => 1) := q2'.reads (by simp) (fun i hi => by
              have e : cv (room k) none [] 0 (k + 1) = List.replicate (k + 1) 1 := rfl
              rw [show List.replicate k (1 : Int) ++ [Y] = List.replicate (k + 1) 1 from by rw [← e, hK]; rfl]; exact ones_at (k + 1) i hi)
            clear hnil hV hK hMl hCl q1' q2'
            have E0 := fun (w9 : World) (hb9 : Below w8.heap.size w8 w9) => entries_none (room k) a' A' 0 (k + 1) cap1' cap2' (some ⟨g1, 0, none⟩) (some ⟨g2, 0, none⟩) w9 (hA.keep hb9) hAl (by omega) (by omega) (by omega) (hx1.keep hb9) (hx2.keep hb9)
            simp only [cast_succ, cast0] at E0
            have E := hide E0
            have Fb := hide (fun (w9 : World) (hb9 : Below w8.heap.size w8 w9) => hB08.trans (hb9.mono hB08.size))
            clear E0 hA hx1 hx2 hB08 
            go_wp2_with fail
            refine (fromLog_any l a' none (room k) 0 0 ((k : Int) + 1) t w8 hL).mono ?_
            rintro e w9 ⟨rfl, hb9⟩
            clear hL
            go_wp2
            go_quiet ((go_at_call 19; exact Calls.quiet_of_same (maxOf_any _ _ (by omega))))
            go_wp2_with fail
            refine ((unhide E) _ (below_drewN (hb9.alloc hb9.size _) _)).mono ?_
            rintro e wz ⟨rfl, hbz⟩
            have hf := ((unhide Fb) _ (below_drewN (hb9.alloc hb9.size _) _)).trans (hbz.mono ((unhide Fb) _ (below_drewN (hb9.alloc hb9.size _) _)).size)
            clear E Fb hbz hb9
            go_wp2
            go_ret
            exact ⟨rfl, hf⟩
          · have hY : (Y == 1) = false := by simpa using hnil.symm
            obtain rfl : (room k) = M' := (hMl rfl).symm
            have hx2 : Reads w8 (some ⟨g2, 0, none⟩) (k + 1) (fun i => C'[(0 + i) % (room k)]?.getD 0) := q2'.reads (by simp) (fun i hi => by
              rw [show List.replicate k (1 : Int) ++ [Y] = view (room k) C' 0 (k + 1) from hK.symm]; exact view_at _ C' _ _ i hi)
            clear hnil hV hK hMl q1' q2'
            have E0 := fun (w9 : World) (hb9 : Below w8.heap.size w8 w9) => entries_some (room k) a' A' gd C' 0 (k + 1) cap1' cap2' (some ⟨g1, 0, none⟩) (some ⟨g2, 0, none⟩) w9 (hA.keep hb9) hAl (hrd.keep hb9) hCl (by omega) (by omega) (by omega) (hx1.keep hb9) (hx2.keep hb9)
            simp only [cast_succ, cast0] at E0
            have E := hide E0
            have Fb := hide (fun (w9 : World) (hb9 : Below w8.heap.size w8 w9) => hB08.trans (hb9.mono hB08.size))
            clear E0 hA hx1 hx2 hB08 hrd
            go_wp2_with fail
            refine (fromLog_any l a' (some ⟨gd, 0, none⟩) (room k) (room k) 0 ((k : Int) + 1) t w8 hL).mono ?_
            rintro e w9 ⟨rfl, hb9⟩
            clear hL
            go_wp2
            go_quiet ((go_at_call 19; exact Calls.quiet_of_same (maxOf_any _ _ (by omega))))
            go_wp2_with fail
            refine ((unhide E) _ (below_drewN (hb9.alloc hb9.size _) _)).mono ?_
            rintro e wz ⟨rfl, hbz⟩
            have hf := ((unhide Fb) _ (below_drewN (hb9.alloc hb9.size _) _)).trans (hbz.mono ((unhide Fb) _ (below_drewN (hb9.alloc hb9.size _) _)).size)
            clear E Fb hbz hb9
            go_wp2
            go_ret
            exact ⟨rfl, hf⟩
        · have e1 : next N k = N := by unfold next; rw [if_neg hfull]
          have e2 : nexth N h k = h := by unfold nexth; rw [if_neg hfull]
          have hkN' : ((k : Int) == (N : Int)) = false := beq_eq_false_iff_ne.2 (by omega)
          rw [e1, e2] at hL hx1 qf hV hK
          rw [e1] at hAl hMl
          clear e1 e2 hfull
          rcases hCs with ⟨rfl, rfl⟩ | ⟨gd, rfl, hrd⟩
          · obtain rfl : 0 = M' := by simpa using hCl
            have hY : (Y == 1) = true := by simpa using hnil.symm
            have hx2 : Reads w8 (some ⟨g2, 0, none⟩) (k + 1) (fun _ => 1) := q2'.reads (by simp) (fun i hi => by
              have e : cv N none [] h (k + 1) = List.replicate (k + 1) 1 := rfl
              rw [show List.replicate k (1 : Int) ++ [Y] = List.replicate (k + 1) 1 from by rw [← e, hK]; rfl]; exact ones_at (k + 1) i hi)
            clear hnil hV hK hMl hCl q1' q2'
            have E0 := fun (w9 : World) (hb9 : Below w8.heap.size w8 w9) => entries_none N a' A' h (k + 1) cap1' cap2' (some ⟨g1, 0, none⟩) (some ⟨g2, 0, none⟩) w9 (hA.keep hb9) hAl (by omega) (by omega) (by omega) (hx1.keep hb9) (hx2.keep hb9)
            simp only [cast_succ] at E0
            have E := hide E0
            have Fb := hide (fun (w9 : World) (hb9 : Below w8.heap.size w8 w9) => hB08.trans (hb9.mono hB08.size))
            clear E0 hA hx1 hx2 hB08 
            go_wp2_with fail
            refine (fromLog_any l a' none N 0 h ((k : Int) + 1) t w8 hL).mono ?_
            rintro e w9 ⟨rfl, hb9⟩
            clear hL
            go_wp2_with fail
            refine ((unhide E) _ (hb9.alloc hb9.size _)).mono ?_
            rintro e wz ⟨rfl, hbz⟩
            have hf := ((unhide Fb) _ (hb9.alloc hb9.size _)).trans (hbz.mono ((unhide Fb) _ (hb9.alloc hb9.size _)).size)
            clear E Fb hbz hb9
            go_wp2
            go_ret
            exact ⟨rfl, hf⟩
          · have hY : (Y == 1) = false := by simpa using hnil.symm
            obtain rfl : N = M' := (hMl rfl).symm
            have hx2 : Reads w8 (some ⟨g2, 0, none⟩) (k + 1) (fun i => C'[(h + i) % N]?.getD 0) := q2'.reads (by simp) (fun i hi => by
              rw [show List.replicate k (1 : Int) ++ [Y] = view N C' h (k + 1) from hK.symm]; exact view_at _ C' _ _ i hi)
            clear hnil hV hK hMl q1' q2'
            have E0 := fun (w9 : World) (hb9 : Below w8.heap.size w8 w9) => entries_some N a' A' gd C' h (k + 1) cap1' cap2' (some ⟨g1, 0, none⟩) (some ⟨g2, 0, none⟩) w9 (hA.keep hb9) hAl (hrd.keep hb9) hCl (by omega) (by omega) (by omega) (hx1.keep hb9) (hx2.keep hb9)
            simp only [cast_succ] at E0
            have E := hide E0
            have Fb := hide (fun (w9 : World) (hb9 : Below w8.heap.size w8 w9) => hB08.trans (hb9.mono hB08.size))
            clear E0 hA hx1 hx2 hB08 hrd
            go_wp2_with fail
            refine (fromLog_any l a' (some ⟨gd, 0, none⟩) N N h ((k : Int) + 1) t w8 hL).mono ?_
            rintro e w9 ⟨rfl, hb9⟩
            clear hL
            go_wp2_with fail
            refine ((unhide E) _ (hb9.alloc hb9.size _)).mono ?_
            rintro e wz ⟨rfl, hbz⟩
            have hf := ((unhide Fb) _ (hb9.alloc hb9.size _)).trans (hbz.mono ((unhide Fb) _ (hb9.alloc hb9.size _)).size)
            clear E Fb hbz hb9
            go_wp2
            go_ret
            exact ⟨rfl, hf⟩
      · obtain rfl : N = M := ((unhide HMN) hy.2.1.symm).symm
        clear hx hy W0 W1 W1' HMN hb23 hbw
        go_wp2_with fail
        refine (View.view_some N x A gc C h k w3 hxs hAN hrC hCM hN1 hkN hhN).mono ?_
        rintro e w4 ⟨rfl, hr1, hr2, hb4, hz4⟩
        have hcv : (view N C h k).length = k := by simp [view_len]
        have hz4' : w3.heap.size + 1 < w4.heap.size := by omega
        clear hz4
        have hvl := view_len N A h k
        obtain ⟨g0, hg0⟩ : ∃ g0, g0 = w3.heap.size := ⟨_, rfl⟩
        have Hg0 := hide hg0
        rw [← hg0] at hr1 hr2 hb4 hz4' ⊢
        clear hg0
        go_wp2_with (first | (at_builtin; refine wpList_append_row _ rfl (.tmp 66) (.tmp 68) 25 rfl 2 Try.underlying25 info2 g0 k (view N A h k) X ⟨w4.heap.size, 0, none⟩ rfl rfl (hr1.keep ((Below.refl _ _).alloc (Nat.le_refl _) _)) hvl (by omega) (by simp [Addr.add]) ?_; intro g1 cap1' w5 hg1 hB1 hK1; have hr2' := (hr2.keep ((Below.refl _ _).alloc (Nat.le_refl _) _)).stay hK1 (by omega)) | (at_builtin; refine wpList_append_row _ rfl (.tmp 70) (.tmp 72) 26 rfl 3 Try.underlying26 info3 (g0 + 1) k (view N C h k) Y ⟨w5.heap.size, 0, none⟩ rfl rfl (hr2'.keep ((Below.refl _ _).alloc (Nat.le_refl _) _)) hcv (by omega) (by simp [Addr.add]) ?_; intro g2 cap2' w6 hg2 hB2 hK2))
        have hg0' := unhide Hg0
        have hb45 := hK1.below (B := g0) (fun k e => by subst e; exact Nat.le_refl _) (by simp; omega)
        have hb45' : Below g0 w4 w5 := ((Below.refl g0 w4).alloc (by omega) _).trans hb45
        have hz5 := hb45'.size
        have hb56 := hK2.below (B := g0) (fun k e => by subst e; omega) (by simp; omega)
        have hb56' : Below g0 w5 w6 := ((Below.refl g0 w5).alloc (by omega) _).trans hb56
        have hb36 : Below w3.heap.size w3 w6 := by rw [← hg0']; exact ((hb4.trans hb45').trans hb56')
        have hB1' : Begins w6 g1 2 (view N A h k ++ [X]) := (hB1.keep ((Below.refl _ _).alloc (Nat.le_refl _) _)).stay hK2 (fun e => (hB1.ne hr2' (by decide)) e)
        have hx6 := hxs.keep hb36
        have hc6 := hrC.keep hb36
        clear hrC
        have hB06 : Below w.heap.size w w6 := hB3.trans (hb36.mono hz3)
        have hl1 := hB1'.lt
        have hl2 := hB2.lt
        have hg1' : w3.heap.size ≤ g1 := by omega
        have hg2' : w3.heap.size ≤ g2 := by omega
        have hz6 := hb36.size
        clear hb45 hb45' hb56 hb56' hK1 hK2 hr2' hr1 hr2 hB1 hb4 hz4' hz5 hg0' hg1 hg2 Hg0 hxs hb36 hB3
        go_wp2_with fail
        refine (toLog_any x (some ⟨gc, 0, none⟩) N N h k t w6).mono ?_
        rintro e w7 ⟨rfl, hl7, hb7, hz7⟩
        have hx7 := hx6.keep hb7
        have hc7 := hc6.keep hb7
        have q1 := hB1'.keep hb7
        have q2 := hB2.keep hb7
        have hB07 : Below w.heap.size w w7 := hB06.trans (hb7.mono hB06.size)
        have P := hide (zzPush_any (fun q => q = w6.heap.size + 1 ∨ (w.heap.size ≤ q ∧ q < w3.heap.size)) (w6.heap.size + 1) N N h k x (some ⟨gc, 0, none⟩) A C t X Y w7 (.inl rfl) (fun u hu => .inr ((unhide HxS) u hu)) (fun u hu => .inr ((unhide HyS) u hu)) hl7 hx7 hAN (.inr ⟨_, rfl, hc7⟩) hCM (fun _ => rfl) (unhide Hpo) (by omega) hkN (unhide Hh0) (unhide Hhp))
        have n1 : ¬ (g1 = w6.heap.size + 1 ∨ (w.heap.size ≤ g1 ∧ g1 < w3.heap.size)) := by omega
        have n2 : ¬ (g2 = w6.heap.size + 1 ∨ (w.heap.size ≤ g2 ∧ g2 < w3.heap.size)) := by omega
        have hlw : w.heap.size ≤ w6.heap.size + 1 := by omega
        clear hz7 hl7 hb7 hx7 hx6 hB1' hB2 hB06 hc6 hc7
        go_wp2_with fail
        refine (unhide P).mono ?_
        rintro e w8 ⟨rfl, H8⟩
        obtain ⟨a', c', M', A', C', hL, hA, hAl, hCs, hCl, hMl, hnil, hV, hK, hKe, hSa, hSc⟩ := H8
        have q1' := q1.stay hKe n1
        have q2' := q2.stay hKe n2
        have hB08 : Below w.heap.size w w8 := hB07.trans (hKe.below (fun q e => by rcases e with e | e <;> omega) hB07.size)
        have qf := next_facts N h k (unhide Hpo) (by omega) hkN (unhide Hhp)
        clear P n1 n2 hlw q1 q2 hKe hSa hSc hB07 HxS HyS Hpo Hh0 Hhp
        rw [cast_succ] at hL
        generalize w6.heap.size + 1 = l at *
        have hx1 : Reads w8 (some ⟨g1, 0, none⟩) (k + 1) (fun i => A'[(nexth N h k + i) % next N k]?.getD 0) := q1'.reads (by simp [view_len]) (fun i hi => by rw [← hV]; exact view_at _ A' _ _ i hi)
        by_cases hfull : k = N
        · have e1 : next N k = room N := by unfold next; rw [if_pos hfull]
          have e2 : nexth N h k = 0 := by unfold nexth; rw [if_pos hfull]
          rw [e1, e2] at hL hx1 qf hV hK
          rw [e1] at hAl hMl
          clear e1 e2
          subst hfull
          rw [cast0] at hL
          have hrm := room_le k (by omega)
          rcases hCs with ⟨rfl, rfl⟩ | ⟨gd, rfl, hrd⟩
          · simp at hnil
          · obtain rfl : (room k) = M' := (hMl rfl).symm
            have hx2 : Reads w8 (some ⟨g2, 0, none⟩) (k + 1) (fun i => C'[(0 + i) % (room k)]?.getD 0) := q2'.reads (by simp [view_len]) (fun i hi => by
              rw [show view k C h k ++ [Y] = view (room k) C' 0 (k + 1) from hK.symm]; exact view_at _ C' _ _ i hi)
            clear hnil hV hK hMl q1' q2'
            have E0 := fun (w9 : World) (hb9 : Below w8.heap.size w8 w9) => entries_some (room k) a' A' gd C' 0 (k + 1) cap1' cap2' (some ⟨g1, 0, none⟩) (some ⟨g2, 0, none⟩) w9 (hA.keep hb9) hAl (hrd.keep hb9) hCl (by omega) (by omega) (by omega) (hx1.keep hb9) (hx2.keep hb9)
            simp only [cast_succ, cast0] at E0
            have E := hide E0
            have Fb := hide (fun (w9 : World) (hb9 : Below w8.heap.size w8 w9) => hB08.trans (hb9.mono hB08.size))
            clear E0 hA hx1 hx2 hB08 hrd
            go_wp2_with fail
            refine (fromLog_any l a' (some ⟨gd, 0, none⟩) (room k) (room k) 0 ((k : Int) + 1) t w8 hL).mono ?_
            rintro e w9 ⟨rfl, hb9⟩
            clear hL
            go_wp2
            go_quiet ((go_at_call 19; exact Calls.quiet_of_same (maxOf_any _ _ (by omega))))
            go_wp2_with fail
            refine ((unhide E) _ (below_drewN (hb9.alloc hb9.size _) _)).mono ?_
            rintro e wz ⟨rfl, hbz⟩
            have hf := ((unhide Fb) _ (below_drewN (hb9.alloc hb9.size _) _)).trans (hbz.mono ((unhide Fb) _ (below_drewN (hb9.alloc hb9.size _) _)).size)
            clear E Fb hbz hb9
            go_wp2
            go_ret
            exact ⟨rfl, hf⟩
        · have e1 : next N k = N := by unfold next; rw [if_neg hfull]
          have e2 : nexth N h k = h := by unfold nexth; rw [if_neg hfull]
          have hkN' : ((k : Int) == (N : Int)) = false := beq_eq_false_iff_ne.2 (by omega)
          rw [e1, e2] at hL hx1 qf hV hK
          rw [e1] at hAl hMl
          clear e1 e2 hfull
          rcases hCs with ⟨rfl, rfl⟩ | ⟨gd, rfl, hrd⟩
          · simp at hnil
          · obtain rfl : N = M' := (hMl rfl).symm
            have hx2 : Reads w8 (some ⟨g2, 0, none⟩) (k + 1) (fun i => C'[(h + i) % N]?.getD 0) := q2'.reads (by simp [view_len]) (fun i hi => by
              rw [show view N C h k ++ [Y] = view N C' h (k + 1) from hK.symm]; exact view_at _ C' _ _ i hi)
            clear hnil hV hK hMl q1' q2'
            have E0 := fun (w9 : World) (hb9 : Below w8.heap.size w8 w9) => entries_some N a' A' gd C' h (k + 1) cap1' cap2' (some ⟨g1, 0, none⟩) (some ⟨g2, 0, none⟩) w9 (hA.keep hb9) hAl (hrd.keep hb9) hCl (by omega) (by omega) (by omega) (hx1.keep hb9) (hx2.keep hb9)
            simp only [cast_succ] at E0
            have E := hide E0
            have Fb := hide (fun (w9 : World) (hb9 : Below w8.heap.size w8 w9) => hB08.trans (hb9.mono hB08.size))
            clear E0 hA hx1 hx2 hB08 hrd
            go_wp2_with fail
            refine (fromLog_any l a' (some ⟨gd, 0, none⟩) N N h ((k : Int) + 1) t w8 hL).mono ?_
            rintro e w9 ⟨rfl, hb9⟩
            clear hL
            go_wp2_with fail
            refine ((unhide E) _ (hb9.alloc hb9.size _)).mono ?_
            rintro e wz ⟨rfl, hbz⟩
            have hf := ((unhide Fb) _ (hb9.alloc hb9.size _)).trans (hbz.mono ((unhide Fb) _ (hb9.alloc hb9.size _)).size)
            clear E Fb hbz hb9
            go_wp2
            go_ret
            exact ⟨rfl, hf⟩
end Go.Proofs.Qxb6601013a.Appends
