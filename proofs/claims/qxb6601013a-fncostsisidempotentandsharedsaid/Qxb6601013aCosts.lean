/-
  FnCostsIsIdempotentAndShared: the walk.
-/
import Derived.Test.Qxb6601013aView
import Derived.Test.Qxb6601013aEnt
import Derived.Test.Qxb6601013aValid
import Derived.Test.Qxb6601013aBytes
namespace Go.Proofs.Qxb6601013a.Costs
open Go.RowKit Go.Proofs.Qxb6601013a.Mem Go.Proofs.Qxb6601013a.Clone Go.Proofs.Qxb6601013a.Log Go.Proofs.Qxb6601013a.Ent

theorem Arg_max {w : World} {a : Option Addr} {len cap : Nat} {zs : List Int} (h : Arg w a len cap zs) : len ≤ maxLen := by
  rcases h with ⟨_, rfl, _, _⟩ | ⟨_, _, h1, h2, _⟩
  · exact Nat.zero_le _
  · omega

set_option maxRecDepth 100000 in
set_option maxHeartbeats 2000000 in
theorem law (a0 : Option Addr) (N cap0 : Nat) (z0 : List Int) (a1 : Option Addr) (M cap1 : Nat) (z1 : List Int) (hd n t : Int) (w : World)
    (w0 : Arg w a0 N cap0 z0) (w1 : Arg w a1 M cap1 z1) :
    Calls Try.prog 8 #[.slice a0 N cap0, .slice a1 M cap1, .int .i64 hd, .int .i64 n, .int .i64 t] w fun e w' => e = .returned (.bool true) ∧ Below w.heap.size w w' := by
  have hN := Arg_max w0
  have hM := Arg_max w1
  have W0 := hide w0
  have W1 := hide w1
  clear w0 w1
  go_enter Try.func8, Try.ntmps8
  go_wp2_with fail
  refine (Bytes.bytes22_any a0 a1 N M cap0 cap1 hd n t w hN hM).mono ?_
  rintro e w' ⟨rfl, b, rfl, hb⟩
  cases b with
  | false =>
    go_wp2
    go_ret
    exact ⟨rfl, Below.refl _ _⟩
  | true =>
    obtain ⟨hN1, hM1⟩ := hb rfl
    clear hb hN hM
    by_cases h1 : 65536 < N
    · go_wp2
      go_ret
      exact ⟨rfl, Below.refl _ _⟩
    by_cases h2 : 65536 < M
    · go_wp2
      go_ret
      exact ⟨rfl, Below.refl _ _⟩
    go_wp2_with fail
    refine (Valid.valid_any a0 a1 N M cap0 cap1 hd n w hN1 hM1).mono ?_
    rintro e w' ⟨rfl, b, rfl, hb⟩
    cases b with
    | false =>
      go_wp2
      go_ret
      exact ⟨rfl, Below.refl _ _⟩
    | true =>
      obtain ⟨_, hMN, hn0, hnN, hz, hp⟩ := hb rfl
      clear hb
      have hd0 : 0 ≤ hd := by
        by_cases e : N = 0
        · rw [hz e]; exact Int.le_refl _
        · exact (hp (by omega)).1
      obtain ⟨h, rfl⟩ := Int.eq_ofNat_of_zero_le hd0
      obtain ⟨k, rfl⟩ := Int.eq_ofNat_of_zero_le hn0
      have hkN : k ≤ N := by omega
      have hhN : h ≤ N := by
        by_cases e : N = 0
        · have := hz e; omega
        · have := (hp (by omega)).2; omega
      have hhk : 0 < k → h < N := fun e => by have := (hp (by omega)).2; omega
      clear hd0 hn0 hnN hz hp
      have HMN := hide hMN
      have Hhk := hide hhk
      clear hMN hhk
      go_wp2_with fail
      refine (clone13_any a0 N cap0 z0 w (unhide W0) hN1).mono ?_
      rintro e w2 ⟨x, rfl, hx⟩
      have W1' := hide ((unhide W1).keep hx.2.2.2)
      go_wp2_with fail
      refine (clone14_any a1 M cap1 z1 w2 (unhide W1') hM1).mono ?_
      rintro e w3 ⟨y, rfl, hy⟩
      have hAN := (unhide W0).len
      have hCM := (unhide W1).len
      generalize z0.take N = A at *
      generalize z1.take M = C at *
      have hb23 := hy.2.2.2
      have hbw := hx.2.2.2
      have hB3 : Below w.heap.size w w3 := hbw.trans (hb23.mono hbw.size)
      have hxs := hx.1.keep hb23
      have hz3 : w.heap.size ≤ w3.heap.size := hB3.size
      rcases hy.1 with ⟨rfl, rfl⟩ | ⟨gc, rfl, hrC⟩
      · obtain rfl : 0 = M := by simpa using hCM
        clear hx hy W0 W1 W1' HMN
        go_wp2_with fail
        refine (View.view_none N x A h k w3 hxs hAN hN1 hkN hhN).mono ?_
        rintro e w4 ⟨rfl, hr1, hr2, hb4, hz4⟩
        have Hz4 := hide hz4
        clear hz4
        go_wp2_with fail
        refine (toLog_any x none N 0 h k t w4).mono ?_
        rintro e w5 ⟨rfl, hl5, hb5, hz5⟩
        have Hz5 := hide hz5
        clear hz5
        go_wp2_with fail
        refine (zzCosts_none _ x N h k t w5 hN1 hl5).mono ?_
        rintro e w6 ⟨rfl, hl6, hr6, hk6, hz6⟩
        clear hz6
        go_wp2_with fail
        refine (zzCosts_some _ x _ N N h k t w6 hl6).mono ?_
        rintro e w' ⟨rfl, rfl⟩
        have hz4 := unhide Hz4
        have hz5 := unhide Hz5
        have hl5lt := hl5.lt
        have hB6 : Below w.heap.size w w6 := ((hB3.trans (hb4.mono hz3)).trans (hb5.mono (by omega))).trans (hk6.below (fun q e => by subst e; omega) (by omega))
        have hx5 := (hxs.keep hb4).keep hb5
        have hx6 : Sl w6 x 2 A := by
          rcases hx5 with e | ⟨g, e, hg⟩
          · exact .inl e
          · exact .inr ⟨g, e, hg.stay hk6 (fun q => absurd q (hl5.ne hg (by decide)))⟩
        have hA6 := (hr1.keep hb5).stay hk6 (fun q => by omega)
        have hC6 := (hr2.keep hb5).stay hk6 (fun q => by omega)
        have hrc : w.heap.size ≤ w5.heap.size := by omega
        have hlw : w.heap.size ≤ w4.heap.size + 1 := by omega
        have hx1 : Reads w6 (some ⟨w3.heap.size, 0, none⟩) k (fun i => A[(h + i) % N]?.getD 0) := Reads.of_row hA6 (by rw [view_len]; exact Nat.le_refl _) (fun i hi => view_at N A h k i hi)
        have hx2 : Reads w6 (some ⟨w3.heap.size + 1, 0, none⟩) k (fun i => (List.replicate N (1 : Int))[(h + i) % N]?.getD 0) := Reads.of_row hC6 (by simp) (fun i hi => by rw [ones_at k i hi, ones_at N _ (Nat.mod_lt _ (by omega))])
        have hRN : (List.replicate N (1 : Int)).length = N := by simp
        generalize List.replicate N (1 : Int) = R at *
        generalize w5.heap.size = rc at *
        generalize w4.heap.size + 1 = l at *
        generalize w3.heap.size + 1 = g2 at *
        generalize w3.heap.size = g1 at *
        clear hxs hr1 hr2 hb4 hb5 hk6 hl5 hx5 hA6 hC6 hz5 hz4 Hz5 Hz4 hCM hbw hb23 hB3 hz3 hl5lt
        have hrl := hl6.ne hr6 (by decide)
        go_wp2_with fail
        go_loopw [16] (fun i wr => ∃ j : Nat, j ≤ N ∧ i = .int .i64 j ∧ Below w6.heap.size w6 wr) (fun i _ => N - (intOf i).toNat)
        case atStart => exact ⟨0, Nat.zero_le _, rfl, Below.refl _ _⟩
        case round =>
          obtain ⟨j, hj, rfl, hbr⟩ := hrel
          by_cases hjN : j < N
          · have hcx := (hr6.keep hbr).cell (j := j) (by omega)
            generalize R[j]?.getD 0 = v at hcx
            go_wp2
            go_quiet (fail)
            go_wp2
            go_roundw
            case rel => exact ⟨j + 1, by omega, by go_num, below_drewN hbr _⟩
            case measure => simp [intOf]; omega
          · have hl7 := hl6.keep hbr
            go_wp2_with fail
            refine (fromLog_any l x (some ⟨rc, 0, none⟩) N N h k t wr hl7).mono ?_
            rintro e w7 ⟨rfl, hb7⟩
            go_wp2_with fail
            have hb67 : Below w6.heap.size w6 w7 := hbr.trans (hb7.mono hbr.size)
            have hb68 : ∀ o, Below w6.heap.size w6 (w7.alloc o) := fun o => hb67.alloc hb67.size o
            have hb08 : ∀ o, Below w.heap.size w (w7.alloc o) := fun o => hB6.trans ((hb68 o).mono hB6.size)
            refine (entries_some N x A rc R h k k k (some ⟨g1, 0, none⟩) (some ⟨g2, 0, none⟩) _ (hx6.keep (hb68 _)) hAN (hr6.keep (hb68 _)) hRN hN1 hkN (unhide Hhk) (hx1.keep (hb68 _)) (hx2.keep (hb68 _))).mono ?_
            rintro e w9 ⟨rfl, hb9⟩
            have hb69 : Below w6.heap.size w6 w9 := (hb68 _).trans (hb9.mono (hb68 _).size)
            have hb09 : Below w.heap.size w w9 := hB6.trans (hb69.mono hB6.size)
            have hr9 := hr6.keep hb69
            have hl9 := hl6.keep hb69
            clear hb08 hb68 hb9 hb67 hb7 hx1 hx2 hx6 hbr hl7 hb69 hl6 hr6 hB6
            by_cases hN0 : N = 0
            · subst hN0
              go_wp2
              go_ret
              exact ⟨rfl, hb09⟩
            · have hc9 := hr9.cell (j := 0) (by omega)
              have hf9 := hr9.free 0
              generalize R[0]?.getD 0 = v0 at hc9
              have hls : ∀ v, LogAt (w9.setCell ⟨rc, 0, none⟩ v) l x N (some ⟨rc, 0, none⟩) N h k t := fun v => hl9.of_eq (heap_setCell_other w9 ⟨rc, 0, none⟩ l v (Ne.symm hrl))
              have hbs : ∀ v, Below w.heap.size w (w9.setCell ⟨rc, 0, none⟩ v) := fun v => hb09.setCell (p := ⟨rc, 0, none⟩) hrc v
              clear hr9 hl9
              go_wp2_with fail
              refine (zzCosts_some l x ⟨rc, 0, none⟩ N N h k t _ (hls _)).mono ?_
              rintro e w' ⟨rfl, rfl⟩
              go_wp2
              go_ret
              exact ⟨rfl, hbs _⟩
      · obtain rfl : N = M := ((unhide HMN) hy.2.1.symm).symm
        clear W0 W1 W1' HMN
        go_wp2_with fail
        refine (View.view_some N x A gc C h k w3 hxs hAN hrC hCM hN1 hkN hhN).mono ?_
        rintro e w4 ⟨rfl, hr1, hr2, hb4, hz4⟩
        have Hz4 := hide hz4
        clear hz4
        go_wp2_with fail
        refine (toLog_any x (some ⟨gc, 0, none⟩) N N h k t w4).mono ?_
        rintro e w6 ⟨rfl, hl6, hb5, hz5⟩
        have Hz5 := hide hz5
        clear hz5
        go_wp2_with fail
        refine (zzCosts_some _ x _ N N h k t w6 hl6).mono ?_
        rintro e w' ⟨rfl, rfl⟩
        go_wp2_with fail
        refine (zzCosts_some _ x _ N N h k t w6 hl6).mono ?_
        rintro e w' ⟨rfl, rfl⟩
        have hz4 := unhide Hz4
        have hz5 := unhide Hz5
        have hB6 : Below w.heap.size w w6 := (hB3.trans (hb4.mono hz3)).trans (hb5.mono (by omega))
        have hx6 := (hxs.keep hb4).keep hb5
        have hr6 := (hrC.keep hb4).keep hb5
        have hA6 := hr1.keep hb5
        have hC6 := hr2.keep hb5
        have hrc : w.heap.size ≤ gc := by have := hy.2.2.1 _ rfl; have := hbw.size; simp at *; omega
        have hlw : w.heap.size ≤ w4.heap.size + 1 := by omega
        have hx1 : Reads w6 (some ⟨w3.heap.size, 0, none⟩) k (fun i => A[(h + i) % N]?.getD 0) := Reads.of_row hA6 (by rw [view_len]; exact Nat.le_refl _) (fun i hi => view_at N A h k i hi)
        have hx2 : Reads w6 (some ⟨w3.heap.size + 1, 0, none⟩) k (fun i => C[(h + i) % N]?.getD 0) := Reads.of_row hC6 (by rw [view_len]; exact Nat.le_refl _) (fun i hi => view_at N C h k i hi)
        have hRN := hCM
        generalize w4.heap.size + 1 = l at *
        generalize w3.heap.size + 1 = g2 at *
        generalize w3.heap.size = g1 at *
        clear hxs hr1 hr2 hb4 hb5 hA6 hC6 hz5 hz4 Hz5 Hz4 hCM hbw hb23 hB3 hz3 hrC hx hy
        have hrl := hl6.ne hr6 (by decide)
        go_wp2_with fail
        go_loopw [16] (fun i wr => ∃ j : Nat, j ≤ N ∧ i = .int .i64 j ∧ Below w6.heap.size w6 wr) (fun i _ => N - (intOf i).toNat)
        case atStart => exact ⟨0, Nat.zero_le _, rfl, Below.refl _ _⟩
        case round =>
          obtain ⟨j, hj, rfl, hbr⟩ := hrel
          by_cases hjN : j < N
          · have hcx := (hr6.keep hbr).cell (j := j) (by omega)
            generalize C[j]?.getD 0 = v at hcx
            go_wp2
            go_quiet (fail)
            go_wp2
            go_roundw
            case rel => exact ⟨j + 1, by omega, by go_num, below_drewN hbr _⟩
            case measure => simp [intOf]; omega
          · have hl7 := hl6.keep hbr
            go_wp2_with fail
            refine (fromLog_any l x (some ⟨gc, 0, none⟩) N N h k t wr hl7).mono ?_
            rintro e w7 ⟨rfl, hb7⟩
            go_wp2_with fail
            have hb67 : Below w6.heap.size w6 w7 := hbr.trans (hb7.mono hbr.size)
            have hb68 : ∀ o, Below w6.heap.size w6 (w7.alloc o) := fun o => hb67.alloc hb67.size o
            have hb08 : ∀ o, Below w.heap.size w (w7.alloc o) := fun o => hB6.trans ((hb68 o).mono hB6.size)
            refine (entries_some N x A gc C h k k k (some ⟨g1, 0, none⟩) (some ⟨g2, 0, none⟩) _ (hx6.keep (hb68 _)) hAN (hr6.keep (hb68 _)) hRN hN1 hkN (unhide Hhk) (hx1.keep (hb68 _)) (hx2.keep (hb68 _))).mono ?_
            rintro e w9 ⟨rfl, hb9⟩
            have hb69 : Below w6.heap.size w6 w9 := (hb68 _).trans (hb9.mono (hb68 _).size)
            have hb09 : Below w.heap.size w w9 := hB6.trans (hb69.mono hB6.size)
            have hr9 := hr6.keep hb69
            have hl9 := hl6.keep hb69
            clear hb08 hb68 hb9 hb67 hb7 hx1 hx2 hx6 hbr hl7 hb69 hl6 hr6 hB6
            by_cases hN0 : N = 0
            · subst hN0
              go_wp2
              go_ret
              exact ⟨rfl, hb09⟩
            · have hc9 := hr9.cell (j := 0) (by omega)
              have hf9 := hr9.free 0
              generalize C[0]?.getD 0 = v0 at hc9
              have hls : ∀ v, LogAt (w9.setCell ⟨gc, 0, none⟩ v) l x N (some ⟨gc, 0, none⟩) N h k t := fun v => hl9.of_eq (heap_setCell_other w9 ⟨gc, 0, none⟩ l v (Ne.symm hrl))
              have hbs : ∀ v, Below w.heap.size w (w9.setCell ⟨gc, 0, none⟩ v) := fun v => hb09.setCell (p := ⟨gc, 0, none⟩) hrc v
              clear hr9 hl9
              go_wp2_with fail
              refine (zzCosts_some l x ⟨gc, 0, none⟩ N N h k t _ (hls _)).mono ?_
              rintro e w' ⟨rfl, rfl⟩
              go_wp2
              go_ret
              exact ⟨rfl, hbs _⟩
end Go.Proofs.Qxb6601013a.Costs
