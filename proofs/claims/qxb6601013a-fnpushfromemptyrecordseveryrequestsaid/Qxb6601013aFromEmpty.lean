/-
  FnPushFromEmptyRecordsEveryRequest: the walk.
-/
import Derived.Test.Qxb6601013aScript
import Derived.Test.Qxb6601013aBytes
namespace Go.Proofs.Qxb6601013a.FromEmpty
open Go.RowKit Go.Proofs.Qxb6601013a.Mem Go.Proofs.Qxb6601013a.Clone Go.Proofs.Qxb6601013a.Log Go.Proofs.Qxb6601013a.Ent Go.Proofs.Qxb6601013a.Grown Go.Proofs.Qxb6601013a.Ring Go.Proofs.Qxb6601013a.Push Go.Proofs.Qxb6601013a.Script

theorem Arg_max {w : World} {a : Option Addr} {len cap : Nat} {zs : List Int} (h : Arg w a len cap zs) : len ≤ maxLen := by
  rcases h with ⟨_, rfl, _, _⟩ | ⟨_, _, h1, h2, _⟩
  · exact Nat.zero_le _
  · omega

/-- One push more of the script. -/
theorem step {S : Nat → Prop} {w5 wq w' : World} {l j : Nat} {T W A C : List Int} {c : Option Addr} {x v : Int}
    (H : Holds S wq l (next (capOf j) j) (nexth (capOf j) 0 j) (j + 1) 0 (c.isNone && v == 1) (view (capOf j) A 0 j ++ [x]) (cv (capOf j) c C 0 j ++ [v]) w')
    (hnil : c.isNone = ones (W.take j)) (hV : view (capOf j) A 0 j = T.take j) (hK : cv (capOf j) c C 0 j = W.take j) (hx : x = T[j]?.getD 0) (hv : v = W[j]?.getD 0) (hT : j < T.length) (hW : j < W.length) (hKe : Keeps S w5 wq) :
    Holds S w5 l (capOf (j + 1)) 0 (j + 1) 0 (ones (W.take (j + 1))) (T.take (j + 1)) (W.take (j + 1)) w' := by
  rw [nexth_zero, hV, hK, hnil, hx, hv] at H
  rw [capOf_succ, ones_take W j hW, take_snoc T j hT, take_snoc W j hW]
  exact Script.Holds.base H hKe

/-- The empty log. -/
theorem empty {S : Nat → Prop} {w : World} {l : Nat} (T W : List Int) (hl : LogAt w l none 0 none 0 0 0 0) : Holds S w l (capOf 0) 0 0 0 (ones (W.take 0)) (T.take 0) (W.take 0) w :=
  ⟨none, none, 0, [], [], hl, .inl ⟨rfl, rfl⟩, rfl, .inl ⟨rfl, rfl⟩, rfl, by simp, rfl, rfl, rfl, Keeps.refl _ _, by simp, by simp⟩

set_option maxRecDepth 100000 in
set_option maxHeartbeats 4000000 in
theorem law (a0 : Option Addr) (K cap0 : Nat) (z0 : List Int) (a1 : Option Addr) (M cap1 : Nat) (z1 : List Int) (w : World)
    (w0 : Arg w a0 K cap0 z0) (w1 : Arg w a1 M cap1 z1) :
    Calls Try.prog 7 #[.slice a0 K cap0, .slice a1 M cap1] w fun e w' => e = .returned (.bool true) ∧ Below w.heap.size w w' := by
  have hN := Arg_max w0
  have hM := Arg_max w1
  have W0 := hide w0
  have W1 := hide w1
  clear w0 w1
  go_enter Try.func7, Try.ntmps7
  go_wp2_with fail
  refine (Bytes.bytes21_any a0 a1 K M cap0 cap1 w hN hM).mono ?_
  rintro e w' ⟨rfl, b, rfl, hb⟩
  cases b with
  | false =>
    go_wp2
    go_ret
    exact ⟨rfl, Below.refl _ _⟩
  | true =>
    obtain ⟨hN1, hM1⟩ := hb rfl
    clear hb hN hM
    by_cases h1 : 65536 < K
    · go_wp2
      go_ret
      exact ⟨rfl, Below.refl _ _⟩
    by_cases h2 : 65536 < M
    · go_wp2
      go_ret
      exact ⟨rfl, Below.refl _ _⟩
    go_wp2_with fail
    refine (clone13_any a0 K cap0 z0 w (unhide W0) hN1).mono ?_
    rintro e w2 ⟨x, rfl, hx⟩
    have W1' := hide ((unhide W1).keep hx.2.2.2)
    go_wp2_with fail
    refine (clone14_any a1 M cap1 z1 w2 (unhide W1') hM1).mono ?_
    rintro e w3 ⟨y, rfl, hy⟩
    have hTK := (unhide W0).len
    have hCM := (unhide W1).len
    generalize z0.take K = T at *
    generalize z1.take M = C at *
    have hb23 := hy.2.2.2
    have hbw := hx.2.2.2
    have hB3 : Below w.heap.size w w3 := hbw.trans (hb23.mono hbw.size)
    have hxs := hx.1.keep hb23
    have hys := hy.1
    have hz3 : w.heap.size ≤ w3.heap.size := hB3.size
    clear hx hy W0 W1 W1' hb23 hbw
    go_wp2_with (at_make; refine wpList_make_row _ rfl _ _ 26 rfl 3 .i64 8 Try.underlying26 info3 _ _ _ _ K rfl rfl rfl rfl (by omega) (by unfold maxLen; omega) ?_; intro w4 hr4 hb4 hz4; have Hz4 := hide hz4; clear hz4)
    have hB4 : Below w.heap.size w w4 := hB3.trans (hb4.mono hz3)
    have hx4 := hxs.keep hb4
    have hy4 := hys.keep hb4
    have hwl := want_len C K
    go_loopw [7, 8] (fun q i wr => ∃ j : Nat, j ≤ K ∧ i = .int .i64 j ∧ q = .bool (ones ((want C K).take j)) ∧ Row wr w3.heap.size 3 .i64 ((want C K).take j ++ List.replicate (K - j) 0) ∧ Below w3.heap.size w3 wr) (fun _ i _ => K - (intOf i).toNat)
    case atStart => exact ⟨0, Nat.zero_le _, rfl, rfl, hr4.cast (fill_start _ K).symm, hb4⟩
    case round =>
      obtain ⟨j, hj, rfl, rfl, hrw, hbw⟩ := hrel
      clear hr4 hb4 hB4 hx4 hy4 Hz4
      by_cases hjK : j < K
      · obtain ⟨v, hv⟩ : ∃ v, v = C[j]?.getD 1 := ⟨_, rfl⟩
        have hwj : (want C K)[j]?.getD 0 = v := by rw [want_at C K j hjK, hv]
        have hon := ones_take (want C K) j (by omega)
        rw [hwj] at hon
        have hl := fill_len (want C K) K j hj (by omega)
        obtain ⟨v0, hcw⟩ : ∃ u, wr.cell? ⟨w3.heap.size, j, none⟩ = some u := ⟨_, hrw.cell (j := j) (by omega)⟩
        have hfw := hrw.free j
        have R1 := (hrw.set j v).cast (fill_set (want C K) K j v hwj.symm hjK (by omega))
        have R2 := hbw.setCell (p := ⟨w3.heap.size, j, none⟩) (Nat.le_refl _) (.int .i64 v)
        have fin : ∀ b, (v == 1) = b → Value.bool (ones ((want C K).take j) && b) = .bool (ones ((want C K).take (j + 1))) := fun b e => by rw [hon, e]
        have Fin := hide fin
        clear fin hon hl hrw hwj
        generalize ones ((want C K).take j) = o1 at *
        by_cases hjM : j < M
        · obtain ⟨gc, rfl, hrc⟩ := hys.some (by omega)
          have hcc := (hrc.keep hbw).cell (j := j) (by omega)
          rw [show C[j]?.getD 0 = v from by rw [hv]; simp [show j < C.length by omega]] at hcc
          clear hbw hv hrc hys hxs
          cases hb : (v != 1) with
          | true =>
            have hb2 : (v == 1) = false := by simpa [bne] using hb
            go_wp2
            go_roundw
            case rel => exact ⟨j + 1, by omega, by go_num, by have e := unhide Fin false hb2; simpa using e, R1, R2⟩
            case measure => simp [intOf]; omega
          | false =>
            have hb2 : (v == 1) = true := by simpa [bne] using hb
            go_wp2
            go_roundw
            case rel => exact ⟨j + 1, by omega, by go_num, by have e := unhide Fin true hb2; simpa using e, R1, R2⟩
            case measure => simp [intOf]; omega
        · obtain rfl : v = 1 := by rw [hv, List.getElem?_eq_none (by omega)]; rfl
          clear hbw hv hys hxs
          go_wp2
          go_roundw
          case rel => exact ⟨j + 1, by omega, by go_num, by have e := unhide Fin true rfl; simpa using e, R1, R2⟩
          case measure => simp [intOf]; omega
      · obtain rfl : K = j := by omega
        rename World => wb
        have hWt : (want C K).take K = want C K := take_all hwl
        have hrW := hrw.cast ((fill_end _ K).trans hWt)
        rw [hWt]
        clear hWt hrw hj hjK hys hCM
        generalize want C K = W at *
        go_wp2_with fail
        refine (toLog_any none none 0 0 0 0 0 wb).mono ?_
        rintro e w5 ⟨rfl, hl5, hb5, hz5⟩
        have hxr := hxs.keep hbw
        have hB5 : Below w.heap.size w wb := hB3.trans (hbw.mono hz3)
        have hgwl := hrW.lt
        have H5 := empty (S := fun k => wb.heap.size ≤ k) T W hl5
        obtain ⟨l, hl⟩ : ∃ l, l = wb.heap.size + 1 := ⟨_, rfl⟩
        rw [← hl] at hl5 H5 ⊢
        have hlS : wb.heap.size ≤ l := by omega
        have hz5' : wb.heap.size ≤ w5.heap.size := by omega
        clear hl hz5 hl5 hB3 hbw hxs
        go_wp2_with fail
        go_loopw [11] (fun i wr => ∃ j : Nat, j ≤ K ∧ i = .int .i64 j ∧ Holds (fun k => wb.heap.size ≤ k) w5 l (capOf j) 0 j 0 (ones (W.take j)) (T.take j) (W.take j) wr) (fun i _ => K - (intOf i).toNat)
        case atStart => exact ⟨0, Nat.zero_le _, rfl, H5⟩
        case round =>
          obtain ⟨j, hj, rfl, HH⟩ := hrel
          clear H5
          obtain ⟨a, c, Mq, A, Cq, hL, hA, hAl, hCs, hCl, hMl, hnil, hV, hK, hKe, hSa, hSc⟩ := HH
          obtain ⟨q1, q2, q3⟩ := capOf_le j
          have hbq : Below wb.heap.size wb wr := hb5.trans (hKe.below (fun k e => e) hz5')
          by_cases hjK : j < K
          · obtain ⟨gx, rfl, hrx⟩ := hxr.some (by omega)
            have cx := (hrx.keep hbq).cell (j := j) (by omega)
            have cw := (hrW.keep hbq).cell (j := j) (by omega)
            obtain ⟨X, hX⟩ : ∃ X, X = T[j]?.getD 0 := ⟨_, rfl⟩
            obtain ⟨Y, hY⟩ : ∃ Y, Y = W[j]?.getD 0 := ⟨_, rfl⟩
            rw [← hX] at cx
            rw [← hY] at cw
            have P := hide (zzPush_any (fun k => wb.heap.size ≤ k) l (capOf j) Mq 0 j a c A Cq 0 X Y wr.drew hlS (fun y hy => (hSa y hy).elim id (fun e => Nat.le_trans hz5' e)) (fun y hy => (hSc y hy).elim id (fun e => Nat.le_trans hz5' e)) hL hA hAl hCs hCl hMl q3 (by omega) q1 (fun _ => rfl) (fun e => e))
            have St := hide (fun w' H => step (S := fun k => wb.heap.size ≤ k) (w' := w') (l := l) H hnil hV hK hX hY (by omega) (by omega) hKe)
            clear hL hA hAl hCs hCl hMl hSa hSc q3 hnil hV hK hX hY hKe
            go_wp2
            go_region_with (go_at_call 17; go_must (refine (unhide P).mono ?_; rintro e w6 ⟨rfl, H6⟩; have H7 := unhide St w6 (by exact H6); clear H6))
            all_goals
              clear P St
              go_wp2
              go_roundw
              case rel => exact ⟨j + 1, by omega, by go_num, H7⟩
              case measure => simp [intOf]; omega
          · obtain rfl : K = j := by omega
            have hTt : T.take K = T := take_all hTK
            have hWt : W.take K = W := take_all hwl
            rw [hTt] at hV
            rw [hWt] at hK hnil
            clear hTt hWt hj hjK
            have hle2 := (capOf_le K).2.1
            have hNle0 : capOf K ≤ 1048576 := by omega
            have hlst : 0 < K → Least K (capOf K) := fun e => by
              obtain ⟨j, rfl⟩ : ∃ j, K = j + 1 := ⟨K - 1, by omega⟩
              exact capOf_least j
            have hz0 : K = 0 → capOf K = 0 := fun e => by subst e; rfl
            obtain ⟨N, hN⟩ : ∃ N, capOf K = N := ⟨_, rfl⟩
            rw [hN] at hL hAl hMl hV hK q1 hNle0 hlst hz0
            have hNle := hNle0
            have hq1 := q1
            have HLst := hide hlst
            have hx1 : Reads wb x K (fun i => A[(0 + i) % N]?.getD 0) := fun h0 => by
              obtain ⟨gx, rfl, hrx⟩ := hxr.some (by omega)
              exact Reads.of_row hrx (by omega) (fun i hi => by rw [← hV]; exact view_at N A 0 K i hi) h0
            have hh0 : 0 < K → 0 < N := fun e => by omega
            clear hN hle2 hNle0 hlst q1 q2 q3 hSa hSc hKe hxr hV hTK
            rcases hCs with ⟨rfl, rfl⟩ | ⟨gc, rfl, hrc⟩
            · obtain rfl : 0 = Mq := by simpa using hCl
              have hov : ones W = true := hnil.symm
              have hx2 : Reads wb (some ⟨w3.heap.size, 0, none⟩) K (fun _ => 1) := Reads.of_row hrW (by omega) (fun i hi => by rw [← hK]; simp [cv, hi])
              have hs := eqn26
              clear hK hrW hMl hCl hnil
              by_cases hK0 : K = 0
              · have hN0 := hz0 hK0
                subst hK0
                subst hN0
                go_wp2_with fail
                refine (fromLog_any l a none 0 0 0 0 0 wr hL).mono ?_
                rintro e w7 ⟨rfl, hb7⟩
                have hb78 : ∀ o, Below wr.heap.size wr (w7.alloc o) := fun o => hb7.alloc hb7.size o
                have hbb8 : ∀ o, Below wb.heap.size wb (w7.alloc o) := fun o => hbq.trans ((hb78 o).mono hbq.size)
                have E := hide (fun o => entries_none 0 a A 0 0 0 0 x (some ⟨w3.heap.size, 0, none⟩) (w7.alloc o) (hA.keep (hb78 o)) hAl  hNle hq1 hh0 (hx1.keep (hbb8 o)) (hx2.keep (hbb8 o)))
                have Fb := hide (fun o => hB5.trans ((hbb8 o).mono hB5.size))
                have hbs := hbb8
                clear hb78 hbb8 hL hA hx1 hx2 hb7 hbq
                go_wp2_with fail
                refine ((unhide E) _).mono ?_
                rintro e w9 ⟨rfl, hb9⟩
                have hf := ((unhide Fb) _).trans (hb9.mono ((unhide Fb) _).size)
                clear E Fb hb9
                go_wp2
                go_ret
                exact ⟨rfl, hf⟩
              · clear hz0
                have HLs := hide ((unhide HLst) (by omega))
                have hKp : 0 < K := by omega
                go_wp2_with fail
                refine (fromLog_any l a none N 0 0 K 0 wr hL).mono ?_
                rintro e w7 ⟨rfl, hb7⟩
                have hb78 : ∀ o, Below wr.heap.size wr (w7.alloc o) := fun o => hb7.alloc hb7.size o
                have hbb8 : ∀ o, Below wb.heap.size wb (w7.alloc o) := fun o => hbq.trans ((hb78 o).mono hbq.size)
                have E := hide (fun o => entries_none N a A  0 K K K x (some ⟨w3.heap.size, 0, none⟩) (w7.alloc o) (hA.keep (hb78 o)) hAl  hNle hq1 hh0 (hx1.keep (hbb8 o)) (hx2.keep (hbb8 o)))
                have Fb := hide (fun o => hB5.trans ((hbb8 o).mono hB5.size))
                have hbs := hbb8
                clear hb78 hbb8 hL hA hx1 hx2 hb7 hbq
                go_wp2
                go_loop [13] (fun s => ∃ G : Nat, s = .int .i64 G ∧ Hid (Least K G) ∧ 4 ≤ G ∧ G ≤ 131072) (fun s => K - (intOf s).toNat)
                case atStart => exact ⟨4, rfl, hide (least_four K), by omega, by omega⟩
                case round =>
                  obtain ⟨G, rfl, HG, hG4, hGm⟩ := hrel
                  by_cases hGK : G < K
                  · have HG2 := hide (least_double K G (unhide HG) hGK)
                    go_wp2
                    go_round
                    case rel => exact ⟨2 * G, by go_num, HG2, by omega, by omega⟩
                    case measure => simp [intOf]; omega
                  · have hGN := least_unique K N G (unhide HLs) (unhide HG) hq1 (by omega)
                    subst hGN
                    go_wp2_with fail
                    refine ((unhide E) _).mono ?_
                    rintro e w9 ⟨rfl, hb9⟩
                    have hf := ((unhide Fb) _).trans (hb9.mono ((unhide Fb) _).size)
                    clear E Fb hb9
                    go_wp2
                    go_ret
                    exact ⟨rfl, hf⟩
            · obtain rfl : N = Mq := (hMl rfl).symm
              have hov : ones W = false := hnil.symm
              have hx2 : Reads wb (some ⟨w3.heap.size, 0, none⟩) K (fun i => Cq[(0 + i) % N]?.getD 0) := Reads.of_row hrW (by omega) (fun i hi => by rw [← hK]; exact view_at N Cq 0 K i hi)
              have hs := eqn26
              clear hK hrW hMl hnil
              by_cases hK0 : K = 0
              · have hN0 := hz0 hK0
                subst hK0
                subst hN0
                go_wp2_with fail
                refine (fromLog_any l a (some ⟨gc, 0, none⟩) 0 0 0 0 0 wr hL).mono ?_
                rintro e w7 ⟨rfl, hb7⟩
                have hb78 : ∀ o, Below wr.heap.size wr (w7.alloc o) := fun o => hb7.alloc hb7.size o
                have hbb8 : ∀ o, Below wb.heap.size wb (w7.alloc o) := fun o => hbq.trans ((hb78 o).mono hbq.size)
                have E := hide (fun o => entries_some 0 a A gc Cq 0 0 0 0 x (some ⟨w3.heap.size, 0, none⟩) (w7.alloc o) (hA.keep (hb78 o)) hAl (hrc.keep (hb78 o)) hCl hNle hq1 hh0 (hx1.keep (hbb8 o)) (hx2.keep (hbb8 o)))
                have Fb := hide (fun o => hB5.trans ((hbb8 o).mono hB5.size))
                have hbs := hbb8
                clear hb78 hbb8 hL hA hx1 hx2 hb7 hbq hrc
                go_wp2_with fail
                refine ((unhide E) _).mono ?_
                rintro e w9 ⟨rfl, hb9⟩
                have hf := ((unhide Fb) _).trans (hb9.mono ((unhide Fb) _).size)
                clear E Fb hb9
                go_wp2
                go_ret
                exact ⟨rfl, hf⟩
              · clear hz0
                have HLs := hide ((unhide HLst) (by omega))
                have hKp : 0 < K := by omega
                go_wp2_with fail
                refine (fromLog_any l a (some ⟨gc, 0, none⟩) N N 0 K 0 wr hL).mono ?_
                rintro e w7 ⟨rfl, hb7⟩
                have hb78 : ∀ o, Below wr.heap.size wr (w7.alloc o) := fun o => hb7.alloc hb7.size o
                have hbb8 : ∀ o, Below wb.heap.size wb (w7.alloc o) := fun o => hbq.trans ((hb78 o).mono hbq.size)
                have E := hide (fun o => entries_some N a A gc Cq 0 K K K x (some ⟨w3.heap.size, 0, none⟩) (w7.alloc o) (hA.keep (hb78 o)) hAl (hrc.keep (hb78 o)) hCl hNle hq1 hh0 (hx1.keep (hbb8 o)) (hx2.keep (hbb8 o)))
                have Fb := hide (fun o => hB5.trans ((hbb8 o).mono hB5.size))
                have hbs := hbb8
                clear hb78 hbb8 hL hA hx1 hx2 hb7 hbq hrc
                go_wp2
                go_loop [13] (fun s => ∃ G : Nat, s = .int .i64 G ∧ Hid (Least K G) ∧ 4 ≤ G ∧ G ≤ 131072) (fun s => K - (intOf s).toNat)
                case atStart => exact ⟨4, rfl, hide (least_four K), by omega, by omega⟩
                case round =>
                  obtain ⟨G, rfl, HG, hG4, hGm⟩ := hrel
                  by_cases hGK : G < K
                  · have HG2 := hide (least_double K G (unhide HG) hGK)
                    go_wp2
                    go_round
                    case rel => exact ⟨2 * G, by go_num, HG2, by omega, by omega⟩
                    case measure => simp [intOf]; omega
                  · have hGN := least_unique K N G (unhide HLs) (unhide HG) hq1 (by omega)
                    subst hGN
                    go_wp2_with fail
                    refine ((unhide E) _).mono ?_
                    rintro e w9 ⟨rfl, hb9⟩
                    have hf := ((unhide Fb) _).trans (hb9.mono ((unhide Fb) _).size)
                    clear E Fb hb9
                    go_wp2
                    go_ret
                    exact ⟨rfl, hf⟩
end Go.Proofs.Qxb6601013a.FromEmpty
