/-
  FnReadHeadRoundTrip: the walk.
-/
import Derived.Test.Qxb6600926aRead
namespace Go.Proofs.Qxb6600926a.Head
open Go.RowKit Go.Proofs.Qxb6600926a.Mem Go.Proofs.Qxb6600926a.Clone Go.Proofs.Qxb6600926a.Enc Go.Proofs.Qxb6600926a.Read

def Ans (N : Nat) (e : Ending) : Prop := ∃ b, e = .returned (.bool b) ∧ (b = true → N ≤ 1048576)
theorem no (N : Nat) : Ans N (.returned (.bool false)) := ⟨false, rfl, by simp⟩
theorem yes (N : Nat) (h1 : N ≤ 1048576) : Ans N (.returned (.bool true)) := ⟨true, rfl, fun _ => h1⟩

set_option maxRecDepth 100000 in
set_option maxHeartbeats 400000 in
theorem bytes_any (M X W : Int) (a : Option Addr) (N c : Nat) (w : World) (hN : N ≤ maxLen) :
    Calls Try.prog 5 #[.int .u8 M, .int .u64 X, .int .u8 W, .slice a N c] w fun e w' => w = w' ∧ Ans N e := by
  unfold maxLen at hN
  by_cases h1 : 1048576 < N
  · go_enter Try.func5, Try.ntmps5
    go_wp2
    go_ret
    exact ⟨rfl, no N⟩
  · go_enter Try.func5, Try.ntmps5
    go_wp2
    go_ret
    exact ⟨rfl, yes N (by omega)⟩

theorem Arg.small {w : World} {a : Option Addr} {len cap : Nat} {zs : List Int} (h : Arg w a len cap zs) : len ≤ maxLen := by
  rcases h with ⟨_, rfl, _, _⟩ | ⟨_, _, h1, h2, _⟩
  · exact Nat.zero_le _
  · omega

set_option maxRecDepth 100000 in
set_option maxHeartbeats 2000000 in
theorem law (M X W : Int) (a : Option Addr) (N cap : Nat) (zs : List Int) (w : World) (hM : 0 ≤ M) (hM2 : M ≤ 255) (hX : 0 ≤ X) (hX2 : X ≤ 18446744073709551615) (hW : 0 ≤ W) (hW2 : W ≤ 255) (ha : Arg w a N cap zs) :
    Calls Try.prog 3 #[.int .u8 M, .int .u64 X, .int .u8 W, .slice a N cap] w fun e w' => e = .returned (.bool true) ∧ Below w.heap.size w w' := by
  have PB := hide (bytes_any M X W a N cap w (Arg.small ha))
  have PC := hide (fun h => clone6_any a N cap zs w ha h)
  have hT := ha.len
  clear ha
  generalize zs.take N = T at PC hT
  go_enter Try.func3, Try.ntmps3
  go_wp2_with fail
  refine (unhide PB).mono ?_
  clear PB
  rintro e w' ⟨rfl, q, rfl, hq⟩
  cases q with
  | false =>
    go_wp2
    go_ret
    exact ⟨rfl, Below.refl _ _⟩
  | true =>
    have hN := hq rfl
    clear hq
    by_cases hM7 : 7 < M
    · go_wp2
      go_ret
      exact ⟨rfl, Below.refl _ _⟩
    have hM8 : M ≤ 7 := by omega
    clear hM7 hM2
    go_wp2_with fail
    refine (unhide PC hN).mono ?_
    clear PC
    rintro e w2 ⟨x, rfl, hx⟩
    obtain ⟨hsl, _, _, hb2⟩ := hx
    have PE := hide (enc_any M X W x N T w2 hM hM8 hX hX2 hW hW2 hsl hT hN)
    go_wp2_with fail
    refine (unhide PE).mono ?_
    clear PE
    rintro e w3 ⟨c, hc, hf, rfl, hrow, hb3⟩
    have hsl3 := hsl.keep hb3
    have hb03 := hb2.trans (hb3.mono hb2.size)
    clear hb2 hb3 hsl
    obtain ⟨o, h0, h1⟩ : ∃ o, (N = 0 → o = 0) ∧ (0 < N → o = sz c + 1) := by
      by_cases h : N = 0
      · exact ⟨0, fun _ => rfl, fun h2 => by omega⟩
      · exact ⟨sz c + 1, fun h2 => absurd h2 h, fun _ => rfl⟩
    generalize w2.heap.size = G at hrow ⊢
    obtain ⟨L, hL⟩ : ∃ L, L = sz c + 1 + N := ⟨_, rfl⟩
    have PR := hide (zzRead_any c hc M X G N L T w3 hM hM8 hX hX2 hf hN hrow o h0 h1 hL)
    rw [← hL]
    have Htl := hide (tail_cells hrow N o hT h1)
    have hGl := hrow.lt
    clear hrow hL h0 h1 hf hc
    go_wp2_with fail
    refine (unhide PR).mono ?_
    clear PR
    rintro e w4 ⟨rfl, hb4⟩
    have hsl4 := hsl3.keep hb4
    have Htl4 : Hid (∀ i, i < N → w4.cell? ⟨G, o + i, none⟩ = some (.int .u8 (T[i]?.getD 0))) := hide (fun i hi => (hb4.cell (p := ⟨G, o + i, none⟩) hGl).trans (unhide Htl i hi))
    have hb04 := hb03.trans (hb4.mono hb03.size)
    clear hb03 hb4 hsl3 Htl hGl
    have PS := hide (same_any G o N x T w4 hsl4 hT hN (unhide Htl4))
    clear Htl4 hsl4
    go_wp2_with fail
    refine (unhide PS).mono ?_
    clear PS
    rintro e w5 ⟨rfl, hb5⟩
    have hb05 := hb04.trans (hb5.mono hb04.size)
    clear hb04 hb5
    go_wp2
    go_ret
    exact ⟨rfl, hb05⟩
end Go.Proofs.Qxb6600926a.Head
