/-
  zzWireClone: a fresh row of the same numbers; nil stays nil.
-/
import Derived.Test.Qxb6600926aMem
import Derived.WalkSpells
namespace Go.Proofs.Qxb6600926a.Clone
open Go.RowKit Go.Proofs.Qxb6600926a.Mem

theorem eqn23 (wx : World) (a : Option Addr) (n c : Nat) : (binOp .eql 23 (.slice a n c) (.slice none 0 0)).run Try.prog wx = .ok (.bool a.isNone) wx := Lib.run_eql_slice_nil wx 23 5 a n c 0 0 Try.underlying23

/-- A slice of bytes that came in: nil; or a row of cap cells, the numbers zs, of which the first len are its elements. -/
def Arg (w : World) (a : Option Addr) (len cap : Nat) (zs : List Int) : Prop :=
  (a = none ∧ len = 0 ∧ cap = 0 ∧ zs = []) ∨
  ∃ x, a = some x ∧ len ≤ cap ∧ cap ≤ maxLen ∧ zs.length = cap ∧ (∀ i, i < zs.length → w.cell? (x.add i) = some (.int .u8 (zs.getD i 0))) ∧ ∀ n ∈ zs, (Lit.int .u8 n).wf = true

theorem Arg.len {w : World} {a : Option Addr} {len cap : Nat} {zs : List Int} (h : Arg w a len cap zs) : (zs.take len).length = len := by
  rcases h with ⟨_, rfl, _, rfl⟩ | ⟨_, _, h1, _, h3, _⟩
  · rfl
  · simp; omega

/-- What an argument leads to is there, and reads as before, in a later world that has only grown. -/
theorem Arg.keep {w w' : World} {a : Option Addr} {len cap : Nat} {zs : List Int} (h : Arg w a len cap zs) (hb : Below w.heap.size w w') : Arg w' a len cap zs := by
  rcases h with h | ⟨x, h0, h1, h2, h3, h4, h5⟩
  · exact .inl h
  · exact .inr ⟨x, h0, h1, h2, h3, fun i hi => (hb.cell (World.block_lt_of_cell? w _ (h4 i hi))).trans (h4 i hi), h5⟩

/-- The clone x of a, in the world w': nil where a was; else a fresh row of the same numbers. -/
def Cloned (w : World) (a x : Option Addr) (w' : World) (E : TypeId) (L : List Int) : Prop :=
  Sl w' x E L ∧ x.isNone = a.isNone ∧ (∀ y, x = some y → w.heap.size ≤ y.block) ∧ Below w.heap.size w w'

set_option maxHeartbeats 400000 in
theorem clone6_nil (w : World) : Calls Try.prog 6 #[.slice none 0 0] w fun e w' => e = .returned (.slice none 0 0) ∧ w = w' := by
  have hs := eqn23
  go_enter Try.func6, Try.ntmps6
  go_wp2
  go_ret
  exact ⟨rfl, rfl⟩

set_option maxHeartbeats 400000 in
theorem clone6_some (b off len cap : Nat) (zs : List Int) (w : World) (hz : len ≤ zs.length) (hl : len ≤ 1048576)
    (hc : ∀ i, i < len → w.cell? ⟨b, off + i, none⟩ = some (.int .u8 (zs[i]?.getD 0))) :
    Calls Try.prog 6 #[.slice (some ⟨b, off, none⟩) len cap] w fun e w' => e = .returned (.slice (some ⟨w.heap.size, 0, none⟩) len len) ∧ Row w' w.heap.size 5 .u8 (zs.take len) ∧ Below w.heap.size w w' ∧ w'.heap.size = w.heap.size + 1 := by
  have hs := eqn23
  have hbl : ∀ i, i < len → b < w.heap.size := fun i hi => World.block_lt_of_cell? w _ (hc i hi)
  go_enter Try.func6, Try.ntmps6
  go_wp2_with (at_make; refine wpList_make_row _ rfl _ _ 23 rfl 5 .u8 1 Try.underlying23 info5 _ _ _ _ len rfl rfl rfl rfl (by omega) (by unfold maxLen; omega) ?_; intro w1 hr1 hb1 hz1)
  go_loopw [4] (fun i wr => ∃ k : Nat, k ≤ len ∧ i = .int .i64 k ∧ Row wr w.heap.size 5 .u8 (zs.take k ++ List.replicate (len - k) 0) ∧ Below w.heap.size w wr ∧ wr.heap.size = w.heap.size + 1) (fun i _ => len - (intOf i).toNat)
  case atStart => exact ⟨0, Nat.zero_le _, rfl, hr1.cast (fill_start zs len).symm, hb1, hz1⟩
  case round =>
    obtain ⟨k, hk, rfl, hrow, hbel, hsz⟩ := hrel
    by_cases hlt : k < len
    · have hcx : wr.cell? ⟨b, off + k, none⟩ = some (.int .u8 (zs[k]?.getD 0)) := (hbel.cell (p := ⟨b, off + k, none⟩) (hbl k hlt)).trans (hc k hlt)
      have hlen := fill_len zs len k hk hz
      have hcy := hrow.cell (j := k) (by omega)
      have hfy := hrow.free k
      have R1 := (hrow.set k (zs[k]?.getD 0)).cast (fill_set zs len k _ rfl hlt hz)
      have R2 : Below w.heap.size w (wr.setCell ⟨w.heap.size, k, none⟩ (.int .u8 (zs[k]?.getD 0))) := hbel.setCell (p := ⟨w.heap.size, k, none⟩) (Nat.le_refl _) _
      clear hc hrow hbel hr1 hb1 hlen
      go_wp2
      go_roundw
      case rel => exact ⟨k + 1, by omega, by go_num, R1, R2, by simpa using hsz⟩
      case measure => simp [intOf]; omega
    · go_wp2
      go_ret
      have e : k = len := by omega
      subst e
      exact ⟨rfl, hrow.cast (fill_end zs k), hbel, hsz⟩

set_option maxHeartbeats 400000 in
theorem clone6_empty (x : Addr) (cap : Nat) (w : World) :
    Calls Try.prog 6 #[.slice (some x) 0 cap] w fun e w' => e = .returned (.slice (some ⟨w.heap.size, 0, none⟩) 0 0) ∧ Row w' w.heap.size 5 .u8 [] ∧ Below w.heap.size w w' ∧ w'.heap.size = w.heap.size + 1 := by
  have hs := eqn23
  go_enter Try.func6, Try.ntmps6
  go_wp2_with (at_make; refine wpList_make_row _ rfl _ _ 23 rfl 5 .u8 1 Try.underlying23 info5 _ _ _ _ 0 rfl rfl rfl rfl (by omega) (by unfold maxLen; omega) ?_; intro w1 hr1 hb1 hz1)
  refine wp_loop_rounds 1 ?_
  rw [rounds_succ]
  go_wp2
  go_ret
  exact ⟨rfl, hr1, hb1, hz1⟩

theorem clone6_any (a : Option Addr) (len cap : Nat) (zs : List Int) (w : World) (h : Arg w a len cap zs) (hl : len ≤ 1048576) :
    Calls Try.prog 6 #[.slice a len cap] w fun e w' => ∃ x, e = .returned (.slice x len len) ∧ Cloned w a x w' 5 (zs.take len) := by
  rcases h with ⟨rfl, rfl, rfl, rfl⟩ | ⟨⟨b, off, spot⟩, rfl, h1, h2, h3, h4, h5⟩
  · refine (clone6_nil w).mono ?_
    rintro e w' ⟨rfl, rfl⟩
    exact ⟨none, rfl, .inl ⟨rfl, rfl⟩, rfl, by simp, Below.refl _ _⟩
  · by_cases h0 : len = 0
    · subst h0
      refine (clone6_empty _ cap w).mono ?_
      rintro e w' ⟨rfl, q1, q2, q3⟩
      exact ⟨_, rfl, .inr ⟨_, rfl, q1.cast (by simp)⟩, rfl, fun y hy => by simp only [Option.some.injEq] at hy; subst hy; exact Nat.le_refl _, q2⟩
    · have hspot : spot = none := by simpa [Addr.add] using World.cell?_spot (h4 0 (by omega))
      subst hspot
      refine (clone6_some b off len cap zs w (by omega) hl (fun i hi => by
        have := h4 i (by omega)
        rw [Addr.add_lit] at this
        rw [this]; simp [List.getD])).mono ?_
      rintro e w' ⟨rfl, q1, q2, q3⟩
      exact ⟨_, rfl, .inr ⟨_, rfl, q1⟩, rfl, fun y hy => by simp only [Option.some.injEq] at hy; subst hy; exact Nat.le_refl _, q2⟩
end Go.Proofs.Qxb6600926a.Clone
