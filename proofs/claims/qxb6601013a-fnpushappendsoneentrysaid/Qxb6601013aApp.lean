/-
  append of one element to a row of the call's own; maxOf.
-/
import Derived.Test.Qxb6601013aPush
namespace Go.Proofs.Qxb6601013a.App
open Go.RowKit Go.Proofs.Qxb6601013a.Mem Go.Proofs.Qxb6601013a.Grown Go.Proofs.Qxb6601013a.Ent

/-- Block g is a row that begins with the numbers L. -/
def Begins (w : World) (g : Nat) (E : TypeId) (L : List Int) : Prop := ∃ cs, w.heap[g]? = some (.cells cs E (0, 0)) ∧ cs.toList.take L.length = L.map (Value.int .i64)

section
variable {w w' : World} {g : Nat} {E : TypeId} {L : List Int}
theorem Begins.lt (h : Begins w g E L) : g < w.heap.size := by
  obtain ⟨cs, h, _⟩ := h
  by_cases hlt : g < w.heap.size
  · exact hlt
  · have hn : w.heap[g]? = none := by simp; omega
    rw [hn] at h
    simp at h
theorem Begins.of_eq (h : Begins w g E L) (e : w'.heap[g]? = w.heap[g]?) : Begins w' g E L := by
  obtain ⟨cs, h1, h2⟩ := h
  exact ⟨cs, by rw [e, h1], h2⟩
theorem Begins.cell (h : Begins w g E L) {i : Nat} (hi : i < L.length) : w.cell? ⟨g, i, none⟩ = some (.int .i64 (L[i]?.getD 0)) := by
  obtain ⟨cs, h1, h2⟩ := h
  rw [cell_of_row w g i cs E (0, 0) h1]
  have e : (cs.toList.take L.length)[i]? = some (.int .i64 (L[i]?.getD 0)) := by rw [h2]; simp [hi]
  rw [List.getElem?_take, if_pos hi] at e
  simpa using e
theorem Begins.reads (h : Begins w g E L) {n : Nat} (hn : n ≤ L.length) {f : Nat → Int} (hf : ∀ i, i < n → L[i]?.getD 0 = f i) : Reads w (some ⟨g, 0, none⟩) n f :=
  fun _ => ⟨g, rfl, h.lt, fun i hi => by rw [← hf i hi]; exact h.cell (by omega)⟩
theorem Begins.stay {S : Nat → Prop} (h : Begins w g E L) (hk : Keeps S w w') (hn : ¬ S g) : Begins w' g E L := h.of_eq (hk.block h.lt hn)
theorem Begins.keep (h : Begins w g E L) (hb : Below w.heap.size w w') : Begins w' g E L := h.of_eq (hb.block g h.lt)
theorem Begins.ne {g' : Nat} {E' : TypeId} {k : IntKind} {xs : List Int} (h : Begins w g E L) (h' : Row w g' E' k xs) (hE : E' ≠ E) : g ≠ g' := by
  obtain ⟨cs, h1, _⟩ := h
  exact fun e => (h'.ne h1 hE) e.symm
end

/-- 'append(s, y)', s a row of the call's own, y laid in a box of its own. -/
theorem wpList_append_row {P : Program} (w : World) {ops : Array Oper} {rest : List Oper} {o : Oper} {a : Act} {Q : Exit → Act → World → Prop} (hgd : o.guard = none) (s x : Operand) (t : TypeId)
    (ho : o.op = .call { callee := .builtin .append, args := #[s, x], argTypes := #[t, t] }) (e : TypeId) (ht : P.underlying t = some (.slice e))
    (hi : (P.info? e).map (fun i => (i.zero, i.size, i.bytes)) = some (some (.int .i64 0), 1, 8)) (g n : Nat) (L : List Int) (y : Int) (ad : Addr)
    (hs : a.eval s = .slice (some ⟨g, 0, none⟩) n n) (hx : a.eval x = .slice (some ad) 1 1) (hr : Row w g e .i64 L) (hL : L.length = n) (hn : n ≤ 1048576) (hy : w.cell? (ad.add 0) = some (.int .i64 y))
    (h : ∀ g' cap' w', g ≤ g' → Begins w' g' e (L ++ [y]) → Keeps (fun k => k = g) w w' → wpList P ops Q rest (a.put o.dst (.slice (some ⟨g', 0, none⟩) (n + 1) cap')) w') : wpList P ops Q (o :: rest) a w := by
  obtain ⟨i, hi0, hz0, hz1, hz2⟩ := info_parts hi
  have hown : w.ownsRow g e 1 (.slice (some ⟨g, 0, none⟩) n n) n (L.map (Value.int .i64)) :=
    ⟨by simp [hL], .inr ⟨g, n, _, rfl, Nat.le_refl _, hr, Nat.le_refl _, by unfold maxLen; omega, by simp [hL], List.take_of_length_le (by simp [hL])⟩⟩
  refine wpList_append_own w hgd s x t ho g e i _ 1 8 ht hi0 hz0 hz1 hz2 rfl (by decide) _ n _ hs hown ad 1 1 [.int .i64 y] hx rfl ?_ ?_ (by unfold maxLen; omega) (by omega) (Nat.le_of_lt hr.lt) ?_
  · intro j u hj
    match j, hj with
    | 0, hj => simp at hj; subst hj; exact hy
  · intro u hu
    simp at hu
    subst hu
    rfl
  · intro v' w' ho' hg' _
    rcases ho'.2 with ⟨_, h0⟩ | ⟨g', cap', cur, rfl, hgg, hh, _, _, _, htk⟩
    · omega
    · refine h g' cap' w' hgg ⟨cur, hh, ?_⟩ ⟨hg'.os, hg'.tape, hg'.output, hg'.size, fun k hk hne => hg'.block k hk (fun q => hne ?_)⟩
      · rw [List.map_append]
        simpa [hL] using htk
      · simpa [Value.ownBlock] using q

theorem maxOf_any (N : Nat) (w : World) (hN : N ≤ 1048576) : Calls Try.prog 19 #[.int .i64 4, .int .i64 (2 * (N : Int))] w fun e w' => e = .returned (.int .i64 ((room N : Nat) : Int)) ∧ w' = w := by
  by_cases h4 : 4 < 2 * N
  · have e : ((room N : Nat) : Int) = 2 * (N : Int) := by rw [room_a N h4]; omega
    rw [e]
    go_enter Try.func19, Try.ntmps19
    go_wp2
    go_ret
    exact ⟨rfl, rfl⟩
  · have e : ((room N : Nat) : Int) = 4 := by rw [room_b N (by omega)]; omega
    rw [e]
    by_cases h5 : 2 * N = 4
    · have e5 : 2 * (N : Int) = 4 := by omega
      rw [e5]
      clear e5
      go_enter Try.func19, Try.ntmps19
      go_wp2
      go_ret
      exact ⟨rfl, rfl⟩
    · go_enter Try.func19, Try.ntmps19
      go_wp2
      go_ret
      exact ⟨rfl, rfl⟩
end Go.Proofs.Qxb6601013a.App
