/-
  Memory of the call's own: a block that is a row of numbers; the law for make.
-/
import Derived.Test.Qxb6600926aRows
import Derived.WalkKit
import Derived.ProofKit
namespace Go.Proofs.Qxb6600926a.Mem
open Go.RowKit

/-- Block g is a row of the numbers xs, none of it frozen. -/
def Row (w : World) (g : Nat) (E : TypeId) (k : IntKind) (xs : List Int) : Prop := w.heap[g]? = some (.cells (xs.map (Value.int k)).toArray E (0, 0))

section
variable {w w' : World} {g : Nat} {E : TypeId} {k : IntKind} {xs : List Int}

theorem Row.cell (h : Row w g E k xs) {j : Nat} (hj : j < xs.length) : w.cell? ⟨g, j, none⟩ = some (.int k (xs[j]?.getD 0)) := by
  rw [cell_of_row w g j _ E (0, 0) h]
  simp [hj]

theorem Row.free (h : Row w g E k xs) (j : Nat) : w.frozen? ⟨g, j, none⟩ = false := frozen_of_row w g j _ E h

theorem Row.lt (h : Row w g E k xs) : g < w.heap.size := by
  by_cases hlt : g < w.heap.size
  · exact hlt
  · have hn : w.heap[g]? = none := by simp; omega
    unfold Row at h
    rw [hn] at h
    simp at h

theorem Row.set (h : Row w g E k xs) (j : Nat) (v : Int) : Row (w.setCell ⟨g, j, none⟩ (.int k v)) g E k (xs.set j v) := by
  unfold Row
  rw [heap_setCell_same w g j _ E _ h]
  simp [List.map_set]

theorem Row.of_eq (h : Row w g E k xs) (e : w'.heap[g]? = w.heap[g]?) : Row w' g E k xs := by
  unfold Row at h ⊢
  rw [e, h]

theorem Row.below {B : Nat} (h : Row w g E k xs) (hb : Below B w w') (hg : g < B) : Row w' g E k xs := h.of_eq (hb.block g hg)

theorem Row.keep (h : Row w g E k xs) (hb : Below w.heap.size w w') : Row w' g E k xs := h.below hb h.lt

theorem Row.store_other (h : Row w g E k xs) {b j : Nat} (hne : g ≠ b) (v : Value) : Row (w.setCell ⟨b, j, none⟩ v) g E k xs :=
  h.of_eq (heap_setCell_other w ⟨b, j, none⟩ g v hne)

theorem Row.cast {ys : List Int} (h : Row w g E k xs) (e : xs = ys) : Row w g E k ys := e ▸ h

theorem Row.ne {g' : Nat} {E' : TypeId} {cs : Array Value} {fr : Nat × Nat} (h : Row w g E k xs) (h' : w.heap[g']? = some (.cells cs E' fr)) (hE : E ≠ E') : g ≠ g' := by
  intro e
  subst e
  unfold Row at h
  rw [h] at h'
  simp at h'
  exact hE h'.2.1
end

theorem madeCells_int (k : IntKind) (n : Nat) : madeCells (Value.int k 0).cells (n * 1) = ((List.replicate n (0 : Int)).map (Value.int k)).toArray := by
  apply Array.ext
  · simp [madeCells]
  · intro i h1 h2
    have e : (Value.int k 0).cells = #[Value.int k 0] := rfl
    simp [madeCells, e, Nat.mod_one]

/-- 'make([]T, n)', T an integer type: a new row of n noughts. -/
theorem wpList_make_row {P : Program} (w : World) {ops : Array Oper} {rest : List Oper} {o : Oper} {a : Act} {Q : Exit → Act → World → Prop}
    (hg : o.guard = none) (l c : Operand) (t : TypeId) (hop : o.op = Op.makeSlice t l c) (e : TypeId) (k : IntKind) (bytes : Nat)
    (h1 : P.underlying t = some (.slice e)) (h2 : (P.info? e).map (fun i => (i.zero, i.size, i.bytes)) = some (some (.int k 0), 1, bytes))
    (kl kc : IntKind) (L C : Int) (n : Nat) (hl : a.eval l = .int kl L) (hc : a.eval c = .int kc C) (hL : L = (n : Int)) (hC : C = (n : Int)) (b2 : bytes * n ≤ 281474976710656) (b3 : n ≤ maxLen)
    (hK : ∀ w', Row w' w.heap.size e k (List.replicate n 0) → Below w.heap.size w w' → w'.heap.size = w.heap.size + 1 → wpList P ops Q rest (a.put o.dst (.slice (some ⟨w.heap.size, 0, none⟩) n n)) w') :
    wpList P ops Q (o :: rest) a w := by
  refine wpList_plain hg fun K hK' => ?_
  obtain ⟨i, hi, hz0, hz1, hz2⟩ := info_parts h2
  subst hL
  subst hC
  have h63' : (n : Int) ≤ 9223372036854775807 := by
    have h := b3
    simp [maxLen] at h
    omega
  have hb' : (i.bytes : Int) * (n : Int) ≤ 281474976710656 := by
    have h : ((i.bytes * n : Nat) : Int) ≤ 281474976710656 := by rw [hz2]; omega
    rwa [Int.natCast_mul] at h
  have hr := run_make (P := P) w t e i _ h1 hi hz0 kl kc n n (by omega) (by omega) hb' h63'
  simp only [Int.toNat_natCast, hz1] at hr
  rw [madeCells_int] at hr
  have hK2 := hK _ (heap_alloc_new w _) ((Below.refl _ _).alloc (Nat.le_refl _) _) (by show (w.heap.push _).size = _; simp)
  unfold Oper.wp
  simp [execOp, hop, hl, hc, hr, Result.andThen]
  exact hK' _ _ (by simpa using hK2)

theorem info5 : (Try.prog.info? 5).map (fun i => (i.zero, i.size, i.bytes)) = some (some (.int .u8 0), 1, 1) := by kernel_rfl

/-! ### Lists that a loop fills from the left -/
theorem fill_set (zs : List Int) (n k : Nat) (x : Int) (hx : x = zs[k]?.getD 0) (hk : k < n) (hz : n ≤ zs.length) :
    (zs.take k ++ List.replicate (n - k) 0).set k x = zs.take (k + 1) ++ List.replicate (n - (k + 1)) 0 := by
  subst hx
  have hl : (zs.take k).length = k := by simp; omega
  rw [List.set_append_right _ _ (by omega), hl, Nat.sub_self]
  obtain ⟨m, hm⟩ : ∃ m, n - k = m + 1 := ⟨n - k - 1, by omega⟩
  have hm2 : n - (k + 1) = m := by omega
  rw [hm, hm2, List.replicate_succ, List.set_cons_zero, List.take_add_one, List.append_assoc]
  congr 1
  have : k < zs.length := by omega
  simp [this]

theorem fill_start (zs : List Int) (n : Nat) : zs.take 0 ++ List.replicate (n - 0) 0 = List.replicate n 0 := by simp
theorem fill_end (zs : List Int) (n : Nat) : zs.take n ++ List.replicate (n - n) 0 = zs.take n := by simp
theorem fill_len (zs : List Int) (n k : Nat) (hk : k ≤ n) (hz : n ≤ zs.length) : (zs.take k ++ List.replicate (n - k) 0).length = n := by simp; omega

/-- A fact kept from the walk. -/
theorem hide {p : Prop} (h : p) : Hid p := h
theorem unhide {p : Prop} (h : Hid p) : p := h

/-- What a slice of the call's own leads to: nil and nothing; or a row of the numbers L. The value is '.slice a L.length L.length'. -/
def Sl (w : World) (a : Option Addr) (E : TypeId) (L : List Int) : Prop := (a = none ∧ L = []) ∨ ∃ g, a = some ⟨g, 0, none⟩ ∧ Row w g E .u8 L

theorem Sl.keep {w w' : World} {a : Option Addr} {E : TypeId} {L : List Int} (h : Sl w a E L) (hb : Below w.heap.size w w') : Sl w' a E L := by
  rcases h with h | ⟨g, rfl, hr⟩
  · exact .inl h
  · exact .inr ⟨g, rfl, hr.keep hb⟩

theorem Sl.some {w : World} {a : Option Addr} {E : TypeId} {L : List Int} (h : Sl w a E L) (hL : 0 < L.length) : ∃ g, a = some ⟨g, 0, none⟩ ∧ Row w g E .u8 L := by
  rcases h with ⟨_, rfl⟩ | h
  · simp at hL
  · exact h

theorem take_all {L : List Int} {n : Nat} (h : L.length = n) : L.take n = L := List.take_of_length_le (by omega)
end Go.Proofs.Qxb6600926a.Mem
