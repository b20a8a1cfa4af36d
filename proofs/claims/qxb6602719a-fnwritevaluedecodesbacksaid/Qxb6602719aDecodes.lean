/-
  FnWriteValueDecodesBack: the walk.
-/
import Derived.Test.Qxb6602719aUnesc
namespace Go.Proofs.Qxb6602719a.Decodes
open Go.RowKit Go.Proofs.Qxb6602719a.Fold Go.Proofs.Qxb6602719a.Esc Go.Proofs.Qxb6602719a.Write Go.Proofs.Qxb6602719a.Unesc

set_option maxHeartbeats 400000 in
theorem write_empty (b : Nat) (w : World) : Calls Try.prog 24 #[.pointer (some ⟨b, 0, none⟩), .string .empty] w fun e w' => e = .returned (.tuple #[]) ∧ w = w' := by
  go_enter Try.func24, Try.ntmps24
  go_wp2
  refine wp_loop_rounds 1 ?_
  rw [rounds_succ]
  go_wp2
  go_end0
  exact ⟨rfl, rfl⟩

theorem zzWrite_empty (b : Nat) (w : World) : Calls Try.prog 9 #[.pointer (some ⟨b, 0, none⟩), .string .empty] w fun e w' => e = .returned (.tuple #[]) ∧ w = w' := by
  go_enter Try.func9, Try.ntmps9
  go_wp2_with fail
  refine (write_empty b _).mono ?_
  rintro e w' ⟨rfl, rfl⟩
  go_wp2
  go_end0
  exact ⟨rfl, rfl⟩

theorem zzWrite_any (B b : Nat) (s : ByteArray) (w : World) (hI : Lib.IsBuilder 26 5 B b [] w) (hBw : B ≤ w.heap.size) (hs : s.size ≤ 1048576) :
    Calls Try.prog 9 #[.pointer (some ⟨b, 0, none⟩), .string s] w fun e w' => e = .returned (.tuple #[]) ∧ Lib.IsBuilder 26 5 B b (Lib.byteCells (encTo s.data.toList s.size)) w' ∧ Below B w w' := by
  have P := hide (write_any B b s w hI hBw hs)
  clear hI
  go_enter Try.func9, Try.ntmps9
  go_wp2_with fail
  refine (unhide P).mono ?_
  rintro e w' ⟨rfl, h1, h2⟩
  go_wp2
  go_end0
  exact ⟨rfl, h1, h2⟩

def Ans (A : Nat) (e : Ending) : Prop := ∃ b, e = .returned (.bool b) ∧ (b = true → A ≤ 1048576)
theorem no (A : Nat) : Ans A (.returned (.bool false)) := ⟨false, rfl, by simp⟩
theorem yes (A : Nat) (h1 : A ≤ 1048576) : Ans A (.returned (.bool true)) := ⟨true, rfl, fun _ => h1⟩

set_option maxRecDepth 100000 in
set_option maxHeartbeats 400000 in
theorem bytes_any (a : ByteArray) (w : World) (ha : a.size ≤ maxLen) : Calls Try.prog 8 #[.string a] w fun e w' => w = w' ∧ Ans a.size e := by
  unfold maxLen at ha
  by_cases h1 : 1048576 < a.size
  · go_enter Try.func8, Try.ntmps8
    go_wp2
    go_ret
    exact ⟨rfl, no _⟩
  · go_enter Try.func8, Try.ntmps8
    go_wp2
    go_ret
    exact ⟨rfl, yes _ (by omega)⟩

theorem below_alloc (w : World) (o : Obj) : Below w.heap.size w (w.alloc o) := (Below.refl _ _).alloc (Nat.le_refl _) o

set_option maxRecDepth 100000 in
set_option maxHeartbeats 2000000 in
theorem law (s : ByteArray) (w : World) (hs : s.size ≤ maxLen) : Calls Try.prog 3 #[.string s] w fun e w' => e = .returned (.bool true) ∧ Below w.heap.size w w' := by
  go_enter Try.func3, Try.ntmps3
  go_wp2_with fail
  refine (bytes_any s w hs).mono ?_
  rintro e w' ⟨rfl, q, rfl, hq⟩
  cases q with
  | false =>
    go_wp2
    go_ret
    exact ⟨rfl, Below.refl _ _⟩
  | true =>
    have hs1 := hq rfl
    clear hq hs
    by_cases h1 : 524288 < s.size
    · go_wp2
      go_ret
      exact ⟨rfl, Below.refl _ _⟩
    have hs2 : s.size ≤ 524288 := by omega
    by_cases h0 : s.size = 0
    · obtain rfl : s = .empty := by
        cases s with
        | mk d =>
          have : d = #[] := Array.eq_empty_of_size_eq_zero h0
          rw [this]; rfl
      clear hs1 hs2 h0 h1
      go_wp2_with fail
      refine (zzWrite_empty w.heap.size _).mono ?_
      rintro e w' ⟨rfl, rfl⟩
      go_wp2_with fail
      refine (Bld.string_nil w.heap.size w.heap.size (.pointer none) _ (heap_alloc_new w _)).mono ?_
      rintro e w2 ⟨rfl, hb2⟩
      have hb02 := (below_alloc w _).trans hb2
      go_wp2_with fail
      refine (unescape_any .empty ⟨#[]⟩ w2 (by decide) rfl).mono ?_
      rintro e w3 ⟨rfl, hb3⟩
      have hb03 := hb02.trans (hb3.mono hb02.size)
      clear hb2 hb02 hb3
      go_wp2
      go_ret
      exact ⟨rfl, hb03⟩
    · have hI := Lib.fresh_isBuilder 26 5 w
      have P := hide (zzWrite_any w.heap.size w.heap.size s _ hI (by simp) hs1)
      have hne : encTo s.data.toList s.size ≠ [] := fun e => by
        have := (encTo_len s.data.toList s.size).1
        rw [e, List.length_nil] at this
        omega
      have hto : (s.toList == s.toList) = true := by simp
      clear hI h0 h1
      go_wp2_with fail
      refine (unhide P).mono ?_
      rintro e w1 ⟨rfl, hI1, hb1⟩
      have hb01 := (below_alloc w _).trans hb1
      go_wp2_with fail
      refine (Bld.string_some w.heap.size w.heap.size (encTo s.data.toList s.size) w1 hI1 hne).mono ?_
      rintro e w2 ⟨rfl, hb2⟩
      have hb02 := hb01.trans hb2
      clear P hI1 hne hb1 hb01 hb2
      go_wp2_with fail
      refine (unescape_any s _ w2 hs2 rfl).mono ?_
      rintro e w3 ⟨rfl, hb3⟩
      have hb03 := hb02.trans (hb3.mono hb02.size)
      clear hb02 hb3
      go_wp2
      go_ret
      exact ⟨rfl, hb03⟩
end Go.Proofs.Qxb6602719a.Decodes
