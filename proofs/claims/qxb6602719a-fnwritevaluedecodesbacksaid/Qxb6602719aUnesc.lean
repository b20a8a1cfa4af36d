/-
  rfcSpecial, hexVal, rfcUnescape: reading back what writeValue has written.
-/
import Derived.Test.Qxb6602719aWrite
import Derived.Lib.BufferRead
namespace Go.Proofs.Qxb6602719a.Unesc
open Go.RowKit Go.Proofs.Qxb6602719a.Fold Go.Proofs.Qxb6602719a.Esc Go.Proofs.Qxb6602719a.Write

set_option maxHeartbeats 800000 in
theorem special_yes (c : Int) (w : World) (h : c = 34 ∨ c = 43 ∨ c = 44 ∨ c = 59 ∨ c = 60 ∨ c = 62 ∨ c = 92) : Calls Try.prog 25 #[.int .u8 c] w fun e w' => e = .returned (.bool true) ∧ w = w' := by
  rcases h with rfl | rfl | rfl | rfl | rfl | rfl | rfl
  all_goals
    go_enter Try.func25, Try.ntmps25
    go_wp2
    go_ret
    exact ⟨rfl, rfl⟩

set_option maxHeartbeats 800000 in
theorem special_no (c : Int) (w : World) (n1 : c ≠ 34) (n2 : c ≠ 43) (n3 : c ≠ 44) (n4 : c ≠ 59) (n5 : c ≠ 60) (n6 : c ≠ 62) (n7 : c ≠ 92) : Calls Try.prog 25 #[.int .u8 c] w fun e w' => e = .returned (.bool false) ∧ w = w' := by
  have m1 : (c == 34) = false := beq_eq_false_iff_ne.2 n1
  have m2 : (c == 43) = false := beq_eq_false_iff_ne.2 n2
  have m3 : (c == 44) = false := beq_eq_false_iff_ne.2 n3
  have m4 : (c == 59) = false := beq_eq_false_iff_ne.2 n4
  have m5 : (c == 60) = false := beq_eq_false_iff_ne.2 n5
  have m6 : (c == 62) = false := beq_eq_false_iff_ne.2 n6
  have m7 : (c == 92) = false := beq_eq_false_iff_ne.2 n7
  clear n1 n2 n3 n4 n5 n6 n7
  go_enter Try.func25, Try.ntmps25
  go_wp2
  go_ret
  exact ⟨rfl, rfl⟩

set_option maxHeartbeats 800000 in
theorem hex_zero (w : World) : Calls Try.prog 26 #[.int .u8 48] w fun e w' => e = .returned (.tuple #[.int .u8 0, .bool true]) ∧ w = w' := by
  go_enter Try.func26, Try.ntmps26
  go_wp2
  go_ret2
  exact ⟨rfl, rfl⟩

/-- 'out = append(out, c)', out a row of bytes of the call's own. -/
theorem wpList_app (w : World) {ops : Array Oper} {rest : List Oper} {o : Oper} {a : Act} {Q : Exit → Act → World → Prop} (hgd : o.guard = none) (s x : Operand)
    (ho : o.op = .call { callee := .builtin .append, args := #[s, x], argTypes := #[24, 24] }) (B : Nat) (v : Value) (n : Nat) (xs : List Value) (hs : a.eval s = v) (hown : w.ownsRow B 5 1 v n xs)
    (ad : Addr) (c : Int) (hx : a.eval x = .slice (some ad) 1 1) (hc : w.cell? (ad.add 0) = some (.int .u8 c)) (hn : n ≤ 1048576) (hB : B ≤ w.heap.size)
    (h : ∀ v' w', w'.ownsRow B 5 1 v' (n + 1) (xs ++ [.int .u8 c]) → Below B w w' → wpList Try.prog ops Q rest (a.put o.dst v') w') : wpList Try.prog ops Q (o :: rest) a w := by
  obtain ⟨i0, hi, hz0, hz1, hz2⟩ := info_parts Bld.infoByte
  refine wpList_append_own w hgd s x 24 ho B 5 i0 (.int .u8 0) 1 1 Try.underlying24 hi hz0 hz1 hz2 rfl (by decide) v n xs hs hown ad 1 1 [.int .u8 c] hx rfl ?_ ?_ (by unfold maxLen; omega) (by omega) hB ?_
  · intro j u hj
    match j, hj with
    | 0, hj => simp at hj; subst hj; exact hc
  · intro u hu; simp at hu; subst hu; rfl
  · intro v' w' h1 h2 _
    exact h v' w' h1 ((Below.refl B w).grown h2 hB (fun k hk => (hown.lt k hk).1))

theorem len_list (l : List UInt8) : (⟨l.toArray⟩ : ByteArray).size = l.length := by rw [ByteArray.size]; simp
theorem back (s : ByteArray) : (⟨s.data.toList.toArray⟩ : ByteArray) = s := by simp

theorem take_cells (l : List UInt8) (j : Nat) (hj : j < l.length) (x : UInt8) (hx : x = l[j]?.getD 0) : Lib.byteCells (l.take (j + 1)) = Lib.byteCells (l.take j) ++ [.int .u8 x.toNat] := by
  rw [List.take_succ_eq_append_getElem hj, byteCells_snoc]
  have : x = l[j] := by rw [hx]; simp [hj]
  rw [this]

/-- string(out), out a row of the bytes l. -/
theorem conv (w : World) (B : Nat) (v : Value) (l : List UInt8) (h : w.ownsRow B 5 1 v l.length (Lib.byteCells l)) : (convert 24 9 v).run Try.prog w = .ok (.string ⟨l.toArray⟩) w := by
  rcases h.2 with ⟨rfl, h0⟩ | ⟨g, cap, cur, rfl, _, hg, _, _, _, htk⟩
  · obtain rfl : l = [] := List.eq_nil_of_length_eq_zero h0
    exact Lib.run_convert_nil_bytes w 24 9 5 0 Try.underlying24 Try.underlying5 Try.underlying9
  · refine run_convert_bytes_back w 24 9 5 ⟨g, 0, none⟩ cap l Try.underlying24 Try.underlying5 Try.underlying9 ?_
    exact Lib.bytes_of_row hg (by simpa using htk)

set_option maxRecDepth 100000 in
set_option maxHeartbeats 4000000 in
theorem unescape_any (s S : ByteArray) (w : World) (hs : s.size ≤ 524288) (hS : S = ⟨(encTo s.data.toList s.size).toArray⟩) :
    Calls Try.prog 10 #[.string S] w fun e w' => e = .returned (.tuple #[.string s, .bool true]) ∧ Below w.heap.size w w' := by
  obtain ⟨l, hl⟩ : ∃ l, l = s.data.toList := ⟨_, rfl⟩
  have hlen : l.length = s.size := by rw [hl]; exact len_eq s
  have hback : (⟨l.toArray⟩ : ByteArray) = s := by subst hl; exact back s
  rw [← hl, ← hlen] at hS
  rw [← hlen] at hs
  have hSz : S.size = (encTo l l.length).length := by rw [hS]; exact len_list _
  have hel := encTo_len l l.length
  have hS3 : S.size ≤ 1572864 := by omega
  have hget : ∀ p c (h : p < S.size), (encTo l l.length)[p]? = some c → ((S[p]).toNat : Int) = (c.toNat : Int) := fun p c h hc => by
    rw [byteAt_eq S p h]; subst hS; exact byteAt_list _ p c hc
  rw [← hback]
  have Hget := hide hget
  have HSz := hide hSz
  clear hget hS hl hlen hback hel hSz
  obtain ⟨i0, hi, hz0, hz1, hz2⟩ := info_parts Bld.infoByte
  go_enter Try.func10, Try.ntmps10
  go_wp2_with (at_make; refine wpList_make_own _ rfl _ _ 24 rfl w.heap.size 5 i0 (.int .u8 0) 1 Try.underlying24 hi hz0 hz1 _ _ _ S.size rfl rfl rfl (by rw [hz2]; omega) (by unfold maxLen; omega) (Nat.le_refl _) ?_; intro w1 hown1 hgr1)
  have hb1 : Below w.heap.size w w1 := (Below.refl _ _).grown hgr1 (Nat.le_refl _) (by simp)
  clear hi hz0 hz1 hz2 hgr1
  go_loopw [5, 6] (fun o i wr => ∃ j : Nat, j ≤ l.length ∧ i = .int .i64 ((encTo l j).length : Nat) ∧ wr.ownsRow w.heap.size 5 1 o j (Lib.byteCells (l.take j)) ∧ Below w.heap.size w wr) (fun _ i _ => S.size - (intOf i).toNat)
  case atStart => exact ⟨0, Nat.zero_le _, rfl, hown1, hb1⟩
  case round =>
    obtain ⟨j, hj, rfl, hown, hbel⟩ := hrel
    clear hown1 hb1
    by_cases hlt : j < l.length
    · obtain ⟨rest, hE, hrest⟩ := enc_piece l j hlt
      obtain ⟨x, hx⟩ : ∃ x, x = l[j]?.getD 0 := ⟨_, rfl⟩
      rw [← hx] at hE
      have htk := take_cells l j hlt x hx
      have hpl := encTo_len l j
      have hsucc : (encTo l (j + 1)).length = (encTo l j).length + (encAt l.length j x).length := by rw [encTo_succ, ← hx, List.length_append]
      have htot : S.size = (encTo l j).length + (encAt l.length j x).length + rest.length := by rw [unhide HSz, hE]; simp; omega
      have hpc : ∀ q c (h : (encTo l j).length + q < S.size), (encAt l.length j x)[q]? = some c → ((S[(encTo l j).length + q]).toNat : Int) = (c.toNat : Int) := fun q c h hc => by
        refine unhide Hget _ c h ?_
        rw [hE, at_piece _ _ _ q ((List.getElem?_eq_some_iff.1 hc).1)]
        exact hc
      have hBr : w.heap.size ≤ wr.heap.size := hbel.size
      clear hx hE Hget HSz
      generalize encTo l j = P0 at *
      have Htk := hide htk
      have Hsucc := hide hsucc
      have Htot := hide htot
      have Hpc := hide hpc
      have Hrest := hide hrest
      clear htk hsucc htot hpc hrest
      have hxb : (x.toNat : Int) ≤ 255 := by have := x.toNat_lt; omega
      rcases special_dec x with hsp | hsp
      · have HA := encAt_special l.length j x hsp
        have hv : (x.toNat : Int) = 34 ∨ (x.toNat : Int) = 43 ∨ (x.toNat : Int) = 44 ∨ (x.toNat : Int) = 59 ∨ (x.toNat : Int) = 60 ∨ (x.toNat : Int) = 62 ∨ (x.toNat : Int) = 92 := by
          rcases hsp with e | e | e | e | e | e | e <;> subst e <;> simp
        have HV := hide hv
        clear hsp hv
        have L2 : S.size = P0.length + 2 + rest.length := by have := unhide Htot; rw [HA] at this; simpa using this
        have LS : (encTo l (j + 1)).length = P0.length + 2 := by have := unhide Hsucc; rw [HA] at this; simpa using this
        have hS1 : P0.length < S.size := by omega
        have hS2 : P0.length + 1 < S.size := by omega
        have hS2' : P0.length + 2 ≤ S.size := by omega
        have e0 : ((S[P0.length]'hS1).toNat : Int) = 92 := (unhide Hpc) 0 92 hS1 (by rw [HA]; rfl)
        have e1 : ((S[P0.length + 1]'hS2).toNat : Int) = (x.toNat : Int) := (unhide Hpc) 1 x hS2 (by rw [HA]; rfl)
        have LS' := hide LS
        clear HA LS L2 Htot Hsucc Hpc Hrest
        go_wp2_with (first | (go_at_call 25; refine (special_yes _ _ (unhide HV)).mono ?_; rintro e w' ⟨rfl, rfl⟩) | (at_builtin; refine wpList_app _ rfl (.tmp 47) (.tmp 49) rfl w.heap.size _ j _ rfl (hown.alloc _) ⟨wr.heap.size, 0, none⟩ (x.toNat : Int) rfl (by simp [Addr.add]) (by omega) (by simp; omega) ?_; intro v' w2 hown' hb2))
        have R1 : w2.ownsRow w.heap.size 5 1 v' (j + 1) (Lib.byteCells (l.take (j + 1))) := by rw [unhide Htk]; exact hown'
        have R2 : Below w.heap.size w w2 := (hbel.alloc hBr _).trans hb2
        clear hown hown' hb2 Htk hbel
        go_wp2
        go_roundw
        case rel => exact ⟨j + 1, by omega, by rw [unhide LS']; go_num, R1, R2⟩
        case measure => simp [intOf]; omega
      by_cases h32 : x = 32
      · subst h32
        by_cases hed : j = 0 ∨ j + 1 = l.length
        · have HA := encAt_space_edge l.length j hed
          clear hed hsp
          have L2 : S.size = P0.length + 2 + rest.length := by have := unhide Htot; rw [HA] at this; simpa using this
          have LS : (encTo l (j + 1)).length = P0.length + 2 := by have := unhide Hsucc; rw [HA] at this; simpa using this
          have hS1 : P0.length < S.size := by omega
          have hS2 : P0.length + 1 < S.size := by omega
          have hS2' : P0.length + 2 ≤ S.size := by omega
          have e0 : ((S[P0.length]'hS1).toNat : Int) = 92 := (unhide Hpc) 0 92 hS1 (by rw [HA]; rfl)
          have e1 : ((S[P0.length + 1]'hS2).toNat : Int) = (32 : Int) := (unhide Hpc) 1 32 hS2 (by rw [HA]; rfl)
          have LS' := hide LS
          clear HA LS L2 Htot Hsucc Hpc Hrest
          go_wp2_with (first | (go_at_call 25; refine (special_no _ _ (by omega) (by omega) (by omega) (by omega) (by omega) (by omega) (by omega)).mono ?_; rintro e w' ⟨rfl, rfl⟩) | (at_builtin; refine wpList_app _ rfl (.tmp 47) (.tmp 49) rfl w.heap.size _ j _ rfl (hown.alloc _) ⟨wr.heap.size, 0, none⟩ (32 : Int) rfl (by simp [Addr.add]) (by omega) (by simp; omega) ?_; intro v' w2 hown' hb2))
          have R1 : w2.ownsRow w.heap.size 5 1 v' (j + 1) (Lib.byteCells (l.take (j + 1))) := by rw [unhide Htk]; exact hown'
          have R2 : Below w.heap.size w w2 := (hbel.alloc hBr _).trans hb2
          clear hown hown' hb2 Htk hbel
          go_wp2
          go_roundw
          case rel => exact ⟨j + 1, by omega, by rw [unhide LS']; go_num, R1, R2⟩
          case measure => simp [intOf]; omega
        · have HA := encAt_space_mid l.length j hed
          have hr0 : 0 < rest.length := (unhide Hrest) (by omega)
          have hj0 : j ≠ 0 := fun e => hed (.inl e)
          clear hsp hed
          have L1 : S.size = P0.length + 1 + rest.length := by have := unhide Htot; rw [HA] at this; simpa using this
          have LS : (encTo l (j + 1)).length = P0.length + 1 := by have := unhide Hsucc; rw [HA] at this; simpa using this
          have hS1 : P0.length < S.size := by omega
          have hS1' : P0.length + 1 ≤ S.size := by omega
          have e0 : ((S[P0.length]'hS1).toNat : Int) = (32 : Int) := (unhide Hpc) 0 32 hS1 (by rw [HA]; rfl)
          have LS' := hide LS
          have z1 : ((P0.length : Int) == 0) = false := beq_eq_false_iff_ne.2 (by omega)
          have z2 : ((P0.length : Int) == (S.size : Int) - 1) = false := beq_eq_false_iff_ne.2 (by omega)
          clear HA LS L1 Htot Hsucc Hpc Hrest
          go_wp2_with (first | (go_at_call 25; refine (special_no _ _ (by omega) (by omega) (by omega) (by omega) (by omega) (by omega) (by omega)).mono ?_; rintro e w' ⟨rfl, rfl⟩) | (at_builtin; refine wpList_app _ rfl (.tmp 109) (.tmp 111) rfl w.heap.size _ j _ rfl (hown.alloc _) ⟨wr.heap.size, 0, none⟩ (32 : Int) rfl (by simp [Addr.add]) (by omega) (by simp; omega) ?_; intro v' w2 hown' hb2))
          have R1 : w2.ownsRow w.heap.size 5 1 v' (j + 1) (Lib.byteCells (l.take (j + 1))) := by rw [unhide Htk]; exact hown'
          have R2 : Below w.heap.size w w2 := (hbel.alloc hBr _).trans hb2
          clear hown hown' hb2 Htk hbel
          go_wp2
          go_roundw
          case rel => exact ⟨j + 1, by omega, by rw [unhide LS']; go_num, R1, R2⟩
          case measure => simp [intOf]; omega
      by_cases h35 : x = 35
      · subst h35
        by_cases hj0 : j = 0
        · have HA := encAt_hash_first l.length j hj0
          clear hsp h32
          have L2 : S.size = P0.length + 2 + rest.length := by have := unhide Htot; rw [HA] at this; simpa using this
          have LS : (encTo l (j + 1)).length = P0.length + 2 := by have := unhide Hsucc; rw [HA] at this; simpa using this
          have hS1 : P0.length < S.size := by omega
          have hS2 : P0.length + 1 < S.size := by omega
          have hS2' : P0.length + 2 ≤ S.size := by omega
          have e0 : ((S[P0.length]'hS1).toNat : Int) = 92 := (unhide Hpc) 0 92 hS1 (by rw [HA]; rfl)
          have e1 : ((S[P0.length + 1]'hS2).toNat : Int) = (35 : Int) := (unhide Hpc) 1 35 hS2 (by rw [HA]; rfl)
          have LS' := hide LS
          clear HA LS L2 Htot Hsucc Hpc Hrest
          go_wp2_with (first | (go_at_call 25; refine (special_no _ _ (by omega) (by omega) (by omega) (by omega) (by omega) (by omega) (by omega)).mono ?_; rintro e w' ⟨rfl, rfl⟩) | (at_builtin; refine wpList_app _ rfl (.tmp 47) (.tmp 49) rfl w.heap.size _ j _ rfl (hown.alloc _) ⟨wr.heap.size, 0, none⟩ (35 : Int) rfl (by simp [Addr.add]) (by omega) (by simp; omega) ?_; intro v' w2 hown' hb2))
          have R1 : w2.ownsRow w.heap.size 5 1 v' (j + 1) (Lib.byteCells (l.take (j + 1))) := by rw [unhide Htk]; exact hown'
          have R2 : Below w.heap.size w w2 := (hbel.alloc hBr _).trans hb2
          clear hown hown' hb2 Htk hbel
          go_wp2
          go_roundw
          case rel => exact ⟨j + 1, by omega, by rw [unhide LS']; go_num, R1, R2⟩
          case measure => simp [intOf]; omega
        · have HA := encAt_hash_later l.length j hj0
          clear hsp h32
          have L1 : S.size = P0.length + 1 + rest.length := by have := unhide Htot; rw [HA] at this; simpa using this
          have LS : (encTo l (j + 1)).length = P0.length + 1 := by have := unhide Hsucc; rw [HA] at this; simpa using this
          have hS1 : P0.length < S.size := by omega
          have hS1' : P0.length + 1 ≤ S.size := by omega
          have e0 : ((S[P0.length]'hS1).toNat : Int) = (35 : Int) := (unhide Hpc) 0 35 hS1 (by rw [HA]; rfl)
          have LS' := hide LS
          have z1 : ((P0.length : Int) == 0) = false := beq_eq_false_iff_ne.2 (by omega)
          clear HA LS L1 Htot Hsucc Hpc Hrest
          go_wp2_with (first | (go_at_call 25; refine (special_no _ _ (by omega) (by omega) (by omega) (by omega) (by omega) (by omega) (by omega)).mono ?_; rintro e w' ⟨rfl, rfl⟩) | (at_builtin; refine wpList_app _ rfl (.tmp 109) (.tmp 111) rfl w.heap.size _ j _ rfl (hown.alloc _) ⟨wr.heap.size, 0, none⟩ (35 : Int) rfl (by simp [Addr.add]) (by omega) (by simp; omega) ?_; intro v' w2 hown' hb2))
          have R1 : w2.ownsRow w.heap.size 5 1 v' (j + 1) (Lib.byteCells (l.take (j + 1))) := by rw [unhide Htk]; exact hown'
          have R2 : Below w.heap.size w w2 := (hbel.alloc hBr _).trans hb2
          clear hown hown' hb2 Htk hbel
          go_wp2
          go_roundw
          case rel => exact ⟨j + 1, by omega, by rw [unhide LS']; go_num, R1, R2⟩
          case measure => simp [intOf]; omega
      by_cases h0 : x = 0
      · subst h0
        have HA := encAt_zero l.length j
        have L2 : S.size = P0.length + 3 + rest.length := by have := unhide Htot; rw [HA] at this; simpa using this
        have LS : (encTo l (j + 1)).length = P0.length + 3 := by have := unhide Hsucc; rw [HA] at this; simpa using this
        have hS1 : P0.length < S.size := by omega
        have hS2 : P0.length + 1 < S.size := by omega
        have hS3' : P0.length + 2 < S.size := by omega
        have hS4 : P0.length + 3 ≤ S.size := by omega
        have e0 : ((S[P0.length]'hS1).toNat : Int) = 92 := (unhide Hpc) 0 92 hS1 (by rw [HA]; rfl)
        have e1 : ((S[P0.length + 1]'hS2).toNat : Int) = 48 := (unhide Hpc) 1 48 hS2 (by rw [HA]; rfl)
        have e2 : ((S[P0.length + 2]'hS3').toNat : Int) = 48 := (unhide Hpc) 2 48 hS3' (by rw [HA]; rfl)
        have LS' := hide LS
        clear HA LS L2 Htot Hsucc Hpc Hrest hsp h32 h35
        have hor : bits .or .u8 0 0 = 0 := by decide
        go_wp2_with (first | (go_at_call 25; refine (special_no _ _ (by omega) (by omega) (by omega) (by omega) (by omega) (by omega) (by omega)).mono ?_; rintro e w' ⟨rfl, rfl⟩) | (go_at_call 26; refine (hex_zero _).mono ?_; rintro e w' ⟨rfl, rfl⟩) | (at_builtin; refine wpList_app _ rfl (.tmp 76) (.tmp 81) rfl w.heap.size _ j _ rfl (hown.alloc _) ⟨wr.heap.size, 0, none⟩ 0 rfl (by simp [Addr.add]) (by omega) (by simp; omega) ?_; intro v' w2 hown' hb2))
        have R1 : w2.ownsRow w.heap.size 5 1 v' (j + 1) (Lib.byteCells (l.take (j + 1))) := by rw [unhide Htk]; exact hown'
        have R2 : Below w.heap.size w w2 := (hbel.alloc hBr _).trans hb2
        clear hown hown' hb2 Htk hbel
        go_wp2
        go_roundw
        case rel => exact ⟨j + 1, by omega, by rw [unhide LS']; go_num, R1, R2⟩
        case measure => simp [intOf]; omega
      · have HA := encAt_plain l.length j x hsp h32 h35 h0
        have n1 : (x.toNat : Int) ≠ 34 := u8_ne (y := 34) (fun e => hsp (.inl e))
        have n2 : (x.toNat : Int) ≠ 43 := u8_ne (y := 43) (fun e => hsp (.inr (.inl e)))
        have n3 : (x.toNat : Int) ≠ 44 := u8_ne (y := 44) (fun e => hsp (.inr (.inr (.inl e))))
        have n4 : (x.toNat : Int) ≠ 59 := u8_ne (y := 59) (fun e => hsp (.inr (.inr (.inr (.inl e)))))
        have n5 : (x.toNat : Int) ≠ 60 := u8_ne (y := 60) (fun e => hsp (.inr (.inr (.inr (.inr (.inl e))))))
        have n6 : (x.toNat : Int) ≠ 62 := u8_ne (y := 62) (fun e => hsp (.inr (.inr (.inr (.inr (.inr (.inl e)))))))
        have n7 : (x.toNat : Int) ≠ 92 := u8_ne (y := 92) (fun e => hsp (.inr (.inr (.inr (.inr (.inr (.inr e)))))))
        have m7 : ((x.toNat : Int) == 92) = false := beq_eq_false_iff_ne.2 n7
        have m8 : ((x.toNat : Int) == 32) = false := beq_eq_false_iff_ne.2 (u8_ne (y := 32) h32)
        have m9 : ((x.toNat : Int) == 35) = false := beq_eq_false_iff_ne.2 (u8_ne (y := 35) h35)
        have m10 : ((x.toNat : Int) == 0) = false := beq_eq_false_iff_ne.2 (u8_ne (y := 0) h0)
        clear hsp h32 h35 h0
        have L1 : S.size = P0.length + 1 + rest.length := by have := unhide Htot; rw [HA] at this; simpa using this
        have LS : (encTo l (j + 1)).length = P0.length + 1 := by have := unhide Hsucc; rw [HA] at this; simpa using this
        have hS1 : P0.length < S.size := by omega
        have hS1' : P0.length + 1 ≤ S.size := by omega
        have e0 : ((S[P0.length]'hS1).toNat : Int) = (x.toNat : Int) := (unhide Hpc) 0 x hS1 (by rw [HA]; rfl)
        have LS' := hide LS
        clear HA LS L1 Htot Hsucc Hpc Hrest
        go_wp2_with (first | (go_at_call 25; refine (special_no _ _ (by omega) (by omega) (by omega) (by omega) (by omega) (by omega) (by omega)).mono ?_; rintro e w' ⟨rfl, rfl⟩) | (at_builtin; refine wpList_app _ rfl (.tmp 109) (.tmp 111) rfl w.heap.size _ j _ rfl (hown.alloc _) ⟨wr.heap.size, 0, none⟩ (x.toNat : Int) rfl (by simp [Addr.add]) (by omega) (by simp; omega) ?_; intro v' w2 hown' hb2))
        have R1 : w2.ownsRow w.heap.size 5 1 v' (j + 1) (Lib.byteCells (l.take (j + 1))) := by rw [unhide Htk]; exact hown'
        have R2 : Below w.heap.size w w2 := (hbel.alloc hBr _).trans hb2
        clear hown hown' hb2 Htk hbel
        go_wp2
        go_roundw
        case rel => exact ⟨j + 1, by omega, by rw [unhide LS']; go_num, R1, R2⟩
        case measure => simp [intOf]; omega
    · obtain rfl : j = l.length := by omega
      have hpE := unhide HSz
      have hcv := conv wr w.heap.size _ l (by rw [List.take_length] at hown; exact hown)
      rw [← hpE]
      clear hpE HSz Hget hown
      go_wp2
      go_ret2
      exact ⟨rfl, hbel⟩
end Go.Proofs.Qxb6602719a.Unesc
