/-
  writeValue: what it writes into a builder.
-/
import Derived.Test.Qxb6602719aEsc
import Derived.Test.Qxb6602719aBld
namespace Go.Proofs.Qxb6602719a.Write
open Go.RowKit Go.Proofs.Qxb6602719a.Fold Go.Proofs.Qxb6602719a.Esc

theorem u8_ne {x y : UInt8} (h : x ≠ y) : (x.toNat : Int) ≠ (y.toNat : Int) := by
  intro e
  apply h
  apply UInt8.toNat_inj.1
  omega

theorem get_byte (s : ByteArray) (k : Nat) (h : k < s.size) : ((s[k]).toNat : Int) = (((s.data.toList[k]?.getD 0) : UInt8).toNat : Int) := by
  have e : s.data.toList[k]?.getD 0 = s[k] := by
    have : k < s.data.toList.length := by rw [Array.length_toList]; exact h
    rw [List.getElem?_eq_getElem this]; rfl
  rw [e]

theorem len_eq (s : ByteArray) : s.data.toList.length = s.size := by rw [Array.length_toList]; rfl

theorem step2 {B b : Nat} {l : List UInt8} {k : Nat} {w : World} (x y : UInt8) (hx : encAt l.length k (l[k]?.getD 0) = [x, y])
    (h : Lib.BuilderAt 26 5 B b (.pointer (some ⟨b, 0, none⟩)) (Lib.byteCells (encTo l k) ++ [.int .u8 x.toNat] ++ [.int .u8 y.toNat]) w) : Lib.IsBuilder 26 5 B b (Lib.byteCells (encTo l (k + 1))) w := by
  rw [encTo_succ, hx]
  have e : encTo l k ++ [x, y] = (encTo l k ++ [x]) ++ [y] := by simp
  rw [e, byteCells_snoc, byteCells_snoc]
  exact .inr h
theorem step1 {B b : Nat} {l : List UInt8} {k : Nat} {w : World} (x : UInt8) (hx : encAt l.length k (l[k]?.getD 0) = [x])
    (h : Lib.BuilderAt 26 5 B b (.pointer (some ⟨b, 0, none⟩)) (Lib.byteCells (encTo l k) ++ [.int .u8 x.toNat]) w) : Lib.IsBuilder 26 5 B b (Lib.byteCells (encTo l (k + 1))) w := by
  rw [encTo_succ, hx, byteCells_snoc]
  exact .inr h
theorem step3 {B b : Nat} {l : List UInt8} {k : Nat} {w : World} (hx : encAt l.length k (l[k]?.getD 0) = [92, 48, 48])
    (h : Lib.BuilderAt 26 5 B b (.pointer (some ⟨b, 0, none⟩)) (Lib.byteCells (encTo l k) ++ Lib.strCells ⟨#[92, 48, 48]⟩) w) : Lib.IsBuilder 26 5 B b (Lib.byteCells (encTo l (k + 1))) w := by
  rw [encTo_succ, hx, Lib.byteCells_append]
  exact .inr h

set_option maxRecDepth 100000 in
set_option maxHeartbeats 4000000 in
theorem write_any (B b : Nat) (s : ByteArray) (w : World) (hI : Lib.IsBuilder 26 5 B b [] w) (hBw : B ≤ w.heap.size) (hs : s.size ≤ 1048576) :
    Calls Try.prog 24 #[.pointer (some ⟨b, 0, none⟩), .string s] w fun e w' => e = .returned (.tuple #[]) ∧ Lib.IsBuilder 26 5 B b (Lib.byteCells (encTo s.data.toList s.size)) w' ∧ Below B w w' := by
  obtain ⟨l, hl⟩ : ∃ l, l = s.data.toList := ⟨_, rfl⟩
  have hlen : l.length = s.size := by rw [hl]; exact len_eq s
  have hget : ∀ k (h : k < s.size), ((s[k]).toNat : Int) = (((l[k]?.getD 0) : UInt8).toNat : Int) := fun k h => by rw [hl]; exact get_byte s k h
  rw [← hl]
  have Hg := hide hget
  have Hlen := hide hlen
  clear hget hl hlen
  go_enter Try.func24, Try.ntmps24
  go_wp2
  go_loopw [8] (fun i wr => ∃ k : Nat, k ≤ s.size ∧ i = .int .i64 k ∧ Lib.IsBuilder 26 5 B b (Lib.byteCells (encTo l k)) wr ∧ Below B w wr) (fun i _ => s.size - (intOf i).toNat)
  case atStart => exact ⟨0, Nat.zero_le _, rfl, hI, Below.refl _ _⟩
  case round =>
    obtain ⟨k, hk, rfl, hJ, hbel⟩ := hrel
    clear hI
    by_cases hlt : k < s.size
    · obtain ⟨x, hx⟩ : ∃ x, x = l[k]?.getD 0 := ⟨_, rfl⟩
      have e1 := unhide Hg k hlt
      rw [← hx] at e1
      have hBr : B ≤ wr.heap.size := Nat.le_trans hBw hbel.size
      have hl1 := (encTo_len l k).2
      have hbl : (Lib.byteCells (encTo l k)).length + 3 ≤ 140737488355328 := by rw [Lib.byteCells_length]; omega
      have S2 := hide (fun w' y z q => step2 (B := B) (b := b) (l := l) (k := k) (w := w') y z q)
      have S1 := hide (fun w' y q => step1 (B := B) (b := b) (l := l) (k := k) (w := w') y q)
      have S3 := hide (fun w' q => step3 (B := B) (b := b) (l := l) (k := k) (w := w') q)
      have HJ := hide hJ
      generalize encTo l k = E at *
      clear hJ
      have HX := hide hx
      clear hx hl1
      rcases special_dec x with hsp | hsp
      · have HA : Hid (encAt l.length k (l[k]?.getD 0) = [92, x]) := by rw [← unhide HX]; exact hide (encAt_special l.length k x hsp)
        rcases hsp with rfl | rfl | rfl | rfl | rfl | rfl | rfl
        · have e1' : ((s[k]).toNat : Int) = 34 := e1
          clear e1
          go_wp2_with fail
          refine (Bld.writeByte_any B b _ 92 wr (unhide HJ) (by omega) hBr).mono ?_
          rintro e w1 ⟨rfl, h1, b1⟩
          go_wp2_with fail
          refine (Bld.writeByte_any B b _ 34 w1 (.inr h1) (by simp; omega) (Nat.le_trans hBr b1.size)).mono ?_
          rintro e w2 ⟨rfl, h2, b2⟩
          have R := hide (unhide S2 w2 92 34 (unhide HA) h2)
          have hb2 := (hbel.trans b1).trans b2
          clear h1 b1 h2 b2
          go_wp2
          go_roundw
          case rel => exact ⟨k + 1, by omega, by go_num, unhide R, hb2⟩
          case measure => simp [intOf]; omega
        · have e1' : ((s[k]).toNat : Int) = 43 := e1
          clear e1
          go_wp2_with fail
          refine (Bld.writeByte_any B b _ 92 wr (unhide HJ) (by omega) hBr).mono ?_
          rintro e w1 ⟨rfl, h1, b1⟩
          go_wp2_with fail
          refine (Bld.writeByte_any B b _ 43 w1 (.inr h1) (by simp; omega) (Nat.le_trans hBr b1.size)).mono ?_
          rintro e w2 ⟨rfl, h2, b2⟩
          have R := hide (unhide S2 w2 92 43 (unhide HA) h2)
          have hb2 := (hbel.trans b1).trans b2
          clear h1 b1 h2 b2
          go_wp2
          go_roundw
          case rel => exact ⟨k + 1, by omega, by go_num, unhide R, hb2⟩
          case measure => simp [intOf]; omega
        · have e1' : ((s[k]).toNat : Int) = 44 := e1
          clear e1
          go_wp2_with fail
          refine (Bld.writeByte_any B b _ 92 wr (unhide HJ) (by omega) hBr).mono ?_
          rintro e w1 ⟨rfl, h1, b1⟩
          go_wp2_with fail
          refine (Bld.writeByte_any B b _ 44 w1 (.inr h1) (by simp; omega) (Nat.le_trans hBr b1.size)).mono ?_
          rintro e w2 ⟨rfl, h2, b2⟩
          have R := hide (unhide S2 w2 92 44 (unhide HA) h2)
          have hb2 := (hbel.trans b1).trans b2
          clear h1 b1 h2 b2
          go_wp2
          go_roundw
          case rel => exact ⟨k + 1, by omega, by go_num, unhide R, hb2⟩
          case measure => simp [intOf]; omega
        · have e1' : ((s[k]).toNat : Int) = 59 := e1
          clear e1
          go_wp2_with fail
          refine (Bld.writeByte_any B b _ 92 wr (unhide HJ) (by omega) hBr).mono ?_
          rintro e w1 ⟨rfl, h1, b1⟩
          go_wp2_with fail
          refine (Bld.writeByte_any B b _ 59 w1 (.inr h1) (by simp; omega) (Nat.le_trans hBr b1.size)).mono ?_
          rintro e w2 ⟨rfl, h2, b2⟩
          have R := hide (unhide S2 w2 92 59 (unhide HA) h2)
          have hb2 := (hbel.trans b1).trans b2
          clear h1 b1 h2 b2
          go_wp2
          go_roundw
          case rel => exact ⟨k + 1, by omega, by go_num, unhide R, hb2⟩
          case measure => simp [intOf]; omega
        · have e1' : ((s[k]).toNat : Int) = 60 := e1
          clear e1
          go_wp2_with fail
          refine (Bld.writeByte_any B b _ 92 wr (unhide HJ) (by omega) hBr).mono ?_
          rintro e w1 ⟨rfl, h1, b1⟩
          go_wp2_with fail
          refine (Bld.writeByte_any B b _ 60 w1 (.inr h1) (by simp; omega) (Nat.le_trans hBr b1.size)).mono ?_
          rintro e w2 ⟨rfl, h2, b2⟩
          have R := hide (unhide S2 w2 92 60 (unhide HA) h2)
          have hb2 := (hbel.trans b1).trans b2
          clear h1 b1 h2 b2
          go_wp2
          go_roundw
          case rel => exact ⟨k + 1, by omega, by go_num, unhide R, hb2⟩
          case measure => simp [intOf]; omega
        · have e1' : ((s[k]).toNat : Int) = 62 := e1
          clear e1
          go_wp2_with fail
          refine (Bld.writeByte_any B b _ 92 wr (unhide HJ) (by omega) hBr).mono ?_
          rintro e w1 ⟨rfl, h1, b1⟩
          go_wp2_with fail
          refine (Bld.writeByte_any B b _ 62 w1 (.inr h1) (by simp; omega) (Nat.le_trans hBr b1.size)).mono ?_
          rintro e w2 ⟨rfl, h2, b2⟩
          have R := hide (unhide S2 w2 92 62 (unhide HA) h2)
          have hb2 := (hbel.trans b1).trans b2
          clear h1 b1 h2 b2
          go_wp2
          go_roundw
          case rel => exact ⟨k + 1, by omega, by go_num, unhide R, hb2⟩
          case measure => simp [intOf]; omega
        · have e1' : ((s[k]).toNat : Int) = 92 := e1
          clear e1
          go_wp2_with fail
          refine (Bld.writeByte_any B b _ 92 wr (unhide HJ) (by omega) hBr).mono ?_
          rintro e w1 ⟨rfl, h1, b1⟩
          go_wp2_with fail
          refine (Bld.writeByte_any B b _ 92 w1 (.inr h1) (by simp; omega) (Nat.le_trans hBr b1.size)).mono ?_
          rintro e w2 ⟨rfl, h2, b2⟩
          have R := hide (unhide S2 w2 92 92 (unhide HA) h2)
          have hb2 := (hbel.trans b1).trans b2
          clear h1 b1 h2 b2
          go_wp2
          go_roundw
          case rel => exact ⟨k + 1, by omega, by go_num, unhide R, hb2⟩
          case measure => simp [intOf]; omega
      by_cases h32 : x = 32
      · subst h32
        have e1' : ((s[k]).toNat : Int) = 32 := e1
        clear e1
        by_cases hed : k = 0 ∨ k + 1 = s.size
        · have HA : Hid (encAt l.length k (l[k]?.getD 0) = [92, 32]) := by rw [← unhide HX]; exact hide (encAt_space_edge l.length k (by rw [unhide Hlen]; exact hed))
          by_cases hk0 : k = 0
          · subst hk0
            go_wp2_with fail
            refine (Bld.writeByte_any B b _ 92 wr (unhide HJ) (by omega) hBr).mono ?_
            rintro e w1 ⟨rfl, h1, b1⟩
            go_wp2_with fail
            refine (Bld.writeByte_any B b _ 32 w1 (.inr h1) (by simp; omega) (Nat.le_trans hBr b1.size)).mono ?_
            rintro e w2 ⟨rfl, h2, b2⟩
            have R := hide (unhide S2 w2 92 32 (unhide HA) h2)
            have hb2 := (hbel.trans b1).trans b2
            clear h1 b1 h2 b2
            go_wp2
            go_roundw
            case rel => exact ⟨0 + 1, by omega, by go_num, unhide R, hb2⟩
            case measure => simp [intOf]; omega
          · have hk1 : ((k : Int) == (s.size : Int) - 1) = true := beq_iff_eq.2 (by omega)
            have hk0' : ((k : Int) == 0) = false := beq_eq_false_iff_ne.2 (by omega)
            clear hed hk0
            go_wp2_with fail
            refine (Bld.writeByte_any B b _ 92 wr (unhide HJ) (by omega) hBr).mono ?_
            rintro e w1 ⟨rfl, h1, b1⟩
            go_wp2_with fail
            refine (Bld.writeByte_any B b _ 32 w1 (.inr h1) (by simp; omega) (Nat.le_trans hBr b1.size)).mono ?_
            rintro e w2 ⟨rfl, h2, b2⟩
            have R := hide (unhide S2 w2 92 32 (unhide HA) h2)
            have hb2 := (hbel.trans b1).trans b2
            clear h1 b1 h2 b2
            go_wp2
            go_roundw
            case rel => exact ⟨k + 1, by omega, by go_num, unhide R, hb2⟩
            case measure => simp [intOf]; omega
        · have HA : Hid (encAt l.length k (l[k]?.getD 0) = [32]) := by rw [← unhide HX]; exact hide (encAt_space_mid l.length k (by rw [unhide Hlen]; exact hed))
          have hk1 : ((k : Int) == (s.size : Int) - 1) = false := beq_eq_false_iff_ne.2 (by omega)
          have hk0' : ((k : Int) == 0) = false := beq_eq_false_iff_ne.2 (by omega)
          clear hed
          go_wp2_with fail
          refine (Bld.writeByte_any B b _ 32 wr (unhide HJ) (by omega) hBr).mono ?_
          rintro e w1 ⟨rfl, h1, b1⟩
          have R := hide (unhide S1 w1 32 (unhide HA) h1)
          have hb2 := hbel.trans b1
          clear h1 b1
          go_wp2
          go_roundw
          case rel => exact ⟨k + 1, by omega, by go_num, unhide R, hb2⟩
          case measure => simp [intOf]; omega
      by_cases h35 : x = 35
      · subst h35
        have e1' : ((s[k]).toNat : Int) = 35 := e1
        clear e1
        by_cases hk0 : k = 0
        · have HA : Hid (encAt l.length k (l[k]?.getD 0) = [92, 35]) := by rw [← unhide HX]; exact hide (encAt_hash_first l.length k hk0)
          subst hk0
          go_wp2_with fail
          refine (Bld.writeByte_any B b _ 92 wr (unhide HJ) (by omega) hBr).mono ?_
          rintro e w1 ⟨rfl, h1, b1⟩
          go_wp2_with fail
          refine (Bld.writeByte_any B b _ 35 w1 (.inr h1) (by simp; omega) (Nat.le_trans hBr b1.size)).mono ?_
          rintro e w2 ⟨rfl, h2, b2⟩
          have R := hide (unhide S2 w2 92 35 (unhide HA) h2)
          have hb2 := (hbel.trans b1).trans b2
          clear h1 b1 h2 b2
          go_wp2
          go_roundw
          case rel => exact ⟨0 + 1, by omega, by go_num, unhide R, hb2⟩
          case measure => simp [intOf]; omega
        · have HA : Hid (encAt l.length k (l[k]?.getD 0) = [35]) := by rw [← unhide HX]; exact hide (encAt_hash_later l.length k hk0)
          have hk0' : ((k : Int) == 0) = false := beq_eq_false_iff_ne.2 (by omega)
          go_wp2_with fail
          refine (Bld.writeByte_any B b _ 35 wr (unhide HJ) (by omega) hBr).mono ?_
          rintro e w1 ⟨rfl, h1, b1⟩
          have R := hide (unhide S1 w1 35 (unhide HA) h1)
          have hb2 := hbel.trans b1
          clear h1 b1
          go_wp2
          go_roundw
          case rel => exact ⟨k + 1, by omega, by go_num, unhide R, hb2⟩
          case measure => simp [intOf]; omega
      by_cases h0 : x = 0
      · subst h0
        have e1' : ((s[k]).toNat : Int) = 0 := e1
        clear e1
        have HA : Hid (encAt l.length k (l[k]?.getD 0) = [92, 48, 48]) := by rw [← unhide HX]; exact hide (encAt_zero l.length k)
        go_wp2_with fail
        refine (Bld.writeString_any B b _ ⟨#[92, 48, 48]⟩ wr (unhide HJ) (by show _ + 3 ≤ _; omega) hBr).mono ?_
        rintro e w1 ⟨rfl, h1, b1⟩
        have R := hide (unhide S3 w1 (unhide HA) h1)
        have hb2 := hbel.trans b1
        clear h1 b1
        go_wp2
        go_roundw
        case rel => exact ⟨k + 1, by omega, by go_num, unhide R, hb2⟩
        case measure => simp [intOf]; omega
      · have HA : Hid (encAt l.length k (l[k]?.getD 0) = [x]) := by rw [← unhide HX]; exact hide (encAt_plain l.length k x hsp h32 h35 h0)
        have n1 : (x.toNat : Int) ≠ 34 := u8_ne (y := 34) (fun e => hsp (.inl e))
        have n2 : (x.toNat : Int) ≠ 43 := u8_ne (y := 43) (fun e => hsp (.inr (.inl e)))
        have n3 : (x.toNat : Int) ≠ 44 := u8_ne (y := 44) (fun e => hsp (.inr (.inr (.inl e))))
        have n4 : (x.toNat : Int) ≠ 59 := u8_ne (y := 59) (fun e => hsp (.inr (.inr (.inr (.inl e)))))
        have n5 : (x.toNat : Int) ≠ 60 := u8_ne (y := 60) (fun e => hsp (.inr (.inr (.inr (.inr (.inl e))))))
        have n6 : (x.toNat : Int) ≠ 62 := u8_ne (y := 62) (fun e => hsp (.inr (.inr (.inr (.inr (.inr (.inl e)))))))
        have n7 : (x.toNat : Int) ≠ 92 := u8_ne (y := 92) (fun e => hsp (.inr (.inr (.inr (.inr (.inr (.inr e)))))))
        have n8 : (x.toNat : Int) ≠ 32 := u8_ne (y := 32) h32
        have n9 : (x.toNat : Int) ≠ 35 := u8_ne (y := 35) h35
        have n10 : (x.toNat : Int) ≠ 0 := u8_ne (y := 0) h0
        have hc := hide (show (x.toNat : Int) = x.toNat from rfl)
        clear hsp h32 h35 h0
        go_wp2_with fail
        refine (Bld.writeByte_any B b _ (x.toNat : Int) wr (unhide HJ) (by omega) hBr).mono ?_
        rintro e w1 ⟨rfl, h1, b1⟩
        have R := hide (unhide S1 w1 x (unhide HA) h1)
        have hb2 := hbel.trans b1
        clear h1 b1
        go_wp2
        go_roundw
        case rel => exact ⟨k + 1, by omega, by go_num, unhide R, hb2⟩
        case measure => simp [intOf]; omega
    · obtain rfl : k = s.size := by omega
      go_wp2
      go_end0
      exact ⟨rfl, hJ, hbel⟩
end Go.Proofs.Qxb6602719a.Write
