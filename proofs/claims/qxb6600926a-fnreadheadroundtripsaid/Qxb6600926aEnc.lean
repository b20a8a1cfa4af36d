/-
  zzWireEncodeHead: what it writes.
-/
import Derived.Test.Qxb6600926aClone
import Derived.Deep.DeepCutAuto
import Derived.Laws.BitsAllLaws
namespace Go.Proofs.Qxb6600926a.Enc
open Go.RowKit Go.Proofs.Qxb6600926a.Mem Go.Proofs.Qxb6600926a.Clone

/-- The form c can hold the argument X. -/
def fits (c : Nat) (X : Int) : Prop := (c = 0 → X < 24) ∧ (c = 1 → X ≤ 255) ∧ (c = 2 → X ≤ 65535) ∧ (c = 3 → X ≤ 4294967295)
theorem fits_mono {c d : Nat} {X : Int} (h : fits c X) (hcd : c ≤ d) (hd : d ≤ 4) : fits d X := by
  obtain ⟨h0, h1, h2, h3⟩ := h
  rcases (show c = 0 ∨ c = 1 ∨ c = 2 ∨ c = 3 ∨ c = 4 from by omega) with e | e | e | e | e
  · have := h0 e; exact ⟨by omega, by omega, by omega, by omega⟩
  · have := h1 e; exact ⟨by omega, by omega, by omega, by omega⟩
  · have := h2 e; exact ⟨by omega, by omega, by omega, by omega⟩
  · have := h3 e; exact ⟨by omega, by omega, by omega, by omega⟩
  · exact ⟨by omega, by omega, by omega, by omega⟩

/-- The k lower bytes of X, the highest first. -/
def be (X : Int) : Nat → List Int
  | 0 => []
  | k + 1 => (X / 256 ^ k % 256) :: be X k
theorem be_len (X : Int) : ∀ k, (be X k).length = k
  | 0 => rfl
  | k + 1 => by simp [be, be_len X k]

/-- The buffer while the argument's bytes are laid: q bytes are still nought, k are laid. -/
def stage (F X : Int) (q k N : Nat) : List Int := F :: (List.replicate q 0 ++ (be X k ++ List.replicate N 0))
theorem stage_len (F X : Int) (q k N : Nat) : (stage F X q k N).length = q + k + 1 + N := by
  simp [stage, be_len]; omega
theorem stage_set (F X : Int) (q k N : Nat) : (stage F X (q + 1) k N).set (q + 1) (X / 256 ^ k % 256) = stage F X q (k + 1) N := by
  unfold stage
  rw [List.set_cons_succ, List.replicate_succ', List.append_assoc, List.set_append_right _ _ (by simp)]
  simp [be]
theorem stage_start (F X : Int) (q N n : Nat) (h : n = q + 1 + N) : (List.replicate n (0 : Int)).set 0 F = stage F X q 0 N := by
  subst h
  rw [show q + 1 + N = (q + N) + 1 from by omega, List.replicate_succ, List.set_cons_zero]
  simp [stage, be, List.replicate_append_replicate]

/-- The buffer while the tail is laid. -/
def fill (F X : Int) (s N : Nat) (T : List Int) (j : Nat) : List Int := F :: (be X s ++ (T.take j ++ List.replicate (N - j) 0))
theorem fill_length (F X : Int) (s N : Nat) (T : List Int) (j : Nat) (hT : T.length = N) (hj : j ≤ N) : (fill F X s N T j).length = s + 1 + N := by
  simp [fill, be_len]; omega
theorem fill_first (F X : Int) (s N : Nat) (T : List Int) : stage F X 0 s N = fill F X s N T 0 := by simp [stage, fill]
theorem fill_last (F X : Int) (s N : Nat) (T : List Int) (hT : T.length = N) : fill F X s N T N = F :: (be X s ++ T) := by
  unfold fill; rw [take_all hT]; simp
theorem fill_next (F X : Int) (s N : Nat) (T : List Int) (j : Nat) (v : Int) (hT : T.length = N) (hj : j < N) (hv : v = T[j]?.getD 0) : (fill F X s N T j).set (s + 1 + j) v = fill F X s N T (j + 1) := by
  unfold fill
  rw [show s + 1 + j = (s + j) + 1 from by omega, List.set_cons_succ, List.set_append_right _ _ (by rw [be_len]; omega), be_len, Nat.add_sub_cancel_left, fill_set T N j v hv hj (by omega)]

theorem div_step (X x : Int) (k : Nat) (h : x = X / 256 ^ k) : x / 256 = X / 256 ^ (k + 1) := by
  rw [h, Int.pow_succ, Int.ediv_ediv_of_nonneg (by exact Int.pow_nonneg (by omega))]

/-! ### The first byte -/
theorem or_head (M y : Int) (h0 : 0 ≤ M) (h7 : M ≤ 7) (hy : 0 ≤ y) (hy2 : y < 32) : bits .or .u8 (M * 32) y = M * 32 + y := by
  obtain ⟨m, rfl⟩ := Int.eq_ofNat_of_zero_le h0
  obtain ⟨z, rfl⟩ := Int.eq_ofNat_of_zero_le hy
  have e := u8_or ((m : Int) * 32) (z : Int) (by omega) (by omega) (by omega) (by omega)
  rw [e]
  have e2 : ((m : Int) * 32).toNat = 2 ^ 5 * m := by omega
  rw [e2, Int.toNat_natCast, ← Nat.two_pow_add_eq_or_of_lt (show z < 2 ^ 5 by omega) m]
  omega
theorem and_head (M y : Int) (h0 : 0 ≤ M) (h7 : M ≤ 7) (hy : 0 ≤ y) (hy2 : y < 32) : bits .and .u8 (M * 32 + y) 31 = y := by
  obtain ⟨m, rfl⟩ := Int.eq_ofNat_of_zero_le h0
  obtain ⟨z, rfl⟩ := Int.eq_ofNat_of_zero_le hy
  have e := u8_and ((m : Int) * 32 + z) 31 (by omega) (by omega) (by omega) (by omega)
  rw [e]
  have e2 : ((m : Int) * 32 + z).toNat = 32 * m + z := by omega
  have e3 : (31 : Int).toNat = 2 ^ 5 - 1 := by decide
  rw [e2, e3, Nat.and_two_pow_sub_one_eq_mod]
  omega

/-- How many bytes follow the first one, in form c. -/
def sz (c : Nat) : Nat := if c = 0 then 0 else if c = 1 then 1 else if c = 2 then 2 else if c = 3 then 4 else 8
/-- What the first byte's low five bits hold. -/
def low5 (c : Nat) (X : Int) : Int := if c = 0 then X else 23 + c
/-- What zzWireEncodeHead hands back. -/
def EncP (w : World) (M X : Int) (N : Nat) (T : List Int) (e : Ending) (w' : World) : Prop :=
  ∃ c, c ≤ 4 ∧ fits c X ∧ e = .returned (.slice (some ⟨w.heap.size, 0, none⟩) (sz c + 1 + N) (sz c + 1 + N)) ∧ Row w' w.heap.size 5 .u8 ((M * 32 + low5 c X) :: (be X (sz c) ++ T)) ∧ Below w.heap.size w w'

set_option maxRecDepth 100000 in
set_option maxHeartbeats 4000000 in
theorem enc_any (M X W : Int) (a : Option Addr) (N : Nat) (T : List Int) (w : World) (hM : 0 ≤ M) (hM7 : M ≤ 7) (hX : 0 ≤ X) (hX2 : X ≤ 18446744073709551615) (hW : 0 ≤ W) (hW2 : W ≤ 255) (ha : Sl w a 5 T) (hT : T.length = N) (hN : N ≤ 1048576) :
    Calls Try.prog 7 #[.int .u8 M, .int .u64 X, .int .u8 W, .slice a N N] w fun e w' => EncP w M X N T e w' := by
  have hw5 : 0 ≤ W % 5 ∧ W % 5 < 5 := ⟨Int.emod_nonneg _ (by omega), Int.emod_lt_of_pos _ (by omega)⟩
  go_enter Try.func7, Try.ntmps7
  go_upto_if 20 with (fail)
  go_cut [10] (fun s wc => ∃ n : Nat, n ≤ 4 ∧ s = .int .i64 n ∧ Hid (X ≤ 255 → fits n X) ∧ w = wc)
  case first =>
    by_cases h : 24 ≤ X
    · go_wp2
      go_meet
      case rel => exact ⟨1, by omega, rfl, hide (fun h => ⟨by omega, by omega, by omega, by omega⟩), rfl⟩
    · go_wp2
      go_meet
      case rel => exact ⟨0, by omega, rfl, hide (fun h => ⟨by omega, by omega, by omega, by omega⟩), rfl⟩
  case rest =>
    obtain ⟨n, hn, rfl, HF, rfl⟩ := hcut
    go_upto_if 22 with (fail)
    go_cut [10] (fun s wc => ∃ n : Nat, n ≤ 4 ∧ s = .int .i64 n ∧ Hid (X ≤ 65535 → fits n X) ∧ w = wc)
    case first =>
      by_cases h : 255 < X
      · go_wp2
        go_meet
        case rel => exact ⟨2, by omega, rfl, hide (fun h => ⟨by omega, by omega, by omega, by omega⟩), rfl⟩
      · have HF2 : Hid (X ≤ 65535 → fits n X) := hide (fun _ => unhide HF (by omega))
        go_wp2
        go_meet
        case rel => exact ⟨n, hn, rfl, HF2, rfl⟩
    case rest =>
      clear HF
      obtain ⟨n, hn, rfl, HF, rfl⟩ := hcut
      go_upto_if 24 with (fail)
      go_cut [10] (fun s wc => ∃ n : Nat, n ≤ 4 ∧ s = .int .i64 n ∧ Hid (X ≤ 4294967295 → fits n X) ∧ w = wc)
      case first =>
        by_cases h : 65535 < X
        · go_wp2
          go_meet
          case rel => exact ⟨3, by omega, rfl, hide (fun h => ⟨by omega, by omega, by omega, by omega⟩), rfl⟩
        · have HF2 : Hid (X ≤ 4294967295 → fits n X) := hide (fun _ => unhide HF (by omega))
          go_wp2
          go_meet
          case rel => exact ⟨n, hn, rfl, HF2, rfl⟩
      case rest =>
        clear HF
        obtain ⟨n, hn, rfl, HF, rfl⟩ := hcut
        go_upto_if 26 with (fail)
        go_cut [10] (fun s wc => ∃ n : Nat, n ≤ 4 ∧ s = .int .i64 n ∧ Hid (fits n X) ∧ w = wc)
        case first =>
          by_cases h : 4294967295 < X
          · go_wp2
            go_meet
            case rel => exact ⟨4, by omega, rfl, hide (⟨by omega, by omega, by omega, by omega⟩), rfl⟩
          · have HF2 : Hid (fits n X) := hide (unhide HF (by omega))
            go_wp2
            go_meet
            case rel => exact ⟨n, hn, rfl, HF2, rfl⟩
        case rest =>
          clear HF
          obtain ⟨n, hn, rfl, HF, rfl⟩ := hcut
          go_upto_if 29 with (fail)
          go_cut [9] (fun s wc => ∃ c : Nat, c ≤ 4 ∧ s = .int .i64 c ∧ Hid (fits c X) ∧ w = wc)
          case first =>
            by_cases h : W % 5 < (n : Int)
            · go_wp2
              go_meet
              case rel => exact ⟨n, hn, rfl, HF, rfl⟩
            · obtain ⟨v, hv⟩ := Int.eq_ofNat_of_zero_le hw5.1
              have HF2 := hide (fits_mono (unhide HF) (show n ≤ v by omega) (by omega))
              have HV := hide hv
              have hv4 : v ≤ 4 := by omega
              clear hv
              go_wp2
              go_meet
              case rel => exact ⟨v, hv4, by rw [unhide HV], HF2, rfl⟩
          case rest =>
            clear HF hn
            obtain ⟨c, hc, rfl, HF, rfl⟩ := hcut
            rcases (show c = 0 ∨ c = 1 ∨ c = 2 ∨ c = 3 ∨ c = 4 from by omega) with rfl | rfl | rfl | rfl | rfl
            · have hX24 : X < 24 := (unhide HF).1 rfl
              have hor := or_head M X hM hM7 (by omega) (by omega)
              have HPost := hide (fun (w' : World) (h1 : Row w' w.heap.size 5 .u8 ((M * 32 + X) :: (be X 0 ++ T))) (h2 : Below w.heap.size w w') => (⟨0, by omega, unhide HF, rfl, h1, h2⟩ : EncP w M X N T (.returned (.slice (some ⟨w.heap.size, 0, none⟩) (0 + 1 + N) (0 + 1 + N))) w'))
              clear hc HF
              obtain ⟨F, hF⟩ : ∃ F, M * 32 + X = F := ⟨_, rfl⟩
              rw [hF] at hor HPost
              clear hF
              go_wp2_with (at_make; refine wpList_make_row _ rfl _ _ 23 rfl 5 .u8 1 Try.underlying23 info5 _ _ _ _ (0 + 1 + N) rfl rfl (by omega) (by omega) (by omega) (by unfold maxLen; omega) ?_; intro w1 hr1 hb1 hz1; have hc0 := hr1.cell (j := 0) (by simp; omega); have hf0 := hr1.free 0)
              have hr2 := (hr1.set 0 F).cast (stage_start F X 0 N _ rfl)
              have hb2 : Below w.heap.size w (w1.setCell ⟨w.heap.size, 0, none⟩ (.int .u8 F)) := hb1.setCell (p := ⟨w.heap.size, 0, none⟩) (Nat.le_refl _) _
              clear hr1 hb1 hz1 hc0 hf0 hor
              go_loopw [13, 14] (fun xs i wr => ∃ q k : Nat, ∃ x : Int, q ≤ 0 ∧ Hid (q + k = 0) ∧ i = .int .i64 q ∧ xs = .int .u64 x ∧ 0 ≤ x ∧ x ≤ 18446744073709551615 ∧ Hid (x = X / 256 ^ k) ∧ Row wr w.heap.size 5 .u8 (stage F X q k N) ∧ Below w.heap.size w wr) (fun _ i _ => (intOf i).toNat)
              case atStart => exact ⟨0, 0, X, by omega, hide rfl, rfl, rfl, hX, hX2, hide (by simp), hr2, hb2⟩
              case round =>
                obtain ⟨q, k, x, hq, Hqk, rfl, rfl, hx0, hx1, HX, hrow, hbel⟩ := hrel
                clear hr2 hb2
                rcases q with _ | q
                · have hk : k = 0 := by have := unhide Hqk; omega
                  subst hk
                  have hr3 := hrow.cast (fill_first F X 0 N T)
                  clear hrow Hqk HX
                  go_wp2
                  go_loopw [15] (fun i wr => ∃ j : Nat, j ≤ N ∧ i = .int .i64 j ∧ Row wr w.heap.size 5 .u8 (fill F X 0 N T j) ∧ Below w.heap.size w wr) (fun i _ => N - (intOf i).toNat)
                  case atStart => exact ⟨0, Nat.zero_le _, rfl, hr3, hbel⟩
                  case round =>
                    clear hr3 hbel
                    obtain ⟨j, hj, rfl, hrow, hbel⟩ := hrel
                    by_cases hjN : j < N
                    · obtain ⟨g, rfl, hg⟩ := ha.some (by omega)
                      have hcx := (hg.keep hbel).cell (j := j) (by omega)
                      obtain ⟨v, hv⟩ : ∃ v, v = T[j]?.getD 0 := ⟨_, rfl⟩
                      rw [← hv] at hcx
                      have hln := fill_length F X 0 N T j hT hj
                      obtain ⟨u, hcy⟩ : ∃ u, wr.cell? ⟨w.heap.size, 1 + j, none⟩ = some u := ⟨_, hrow.cell (j := 1 + j) (by omega)⟩
                      have hfy := hrow.free (1 + j)
                      have R1 : Row (wr.setCell ⟨w.heap.size, 1 + j, none⟩ (.int .u8 v)) w.heap.size 5 .u8 (fill F X 0 N T (j + 1)) := (hrow.set (1 + j) v).cast (fill_next F X 0 N T j v hT hjN hv)
                      have R2 := hbel.setCell (p := ⟨w.heap.size, 1 + j, none⟩) (Nat.le_refl _) (.int .u8 v)
                      clear hrow hbel hg hv hln
                      go_wp2
                      go_roundw
                      case rel => exact ⟨j + 1, by omega, by go_num, R1, R2⟩
                      case measure => simp [intOf]; omega
                    · obtain rfl : N = j := by omega
                      have hr4 := hrow.cast (fill_last F X 0 N T hT)
                      clear hrow
                      go_wp2
                      go_ret
                      exact unhide HPost _ hr4 hbel
                · exact absurd hq (by omega)
            · have hor := or_head M 24 hM hM7 (by omega) (by omega)
              have HPost := hide (fun (w' : World) (h1 : Row w' w.heap.size 5 .u8 ((M * 32 + 24) :: (be X 1 ++ T))) (h2 : Below w.heap.size w w') => (⟨1, by omega, unhide HF, rfl, h1, h2⟩ : EncP w M X N T (.returned (.slice (some ⟨w.heap.size, 0, none⟩) (1 + 1 + N) (1 + 1 + N))) w'))
              clear hc HF
              obtain ⟨F, hF⟩ : ∃ F, M * 32 + 24 = F := ⟨_, rfl⟩
              rw [hF] at hor HPost
              clear hF
              go_wp2_with (at_make; refine wpList_make_row _ rfl _ _ 23 rfl 5 .u8 1 Try.underlying23 info5 _ _ _ _ (1 + 1 + N) rfl rfl (by omega) (by omega) (by omega) (by unfold maxLen; omega) ?_; intro w1 hr1 hb1 hz1; have hc0 := hr1.cell (j := 0) (by simp; omega); have hf0 := hr1.free 0)
              have hr2 := (hr1.set 0 F).cast (stage_start F X 1 N _ rfl)
              have hb2 : Below w.heap.size w (w1.setCell ⟨w.heap.size, 0, none⟩ (.int .u8 F)) := hb1.setCell (p := ⟨w.heap.size, 0, none⟩) (Nat.le_refl _) _
              clear hr1 hb1 hz1 hc0 hf0 hor
              go_loopw [13, 14] (fun xs i wr => ∃ q k : Nat, ∃ x : Int, q ≤ 1 ∧ Hid (q + k = 1) ∧ i = .int .i64 q ∧ xs = .int .u64 x ∧ 0 ≤ x ∧ x ≤ 18446744073709551615 ∧ Hid (x = X / 256 ^ k) ∧ Row wr w.heap.size 5 .u8 (stage F X q k N) ∧ Below w.heap.size w wr) (fun _ i _ => (intOf i).toNat)
              case atStart => exact ⟨1, 0, X, by omega, hide rfl, rfl, rfl, hX, hX2, hide (by simp), hr2, hb2⟩
              case round =>
                obtain ⟨q, k, x, hq, Hqk, rfl, rfl, hx0, hx1, HX, hrow, hbel⟩ := hrel
                clear hr2 hb2
                rcases q with _ | q
                · have hk : k = 1 := by have := unhide Hqk; omega
                  subst hk
                  have hr3 := hrow.cast (fill_first F X 1 N T)
                  clear hrow Hqk HX
                  go_wp2
                  go_loopw [15] (fun i wr => ∃ j : Nat, j ≤ N ∧ i = .int .i64 j ∧ Row wr w.heap.size 5 .u8 (fill F X 1 N T j) ∧ Below w.heap.size w wr) (fun i _ => N - (intOf i).toNat)
                  case atStart => exact ⟨0, Nat.zero_le _, rfl, hr3, hbel⟩
                  case round =>
                    clear hr3 hbel
                    obtain ⟨j, hj, rfl, hrow, hbel⟩ := hrel
                    by_cases hjN : j < N
                    · obtain ⟨g, rfl, hg⟩ := ha.some (by omega)
                      have hcx := (hg.keep hbel).cell (j := j) (by omega)
                      obtain ⟨v, hv⟩ : ∃ v, v = T[j]?.getD 0 := ⟨_, rfl⟩
                      rw [← hv] at hcx
                      have hln := fill_length F X 1 N T j hT hj
                      obtain ⟨u, hcy⟩ : ∃ u, wr.cell? ⟨w.heap.size, 2 + j, none⟩ = some u := ⟨_, hrow.cell (j := 2 + j) (by omega)⟩
                      have hfy := hrow.free (2 + j)
                      have R1 : Row (wr.setCell ⟨w.heap.size, 2 + j, none⟩ (.int .u8 v)) w.heap.size 5 .u8 (fill F X 1 N T (j + 1)) := (hrow.set (2 + j) v).cast (fill_next F X 1 N T j v hT hjN hv)
                      have R2 := hbel.setCell (p := ⟨w.heap.size, 2 + j, none⟩) (Nat.le_refl _) (.int .u8 v)
                      clear hrow hbel hg hv hln
                      go_wp2
                      go_roundw
                      case rel => exact ⟨j + 1, by omega, by go_num, R1, R2⟩
                      case measure => simp [intOf]; omega
                    · obtain rfl : N = j := by omega
                      have hr4 := hrow.cast (fill_last F X 1 N T hT)
                      clear hrow
                      go_wp2
                      go_ret
                      exact unhide HPost _ hr4 hbel
                · have hln := stage_len F X (q + 1) k N
                  have hqk := unhide Hqk
                  obtain ⟨u, hcy⟩ : ∃ u, wr.cell? ⟨w.heap.size, q + 1, none⟩ = some u := ⟨_, hrow.cell (j := q + 1) (by omega)⟩
                  have hfy := hrow.free (q + 1)
                  have hwr := IntKind.wrap_u8 x
                  have R1 := (hrow.set (q + 1) (x % 256)).cast (ys := stage F X q (k + 1) N) (by rw [unhide HX]; exact stage_set F X q k N)
                  have R2 := hbel.setCell (p := ⟨w.heap.size, q + 1, none⟩) (Nat.le_refl _) (.int .u8 (x % 256))
                  have HX2 := hide (div_step X x k (unhide HX))
                  have Hqk2 : Hid (q + (k + 1) = 1) := hide (by omega)
                  clear hrow hbel hln hqk Hqk HX
                  go_wp2
                  go_roundw
                  case rel => exact ⟨q, k + 1, x / 256, by omega, Hqk2, by go_num, by go_num, by omega, by omega, HX2, R1, R2⟩
                  case measure => simp [intOf]
            · have hor := or_head M 25 hM hM7 (by omega) (by omega)
              have HPost := hide (fun (w' : World) (h1 : Row w' w.heap.size 5 .u8 ((M * 32 + 25) :: (be X 2 ++ T))) (h2 : Below w.heap.size w w') => (⟨2, by omega, unhide HF, rfl, h1, h2⟩ : EncP w M X N T (.returned (.slice (some ⟨w.heap.size, 0, none⟩) (2 + 1 + N) (2 + 1 + N))) w'))
              clear hc HF
              obtain ⟨F, hF⟩ : ∃ F, M * 32 + 25 = F := ⟨_, rfl⟩
              rw [hF] at hor HPost
              clear hF
              go_wp2_with (at_make; refine wpList_make_row _ rfl _ _ 23 rfl 5 .u8 1 Try.underlying23 info5 _ _ _ _ (2 + 1 + N) rfl rfl (by omega) (by omega) (by omega) (by unfold maxLen; omega) ?_; intro w1 hr1 hb1 hz1; have hc0 := hr1.cell (j := 0) (by simp; omega); have hf0 := hr1.free 0)
              have hr2 := (hr1.set 0 F).cast (stage_start F X 2 N _ rfl)
              have hb2 : Below w.heap.size w (w1.setCell ⟨w.heap.size, 0, none⟩ (.int .u8 F)) := hb1.setCell (p := ⟨w.heap.size, 0, none⟩) (Nat.le_refl _) _
              clear hr1 hb1 hz1 hc0 hf0 hor
              go_loopw [13, 14] (fun xs i wr => ∃ q k : Nat, ∃ x : Int, q ≤ 2 ∧ Hid (q + k = 2) ∧ i = .int .i64 q ∧ xs = .int .u64 x ∧ 0 ≤ x ∧ x ≤ 18446744073709551615 ∧ Hid (x = X / 256 ^ k) ∧ Row wr w.heap.size 5 .u8 (stage F X q k N) ∧ Below w.heap.size w wr) (fun _ i _ => (intOf i).toNat)
              case atStart => exact ⟨2, 0, X, by omega, hide rfl, rfl, rfl, hX, hX2, hide (by simp), hr2, hb2⟩
              case round =>
                obtain ⟨q, k, x, hq, Hqk, rfl, rfl, hx0, hx1, HX, hrow, hbel⟩ := hrel
                clear hr2 hb2
                rcases q with _ | q
                · have hk : k = 2 := by have := unhide Hqk; omega
                  subst hk
                  have hr3 := hrow.cast (fill_first F X 2 N T)
                  clear hrow Hqk HX
                  go_wp2
                  go_loopw [15] (fun i wr => ∃ j : Nat, j ≤ N ∧ i = .int .i64 j ∧ Row wr w.heap.size 5 .u8 (fill F X 2 N T j) ∧ Below w.heap.size w wr) (fun i _ => N - (intOf i).toNat)
                  case atStart => exact ⟨0, Nat.zero_le _, rfl, hr3, hbel⟩
                  case round =>
                    clear hr3 hbel
                    obtain ⟨j, hj, rfl, hrow, hbel⟩ := hrel
                    by_cases hjN : j < N
                    · obtain ⟨g, rfl, hg⟩ := ha.some (by omega)
                      have hcx := (hg.keep hbel).cell (j := j) (by omega)
                      obtain ⟨v, hv⟩ : ∃ v, v = T[j]?.getD 0 := ⟨_, rfl⟩
                      rw [← hv] at hcx
                      have hln := fill_length F X 2 N T j hT hj
                      obtain ⟨u, hcy⟩ : ∃ u, wr.cell? ⟨w.heap.size, 3 + j, none⟩ = some u := ⟨_, hrow.cell (j := 3 + j) (by omega)⟩
                      have hfy := hrow.free (3 + j)
                      have R1 : Row (wr.setCell ⟨w.heap.size, 3 + j, none⟩ (.int .u8 v)) w.heap.size 5 .u8 (fill F X 2 N T (j + 1)) := (hrow.set (3 + j) v).cast (fill_next F X 2 N T j v hT hjN hv)
                      have R2 := hbel.setCell (p := ⟨w.heap.size, 3 + j, none⟩) (Nat.le_refl _) (.int .u8 v)
                      clear hrow hbel hg hv hln
                      go_wp2
                      go_roundw
                      case rel => exact ⟨j + 1, by omega, by go_num, R1, R2⟩
                      case measure => simp [intOf]; omega
                    · obtain rfl : N = j := by omega
                      have hr4 := hrow.cast (fill_last F X 2 N T hT)
                      clear hrow
                      go_wp2
                      go_ret
                      exact unhide HPost _ hr4 hbel
                · have hln := stage_len F X (q + 1) k N
                  have hqk := unhide Hqk
                  obtain ⟨u, hcy⟩ : ∃ u, wr.cell? ⟨w.heap.size, q + 1, none⟩ = some u := ⟨_, hrow.cell (j := q + 1) (by omega)⟩
                  have hfy := hrow.free (q + 1)
                  have hwr := IntKind.wrap_u8 x
                  have R1 := (hrow.set (q + 1) (x % 256)).cast (ys := stage F X q (k + 1) N) (by rw [unhide HX]; exact stage_set F X q k N)
                  have R2 := hbel.setCell (p := ⟨w.heap.size, q + 1, none⟩) (Nat.le_refl _) (.int .u8 (x % 256))
                  have HX2 := hide (div_step X x k (unhide HX))
                  have Hqk2 : Hid (q + (k + 1) = 2) := hide (by omega)
                  clear hrow hbel hln hqk Hqk HX
                  go_wp2
                  go_roundw
                  case rel => exact ⟨q, k + 1, x / 256, by omega, Hqk2, by go_num, by go_num, by omega, by omega, HX2, R1, R2⟩
                  case measure => simp [intOf]
            · have hor := or_head M 26 hM hM7 (by omega) (by omega)
              have HPost := hide (fun (w' : World) (h1 : Row w' w.heap.size 5 .u8 ((M * 32 + 26) :: (be X 4 ++ T))) (h2 : Below w.heap.size w w') => (⟨3, by omega, unhide HF, rfl, h1, h2⟩ : EncP w M X N T (.returned (.slice (some ⟨w.heap.size, 0, none⟩) (4 + 1 + N) (4 + 1 + N))) w'))
              clear hc HF
              obtain ⟨F, hF⟩ : ∃ F, M * 32 + 26 = F := ⟨_, rfl⟩
              rw [hF] at hor HPost
              clear hF
              go_wp2_with (at_make; refine wpList_make_row _ rfl _ _ 23 rfl 5 .u8 1 Try.underlying23 info5 _ _ _ _ (4 + 1 + N) rfl rfl (by omega) (by omega) (by omega) (by unfold maxLen; omega) ?_; intro w1 hr1 hb1 hz1; have hc0 := hr1.cell (j := 0) (by simp; omega); have hf0 := hr1.free 0)
              have hr2 := (hr1.set 0 F).cast (stage_start F X 4 N _ rfl)
              have hb2 : Below w.heap.size w (w1.setCell ⟨w.heap.size, 0, none⟩ (.int .u8 F)) := hb1.setCell (p := ⟨w.heap.size, 0, none⟩) (Nat.le_refl _) _
              clear hr1 hb1 hz1 hc0 hf0 hor
              go_loopw [13, 14] (fun xs i wr => ∃ q k : Nat, ∃ x : Int, q ≤ 4 ∧ Hid (q + k = 4) ∧ i = .int .i64 q ∧ xs = .int .u64 x ∧ 0 ≤ x ∧ x ≤ 18446744073709551615 ∧ Hid (x = X / 256 ^ k) ∧ Row wr w.heap.size 5 .u8 (stage F X q k N) ∧ Below w.heap.size w wr) (fun _ i _ => (intOf i).toNat)
              case atStart => exact ⟨4, 0, X, by omega, hide rfl, rfl, rfl, hX, hX2, hide (by simp), hr2, hb2⟩
              case round =>
                obtain ⟨q, k, x, hq, Hqk, rfl, rfl, hx0, hx1, HX, hrow, hbel⟩ := hrel
                clear hr2 hb2
                rcases q with _ | q
                · have hk : k = 4 := by have := unhide Hqk; omega
                  subst hk
                  have hr3 := hrow.cast (fill_first F X 4 N T)
                  clear hrow Hqk HX
                  go_wp2
                  go_loopw [15] (fun i wr => ∃ j : Nat, j ≤ N ∧ i = .int .i64 j ∧ Row wr w.heap.size 5 .u8 (fill F X 4 N T j) ∧ Below w.heap.size w wr) (fun i _ => N - (intOf i).toNat)
                  case atStart => exact ⟨0, Nat.zero_le _, rfl, hr3, hbel⟩
                  case round =>
                    clear hr3 hbel
                    obtain ⟨j, hj, rfl, hrow, hbel⟩ := hrel
                    by_cases hjN : j < N
                    · obtain ⟨g, rfl, hg⟩ := ha.some (by omega)
                      have hcx := (hg.keep hbel).cell (j := j) (by omega)
                      obtain ⟨v, hv⟩ : ∃ v, v = T[j]?.getD 0 := ⟨_, rfl⟩
                      rw [← hv] at hcx
                      have hln := fill_length F X 4 N T j hT hj
                      obtain ⟨u, hcy⟩ : ∃ u, wr.cell? ⟨w.heap.size, 5 + j, none⟩ = some u := ⟨_, hrow.cell (j := 5 + j) (by omega)⟩
                      have hfy := hrow.free (5 + j)
                      have R1 : Row (wr.setCell ⟨w.heap.size, 5 + j, none⟩ (.int .u8 v)) w.heap.size 5 .u8 (fill F X 4 N T (j + 1)) := (hrow.set (5 + j) v).cast (fill_next F X 4 N T j v hT hjN hv)
                      have R2 := hbel.setCell (p := ⟨w.heap.size, 5 + j, none⟩) (Nat.le_refl _) (.int .u8 v)
                      clear hrow hbel hg hv hln
                      go_wp2
                      go_roundw
                      case rel => exact ⟨j + 1, by omega, by go_num, R1, R2⟩
                      case measure => simp [intOf]; omega
                    · obtain rfl : N = j := by omega
                      have hr4 := hrow.cast (fill_last F X 4 N T hT)
                      clear hrow
                      go_wp2
                      go_ret
                      exact unhide HPost _ hr4 hbel
                · have hln := stage_len F X (q + 1) k N
                  have hqk := unhide Hqk
                  obtain ⟨u, hcy⟩ : ∃ u, wr.cell? ⟨w.heap.size, q + 1, none⟩ = some u := ⟨_, hrow.cell (j := q + 1) (by omega)⟩
                  have hfy := hrow.free (q + 1)
                  have hwr := IntKind.wrap_u8 x
                  have R1 := (hrow.set (q + 1) (x % 256)).cast (ys := stage F X q (k + 1) N) (by rw [unhide HX]; exact stage_set F X q k N)
                  have R2 := hbel.setCell (p := ⟨w.heap.size, q + 1, none⟩) (Nat.le_refl _) (.int .u8 (x % 256))
                  have HX2 := hide (div_step X x k (unhide HX))
                  have Hqk2 : Hid (q + (k + 1) = 4) := hide (by omega)
                  clear hrow hbel hln hqk Hqk HX
                  go_wp2
                  go_roundw
                  case rel => exact ⟨q, k + 1, x / 256, by omega, Hqk2, by go_num, by go_num, by omega, by omega, HX2, R1, R2⟩
                  case measure => simp [intOf]
            · have hor := or_head M 27 hM hM7 (by omega) (by omega)
              have HPost := hide (fun (w' : World) (h1 : Row w' w.heap.size 5 .u8 ((M * 32 + 27) :: (be X 8 ++ T))) (h2 : Below w.heap.size w w') => (⟨4, by omega, unhide HF, rfl, h1, h2⟩ : EncP w M X N T (.returned (.slice (some ⟨w.heap.size, 0, none⟩) (8 + 1 + N) (8 + 1 + N))) w'))
              clear hc HF
              obtain ⟨F, hF⟩ : ∃ F, M * 32 + 27 = F := ⟨_, rfl⟩
              rw [hF] at hor HPost
              clear hF
              go_wp2_with (at_make; refine wpList_make_row _ rfl _ _ 23 rfl 5 .u8 1 Try.underlying23 info5 _ _ _ _ (8 + 1 + N) rfl rfl (by omega) (by omega) (by omega) (by unfold maxLen; omega) ?_; intro w1 hr1 hb1 hz1; have hc0 := hr1.cell (j := 0) (by simp; omega); have hf0 := hr1.free 0)
              have hr2 := (hr1.set 0 F).cast (stage_start F X 8 N _ rfl)
              have hb2 : Below w.heap.size w (w1.setCell ⟨w.heap.size, 0, none⟩ (.int .u8 F)) := hb1.setCell (p := ⟨w.heap.size, 0, none⟩) (Nat.le_refl _) _
              clear hr1 hb1 hz1 hc0 hf0 hor
              go_loopw [13, 14] (fun xs i wr => ∃ q k : Nat, ∃ x : Int, q ≤ 8 ∧ Hid (q + k = 8) ∧ i = .int .i64 q ∧ xs = .int .u64 x ∧ 0 ≤ x ∧ x ≤ 18446744073709551615 ∧ Hid (x = X / 256 ^ k) ∧ Row wr w.heap.size 5 .u8 (stage F X q k N) ∧ Below w.heap.size w wr) (fun _ i _ => (intOf i).toNat)
              case atStart => exact ⟨8, 0, X, by omega, hide rfl, rfl, rfl, hX, hX2, hide (by simp), hr2, hb2⟩
              case round =>
                obtain ⟨q, k, x, hq, Hqk, rfl, rfl, hx0, hx1, HX, hrow, hbel⟩ := hrel
                clear hr2 hb2
                rcases q with _ | q
                · have hk : k = 8 := by have := unhide Hqk; omega
                  subst hk
                  have hr3 := hrow.cast (fill_first F X 8 N T)
                  clear hrow Hqk HX
                  go_wp2
                  go_loopw [15] (fun i wr => ∃ j : Nat, j ≤ N ∧ i = .int .i64 j ∧ Row wr w.heap.size 5 .u8 (fill F X 8 N T j) ∧ Below w.heap.size w wr) (fun i _ => N - (intOf i).toNat)
                  case atStart => exact ⟨0, Nat.zero_le _, rfl, hr3, hbel⟩
                  case round =>
                    clear hr3 hbel
                    obtain ⟨j, hj, rfl, hrow, hbel⟩ := hrel
                    by_cases hjN : j < N
                    · obtain ⟨g, rfl, hg⟩ := ha.some (by omega)
                      have hcx := (hg.keep hbel).cell (j := j) (by omega)
                      obtain ⟨v, hv⟩ : ∃ v, v = T[j]?.getD 0 := ⟨_, rfl⟩
                      rw [← hv] at hcx
                      have hln := fill_length F X 8 N T j hT hj
                      obtain ⟨u, hcy⟩ : ∃ u, wr.cell? ⟨w.heap.size, 9 + j, none⟩ = some u := ⟨_, hrow.cell (j := 9 + j) (by omega)⟩
                      have hfy := hrow.free (9 + j)
                      have R1 : Row (wr.setCell ⟨w.heap.size, 9 + j, none⟩ (.int .u8 v)) w.heap.size 5 .u8 (fill F X 8 N T (j + 1)) := (hrow.set (9 + j) v).cast (fill_next F X 8 N T j v hT hjN hv)
                      have R2 := hbel.setCell (p := ⟨w.heap.size, 9 + j, none⟩) (Nat.le_refl _) (.int .u8 v)
                      clear hrow hbel hg hv hln
                      go_wp2
                      go_roundw
                      case rel => exact ⟨j + 1, by omega, by go_num, R1, R2⟩
                      case measure => simp [intOf]; omega
                    · obtain rfl : N = j := by omega
                      have hr4 := hrow.cast (fill_last F X 8 N T hT)
                      clear hrow
                      go_wp2
                      go_ret
                      exact unhide HPost _ hr4 hbel
                · have hln := stage_len F X (q + 1) k N
                  have hqk := unhide Hqk
                  obtain ⟨u, hcy⟩ : ∃ u, wr.cell? ⟨w.heap.size, q + 1, none⟩ = some u := ⟨_, hrow.cell (j := q + 1) (by omega)⟩
                  have hfy := hrow.free (q + 1)
                  have hwr := IntKind.wrap_u8 x
                  have R1 := (hrow.set (q + 1) (x % 256)).cast (ys := stage F X q (k + 1) N) (by rw [unhide HX]; exact stage_set F X q k N)
                  have R2 := hbel.setCell (p := ⟨w.heap.size, q + 1, none⟩) (Nat.le_refl _) (.int .u8 (x % 256))
                  have HX2 := hide (div_step X x k (unhide HX))
                  have Hqk2 : Hid (q + (k + 1) = 8) := hide (by omega)
                  clear hrow hbel hln hqk Hqk HX
                  go_wp2
                  go_roundw
                  case rel => exact ⟨q, k + 1, x / 256, by omega, Hqk2, by go_num, by go_num, by omega, by omega, HX2, R1, R2⟩
                  case measure => simp [intOf]
end Go.Proofs.Qxb6600926a.Enc
