/-
  The walk of the law (function 3).
-/
import Derived.Test.Qxb6000063aModsCanon
namespace Go.Proofs.Qxb6000063aMods
open Go.RowKit

/-- zzBytes: a length within the bound. -/
theorem bytes_ok (a : Option Addr) (n c : Nat) (w : World) (h : n ≤ 1048576) :
    Calls Trym.prog 6 #[.slice a n c] w fun e w' => e = .returned (.bool true) ∧ w = w' := by
  go_enter Trym.func6, Trym.ntmps6
  go_wp2
  go_ret
  exact ⟨rfl, rfl⟩
theorem bytes_no (a : Option Addr) (n c : Nat) (w : World) (h : 1048576 < n) :
    Calls Trym.prog 6 #[.slice a n c] w fun e w' => e = .returned (.bool false) ∧ w = w' := by
  go_enter Trym.func6, Trym.ntmps6
  go_wp2
  go_ret
  exact ⟨rfl, rfl⟩

theorem zz_any (b n c : Nat) (x : Nat → Int) (w : World) (hn : 32 ≤ n) (hc : ∀ j, j < 32 → w.cell? ⟨b, j, none⟩ = some (.int .u8 (x j))) (hx : ∀ j, 0 ≤ x j ∧ x j ≤ 255) :
    Calls Trym.prog 7 #[.slice (some ⟨b, 0, none⟩) n c] w fun e w' => e = .returned (.bool (canonB x)) ∧ Below w.heap.size w w' := by
  go_enter Trym.func7, Trym.ntmps7
  go_wp2_with (go_at_call 11; refine (canon_any b n c x w hn hc hx).mono ?_; rintro e w' ⟨rfl, hb⟩)
  go_ret
  exact ⟨rfl, hb⟩

theorem law_long (a : Option Addr) (n c : Nat) (w : World) (h : 1048576 < n) :
    Calls Trym.prog 3 #[.slice a n c] w fun e w' => e = .returned (.bool true) ∧ Below w.heap.size w w' := by
  go_enter Trym.func3, Trym.ntmps3
  go_wp2_with (go_at_call 6; refine (bytes_no _ _ _ _ h).mono ?_; rintro e w' ⟨rfl, rfl⟩)
  go_ret
  exact ⟨rfl, Below.refl _ _⟩
theorem law_short (a : Option Addr) (n c : Nat) (w : World) (h : n < 32) :
    Calls Trym.prog 3 #[.slice a n c] w fun e w' => e = .returned (.bool true) ∧ Below w.heap.size w w' := by
  go_enter Trym.func3, Trym.ntmps3
  go_wp2_with (go_at_call 6; refine (bytes_ok _ _ _ _ (by omega)).mono ?_; rintro e w' ⟨rfl, rfl⟩)
  go_ret
  exact ⟨rfl, Below.refl _ _⟩

theorem i64_and255 (n : Int) : bits .and .i64 n 255 = n % 256 := by
  have h255 : (BitVec.ofInt 64 255).toNat = 2 ^ 8 - 1 := by decide
  have key : (BitVec.ofInt 64 n &&& BitVec.ofInt 64 255).toNat = (n % ((2 ^ 64 : Nat) : Int)).toNat % 2 ^ 8 := by
    rw [BitVec.toNat_and, BitVec.toNat_ofInt, h255, Nat.and_two_pow_sub_one_eq_mod]
  show IntKind.i64.wrap ((BitVec.ofInt 64 n &&& BitVec.ofInt 64 255).toNat : Nat) = n % 256
  rw [key, IntKind.wrap_i64]
  omega
theorem and128 (a : Int) (h : 0 ≤ a ∧ a ≤ 255) : bits .and .u8 a 128 = a / 128 * 128 := by
  rw [u8_and a 128 h.1 (by omega) (by omega) (by omega)]
  show ((a.toNat &&& 2 ^ 7 : Nat) : Int) = _
  rw [nat_bit]
  omega
theorem zeros32 : ∀ i, i < 32 → (Array.replicate 32 (Value.int .u8 0))[i]? = some (.int .u8 0) := fun i hi => by simp [hi]

theorem part_set (x : Nat → Int) (k j : Nat) : (if j = k then Value.int .u8 (x k) else Value.int .u8 (if j < k then x j else 0)) = Value.int .u8 (if j < k + 1 then x j else 0) := by
  by_cases e : j = k
  · subst e; simp
  · rw [if_neg e]
    by_cases e' : j < k
    · rw [if_pos e', if_pos (by omega)]
    · rw [if_neg e', if_neg (by omega)]

theorem tt_set (x : Nat → Int) (k j : Nat) (v : Value) (hv : v = .int .u8 (tt x k)) : (if j = k then v else Value.int .u8 (if j < k then tt x j else 0)) = Value.int .u8 (if j < k + 1 then tt x j else 0) := by
  rw [hv]; exact part_set (tt x) k j
theorem tt_lt (x : Nat → Int) (j : Nat) (h : j ≠ 31) : Value.int .u8 ((x j + car x j) % 256 % 256) = .int .u8 (tt x j) := by
  unfold tt; rw [low_lt h]; congr 1; omega
theorem tt_lt2 (x : Nat → Int) (j : Nat) (h : j ≠ 31) : Value.int .u8 ((x j + car x j) % 256) = .int .u8 (tt x j) := by
  unfold tt; rw [low_lt h]
theorem car_lt (x : Nat → Int) (j : Nat) (h : j ≠ 31) : (x j + car x j) / 256 = car x (j + 1) := by
  show _ = (low x j + car x j) / 256
  rw [low_lt h]

set_option maxHeartbeats 1000000 in
theorem law_main (b off n c : Nat) (x : Nat → Int) (w : World) (hn : 32 ≤ n) (hm : n ≤ 1048576) (hc : ∀ j, j < n → w.cell? ⟨b, off + j, none⟩ = some (.int .u8 (x j))) (hb : b < w.heap.size) (hx : ∀ j, 0 ≤ x j ∧ x j ≤ 255) :
    Calls Trym.prog 3 #[.slice (some ⟨b, off, none⟩) n c] w fun e w' => e = .returned (.bool true) ∧ Below w.heap.size w w' := by
  go_enter Trym.func3, Trym.ntmps3
  go_wp2_with (first | (go_at_call 6; refine (bytes_ok _ _ _ _ (by omega)).mono ?_; rintro e w' ⟨rfl, rfl⟩) | (refine wpList_make_named _ rfl (.tmp 27) (.tmp 27) 22 rfl 5 (.int .u8 0) 1 Trym.underlying22 Trym.info5 rfl .i64 .i64 n rfl rfl (by omega) (by omega) ?_; intro w1 hr1 hs1 hb1))
  go_loopw [4] (fun i wr => ∃ k : Nat, k ≤ n ∧ i = .int .i64 k ∧ wr.rowIs w.heap.size 5 n (fun j => .int .u8 (if j < k then x j else 0)) ∧ wr.heap.size = w.heap.size + 1 ∧ Below w.heap.size w wr) (fun i _ => n - (intOf i).toNat)
  case atStart => exact ⟨0, by omega, rfl, hr1.congr (fun j _ => by rw [if_neg (by omega)]), hs1, hb1⟩
  case round =>
    obtain ⟨k, hk, rfl, hr, hs, hbl⟩ := hrel
    by_cases hlt : k < n
    · have hck : wr.cell? ⟨b, off + k, none⟩ = some (.int .u8 (x k)) := (hbl.cell (p := ⟨b, off + k, none⟩) hb).trans (hc k hlt)
      go_wp2_with (refine wpList_store_cell rfl 5 (.tmp 41) (.tmp 40) rfl w.heap.size k n _ (.int .u8 (x k)) rfl rfl rfl 5 hr hlt Trym.info5s ?_; intro w2 hr2 ho2)
      go_roundw
      case rel => exact ⟨k + 1, by omega, by go_num, hr2.congr (fun j _ => part_set x k j), ho2.size.trans hs, hbl.trans (ho2.below (Nat.le_refl _))⟩
      case measure => simp [intOf]; omega
    · have hkn : k = n := by omega
      subst hkn
      have hr0 : wr.rowIs w.heap.size 5 k (fun j => .int .u8 (x j)) := hr.congr (fun j hj => by rw [if_pos hj])
      clear hr hr1 hs1 hb1
      go_wp2_with fail
      go_loopw [6, 7] (fun cy i wq => ∃ j : Nat, j ≤ 32 ∧ i = .int .i64 j ∧ cy = .int .i64 (car x j) ∧ wq.rowIs (w.heap.size + 1) 24 32 (fun i => .int .u8 (if i < j then tt x i else 0)) ∧ wq.rowIs w.heap.size 5 k (fun j => .int .u8 (x j)) ∧ wq.heap.size = w.heap.size + 2 ∧ Below w.heap.size w wq) (fun _ i _ => 32 - (intOf i).toNat)
      case atStart => 
        refine ⟨0, by omega, rfl, rfl, ?_, hr0.alloc _, by simp [hs], hbl.alloc (by omega) _⟩
        rw [← hs]
        exact ⟨_, heap_alloc_new _ _, rfl, zeros32⟩
      case round =>
        obtain ⟨j, hj, rfl, rfl, hrt, hrb, hsq, hbq⟩ := hrel
        by_cases hlt2 : j < 32
        · have hcb := hrb.cell (i := j) (by omega)
          have hxj := hx j
          have hcj := car_bd hx j
          by_cases h31 : j = 31
          · subst h31
            have h127 := i64_and127 (x 31)
            have h255 := i64_and255
            go_wp2_with (refine wpList_store_cell rfl 5 (.tmp 63) (.tmp 62) rfl (w.heap.size + 1) 31 32 _ _ rfl rfl rfl 24 hrt (by omega) Trym.info5s ?_; intro w3 hr3 ho3)
            go_roundw
            case rel => exact ⟨32, by omega, by go_num, rfl, hr3.congr (fun i _ => tt_set x 31 i _ rfl), ho3.row hrb (by omega), ho3.size.trans hsq, hbq.trans (ho3.below (by omega))⟩
            case measure => simp [intOf]
          · have h255 := i64_and255
            have h31' : ((j : Int) == 31) = false := by simp; omega
            go_wp2_with (refine wpList_store_cell rfl 5 (.tmp 63) (.tmp 62) rfl (w.heap.size + 1) j 32 _ _ rfl rfl rfl 24 hrt (by omega) Trym.info5s ?_; intro w3 hr3 ho3)
            go_roundw
            case rel => exact ⟨j + 1, by omega, by go_num, by exact congrArg _ (car_lt x j h31), hr3.congr (fun i _ => tt_set x j i _ (by first | exact tt_lt x j h31 | exact tt_lt2 x j h31)), ho3.row hrb (by omega), ho3.size.trans hsq, hbq.trans (ho3.below (by omega))⟩
            case measure => simp [intOf]; omega
        · have hj32 : j = 32 := by omega
          subst hj32
          have hrt0 : wr.rowIs (w.heap.size + 1) 24 32 (fun i => .int .u8 (tt x i)) := hrt.congr (fun i hi => by rw [if_pos hi])
          have ct31 := hrt0.cell (i := 31) (by omega)
          have ct0 := hrt0.cell (i := 0) (by omega)
          have cx31 := hrb.cell (i := 31) (by omega)
          have ha1 := and128 (tt x 31) (tt_bd x 31)
          have ha2 := and128 (x 31) (hx 31)
          have H1 : Hid _ := twB_one x
          have H0 : Hid _ := alB_start x
          clear hrt
          go_wp2_with fail
          go_loop [12, 13] (fun tw i => ∃ m : Nat, 1 ≤ m ∧ m ≤ 32 ∧ i = .int .i64 m ∧ tw = .bool (twB x m)) (fun _ i => 32 - (intOf i).toNat)
          case atStart => exact ⟨1, by omega, by omega, rfl, by rw [H1.out]⟩
          case round =>
            obtain ⟨m, hm1, hm2, rfl, rfl⟩ := hrel
            by_cases hlt3 : m < 32
            · have ctm := hrt0.cell (i := m) (by omega)
              have hz : (tt x m != 0) = true ∨ (tt x m != 0) = false := by cases (tt x m != 0) <;> simp
              rcases hz with hz | hz
              · have HZ : Hid _ := twB_set hm1 hz
                go_wp2
                go_round
                case rel => exact ⟨m + 1, by omega, by omega, by go_num, by rw [HZ.out]⟩
                case measure => simp [intOf]; omega
              · have HZ : Hid _ := twB_zero hm1 hz
                go_wp2
                go_round
                case rel => exact ⟨m + 1, by omega, by omega, by go_num, by rw [HZ.out]⟩
                case measure => simp [intOf]; omega
            · have hm32 : m = 32 := by omega
              subst hm32
              go_wp2_with fail
              go_loop [14, 15] (fun al i => ∃ m : Nat, m ≤ 31 ∧ i = .int .i64 m ∧ al = .bool (alB x m)) (fun _ i => 31 - (intOf i).toNat)
              case atStart => exact ⟨0, by omega, rfl, by rw [H0.out]⟩
              case round =>
                obtain ⟨m, hm2, rfl, rfl⟩ := hrel
                by_cases hlt3 : m < 31
                · have ctm := hrt0.cell (i := m) (by omega)
                  have hz : (tt x m != 255) = true ∨ (tt x m != 255) = false := by cases (tt x m != 255) <;> simp
                  rcases hz with hz | hz
                  · have HZ : Hid _ := alB_set hz
                    go_wp2
                    go_round
                    case rel => exact ⟨m + 1, by omega, by go_num, by rw [HZ.out]⟩
                    case measure => simp [intOf]; omega
                  · have HZ : Hid _ := alB_same hz
                    go_wp2
                    go_round
                    case rel => exact ⟨m + 1, by omega, by go_num, by rw [HZ.out]⟩
                    case measure => simp [intOf]; omega
                · have hm31 : m = 31 := by omega
                  subst hm31
                  clear ct31 ct0 cx31 ha1 ha2 H1 H0
                  have hcx : ∀ j, j < 32 → wr.cell? ⟨w.heap.size, j, none⟩ = some (.int .u8 (x j)) := fun j hj => hrb.cell (by omega)
                  have Hcx : Hid (∀ j, j < 32 → wr.cell? ⟨w.heap.size, j, none⟩ = some (.int .u8 (x j))) := hcx
                  clear hcx
                  have HW : Hid (canonB x = wantB x) := canon_is_want hx
                  have Hx : Hid (∀ j, 0 ≤ x j ∧ x j ≤ 255) := hx
                  clear hx hc
                  have c1 : (tt x 31 / 128 * 128 != 0) = true ∨ (tt x 31 / 128 * 128 != 0) = false := by cases (tt x 31 / 128 * 128 != 0) <;> simp
                  have c2 : (x 31 / 128 * 128 != 0) = true ∨ (x 31 / 128 * 128 != 0) = false := by cases (x 31 / 128 * 128 != 0) <;> simp
                  have c3 : twB x 32 = true ∨ twB x 32 = false := by cases twB x 32 <;> simp
                  rcases c1 with c1 | c1
                  · clear c2 c3
                    have W : Hid (wantB x = false) := by simp [Hid, wantB, ovB, c1]
                    go_wp2_with (go_at_call 7; refine (zz_any w.heap.size k k x _ hn Hcx.out Hx.out).mono ?_; rintro e w9 ⟨rfl, hb9⟩)
                    go_ret
                    exact ⟨by rw [HW.out, W.out]; rfl, hbq.trans (hb9.mono (by omega))⟩
                  · rcases c2 with c2 | c2
                    · rcases c3 with c3 | c3
                      · have W : Hid (wantB x = false) := by simp [Hid, wantB, ovB, sgB, c1, c2, c3]
                        go_wp2_with (go_at_call 7; refine (zz_any w.heap.size k k x _ hn Hcx.out Hx.out).mono ?_; rintro e w9 ⟨rfl, hb9⟩)
                        go_ret
                        exact ⟨by rw [HW.out, W.out]; rfl, hbq.trans (hb9.mono (by omega))⟩
                      · have W : Hid (wantB x = !alB x 31) := by simp [Hid, wantB, ovB, sgB, c1, c2, c3]
                        go_wp2_with (go_at_call 7; refine (zz_any w.heap.size k k x _ hn Hcx.out Hx.out).mono ?_; rintro e w9 ⟨rfl, hb9⟩)
                        go_ret
                        exact ⟨by rw [HW.out, W.out]; simp, hbq.trans (hb9.mono (by omega))⟩
                    · clear c3
                      have W : Hid (wantB x = true) := by simp [Hid, wantB, ovB, sgB, c1, c2]
                      go_wp2_with (go_at_call 7; refine (zz_any w.heap.size k k x _ hn Hcx.out Hx.out).mono ?_; rintro e w9 ⟨rfl, hb9⟩)
                      go_ret
                      exact ⟨by rw [HW.out, W.out]; rfl, hbq.trans (hb9.mono (by omega))⟩
end Go.Proofs.Qxb6000063aMods
