/-
  The contracts of zzSpecsOK (9), ZZNewPlace (26), ZZNewRoom (27), zzBuild (10).
-/
import Derived.Test.Qxb6001373aModsWrites
namespace Go.Proofs.Qxb6001373aMods
open Go.RowKit

/-- The cells of a PlaceSpec. -/
def spF (p : Pl) (j : Nat) : Value := if j = 0 then .int .u64 p.la else if j = 1 then .int .i64 p.un else if j = 2 then .int .i64 p.he else if j = 3 then .bool p.wa else .bool p.ad
theorem spF_one (p : Pl) (j : Nat) : (spF p j).oneCell' = true := by
  unfold spF
  split
  · rfl
  · split
    · rfl
    · split
      · rfl
      · split <;> rfl
/-- The numbers fit their kinds. -/
def Pl.fit (p : Pl) : Prop := 0 ≤ p.la ∧ p.la ≤ 18446744073709551615 ∧ -9223372036854775808 ≤ p.un ∧ p.un ≤ 9223372036854775807 ∧ -9223372036854775808 ≤ p.he ∧ p.he ≤ 9223372036854775807
/-- A slice of specs, as it was handed in. -/
def SpecAt (w : World) (v : Value) (n : Nat) (st : Nat → Pl) : Prop :=
  ∃ a c, v = .slice a n c ∧ (0 < n → ∃ b o, a = some ⟨b, o, none⟩ ∧ ∀ i, i < n → (st i).fit ∧ ∀ j, j < 5 → w.cell? ⟨b, o + i * 5 + j, none⟩ = some (spF (st i) j))

/-- What 'OK' says of the specs. -/
def SpecsOK (n : Nat) (mx : Int) (st : Nat → Pl) : Prop := n ≤ 4096 ∧ 0 ≤ mx ∧ mx ≤ 281474976710656 ∧ ∀ i, i < n → (st i).ok

set_option maxHeartbeats 4000000 in
theorem specsOK_any (n : Nat) (mx : Int) (st : Nat → Pl) (v : Value) (w : World) (h : SpecAt w v n st) :
    Calls Trym.prog 9 #[.int .i64 mx, v] w fun e w' => RetB e fun b => w = w' ∧ (b = true → SpecsOK n mx st) := by
  obtain ⟨a, c, rfl, h⟩ := h
  by_cases hn : n ≤ 4096
  rotate_left
  · have hn' : (4096 : Int) < (n : Int) := by omega
    go_enter Trym.func9, Trym.ntmps9
    go_wp2
    go_ret
    exact ⟨false, rfl, rfl, fun h => by cases h⟩
  by_cases m0 : 0 ≤ mx
  rotate_left
  · have m0' : decide (mx < 0) = true := decide_eq_true (by omega)
    go_enter Trym.func9, Trym.ntmps9
    go_wp2
    go_ret
    exact ⟨false, rfl, rfl, fun h => by cases h⟩
  have m0' : decide (mx < 0) = false := decide_eq_false (by omega)
  by_cases m1 : mx ≤ 281474976710656
  rotate_left
  · have m1' : decide (281474976710656 < mx) = true := decide_eq_true (by omega)
    go_enter Trym.func9, Trym.ntmps9
    go_wp2
    go_ret
    exact ⟨false, rfl, rfl, fun h => by cases h⟩
  have m1' : decide (281474976710656 < mx) = false := decide_eq_false (by omega)
  go_enter Trym.func9, Trym.ntmps9
  go_wp2
  go_loop [5] (fun i => ∃ j : Nat, j ≤ n ∧ i = .int .i64 j ∧ ∀ t, t < j → (st t).ok) (fun i => n - (intOf i).toNat)
  case atStart => exact ⟨0, by omega, rfl, fun t ht => by omega⟩
  case round =>
    obtain ⟨j, hj, rfl, hok⟩ := hrel
    have Hok : Hid (∀ t, t < j → (st t).ok) := hok
    clear hok
    by_cases hlt : j < n
    · obtain ⟨b, o, rfl, hc⟩ := h (by omega)
      obtain ⟨hfit, hcj⟩ := hc j hlt
      have c1 : w.cell? ⟨b, o + j * 5 + 1, none⟩ = some (.int .i64 (st j).un) := hcj 1 (by omega)
      have c2 : w.cell? ⟨b, o + j * 5 + 2, none⟩ = some (.int .i64 (st j).he) := hcj 2 (by omega)
      have jn : (j : Int) < (n : Int) := by omega
      have Hfit : Hid (st j).fit := hfit
      clear hc hcj h hfit
      by_cases u1 : 1 ≤ (st j).un
      rotate_left
      · have u1' : decide ((st j).un < 1) = true := decide_eq_true (by omega)
        go_wp2
        go_ret
        exact ⟨false, rfl, rfl, fun h => by cases h⟩
      have u1' : decide ((st j).un < 1) = false := decide_eq_false (by omega)
      by_cases e0 : 0 ≤ (st j).he
      rotate_left
      · have e0' : decide ((st j).he < 0) = true := decide_eq_true (by omega)
        go_wp2
        go_ret
        exact ⟨false, rfl, rfl, fun h => by cases h⟩
      have e0' : decide ((st j).he < 0) = false := decide_eq_false (by omega)
      by_cases e1 : (st j).he ≤ 281474976710656
      rotate_left
      · have e1' : decide (281474976710656 < (st j).he) = true := decide_eq_true (by omega)
        go_wp2
        go_ret
        exact ⟨false, rfl, rfl, fun h => by cases h⟩
      have e1' : decide (281474976710656 < (st j).he) = false := decide_eq_false (by omega)
      go_wp2
      go_round
      case rel =>
        refine ⟨j + 1, by omega, by go_num, fun t ht => ?_⟩
        by_cases e : t = j
        · subst e
          have f := Hfit.out
          exact ⟨f.1, f.2.1, u1, f.2.2.2.1, e0, e1⟩
        · exact Hok.out t (by omega)
      case measure => simp [intOf]; omega
    · have hjn : j = n := by omega
      subst hjn
      clear h
      go_wp2
      go_ret
      exact ⟨true, rfl, rfl, fun _ => ⟨hn, m0, m1, Hok.out⟩⟩

theorem newPlace_any (p : Pl) (w : World) (g : Nat) (hg : w.heap.size = g) :
    Calls Trym.prog 26 #[.int .u64 p.la, .int .i64 p.un, .int .i64 p.he, .bool p.wa, .bool p.ad] w fun e w' => e = .returned (.pointer (some ⟨g, 0, none⟩)) ∧ w'.rowIs g 61 6 (plF p) ∧ w'.heap.size = g + 1 ∧ Below g w w' := by
  subst hg
  go_enter Trym.func26, Trym.ntmps26
  go_wp2
  go_ret
  refine ⟨rfl, ⟨_, heap_alloc_new _ _, rfl, fun i hi => ?_⟩, by simp, (Below.refl _ _).alloc (Nat.le_refl _) _⟩
  have h : i = 0 ∨ i = 1 ∨ i = 2 ∨ i = 3 ∨ i = 4 ∨ i = 5 := by omega
  rcases h with rfl | rfl | rfl | rfl | rfl | rfl <;> rfl

theorem newRoom_any (mx hd : Int) (a : Option Addr) (n c : Nat) (w : World) (g : Nat) (hg : w.heap.size = g) :
    Calls Trym.prog 27 #[.int .i64 mx, .int .i64 hd, .slice a n c] w fun e w' => e = .returned (.pointer (some ⟨g, 0, none⟩)) ∧ w'.rowIs g 54 3 (rmF mx hd (.slice a n c)) ∧ w'.heap.size = g + 1 ∧ Below g w w' := by
  subst hg
  go_enter Trym.func27, Trym.ntmps27
  go_wp2
  go_ret
  refine ⟨rfl, ⟨_, heap_alloc_new _ _, rfl, fun i hi => ?_⟩, by simp, (Below.refl _ _).alloc (Nat.le_refl _) _⟩
  have h : i = 0 ∨ i = 1 ∨ i = 2 := by omega
  rcases h with rfl | rfl | rfl <;> rfl

theorem Trym.info35 : (Trym.prog.info? 35).map (fun i => (i.zero, i.size, i.bytes)) = some (some (.pointer none), 1, 8) := by kernel_rfl
theorem Trym.info42s : (Trym.prog.info? 42).map (·.size) = some 5 := by kernel_rfl

theorem ptr_next (B j t : Nat) : (if t = j then Value.pointer (some ⟨B + 3 + 2 * j, 0, none⟩) else if t < j then ptrF B t else .pointer none) = if t < j + 1 then ptrF B t else .pointer none := by
  by_cases e : t = j
  · subst e; rw [if_pos rfl, if_pos (by omega)]; rfl
  · rw [if_neg e]
    by_cases e' : t < j
    · rw [if_pos e', if_pos (by omega)]
    · rw [if_neg e', if_neg (by omega)]

/-- The room while it is laid: i places are there. -/
structure LaySt (B n : Nat) (st : Nat → Pl) (i : Nat) (w : World) : Prop where
  mine : w.rowIs B 35 n (fun t => if t < i then ptrF B t else .pointer none)
  given : w.rowIs (B + 1) 35 n (fun t => if t < i then ptrF B t else .pointer none)
  place : ∀ t, t < i → w.rowIs (B + 3 + 2 * t) 61 6 (plF (st t))

set_option maxHeartbeats 4000000 in
theorem build_any (B n : Nat) (mx : Int) (st : Nat → Pl) (v : Value) (w : World) (hB : w.heap.size = B) (h : SpecAt w v n st) (hs : SpecsOK n mx st) :
    Calls Trym.prog 10 #[.int .i64 mx, v] w fun e w' => e = .returned (.tuple #[.pointer (some ⟨B + 2 + 2 * n, 0, none⟩), .slice (some ⟨B, 0, none⟩) n n]) ∧ RoomSt B n mx (sumH st n) st w' ∧ w'.heap.size = B + 3 + 2 * n ∧ Below B w w' := by
  obtain ⟨a, c, rfl, h⟩ := h
  obtain ⟨hn, _, _, hok⟩ := hs
  have Hok : Hid (∀ i, i < n → (st i).ok) := hok
  clear hok
  go_enter Trym.func10, Trym.ntmps10
  go_wp2_with (first | (refine wpList_make_named _ rfl (.tmp 13) (.tmp 13) 25 rfl 35 (.pointer none) 8 Trym.underlying25 Trym.info35 rfl .i64 .i64 n rfl rfl (by omega) (by omega) B hB ?_; intro w1 hr1 hs1 hb1) | (refine wpList_make_named _ rfl (.tmp 16) (.tmp 16) 25 rfl 35 (.pointer none) 8 Trym.underlying25 Trym.info35 rfl .i64 .i64 n rfl rfl (by omega) (by omega) (B + 1) hs1 ?_; intro w2 hr2 hs2 hb2))
  go_loopw [8, 9] (fun s i wr => ∃ j : Nat, j ≤ n ∧ i = .int .i64 j ∧ s = .int .i64 (sumH st j) ∧ LaySt B n st j wr ∧ Below B w wr ∧ wr.heap.size = B + 2 + 2 * j) (fun _ i _ => n - (intOf i).toNat)
  case atStart => exact ⟨0, by omega, rfl, rfl, ⟨(below_row hb2 hr1 (by omega)).congr (fun t _ => by rw [if_neg (by omega)]), hr2.congr (fun t _ => by rw [if_neg (by omega)]), fun t ht => by omega⟩, hb1.trans (hb2.mono (by omega)), hs2⟩
  case round =>
    clear hr1 hs1 hb1 hr2 hs2 hb2
    obtain ⟨j, hj, rfl, rfl, hlay, hbl, hsz⟩ := hrel
    by_cases hlt : j < n
    · obtain ⟨b, o, rfl, hc⟩ := h (by omega)
      have hbB : b < B := by have := block_lt_of_cell ((hc j hlt).2 0 (by omega)); rw [hB] at this; exact this
      have Hc : Hid (∀ i, i < 5 → wr.cell? ⟨b, o + j * 5 + i, none⟩ = some (spF (st j) i)) := fun i hi => (hbl.cell (p := ⟨b, o + j * 5 + i, none⟩) hbB).trans ((hc j hlt).2 i hi)
      have hb := sumH_bd j (fun i hi => Hok.out i (by omega))
      obtain ⟨_, _, _, _, p5, p6⟩ := Hok.out j hlt
      have b2 : sumH st j ≤ 1152921504606846976 := by omega
      have b1 := hb.1
      have jn : (j : Int) < (n : Int) := by omega
      clear hb hc h
      go_wp2_with (first | (refine wpList_load_part rfl 42 (.tmp 26) rfl b (o + j * 5) 5 (spF (st j)) rfl _ Hc.out Trym.underlying42 rfl Trym.info42s ?_) | (refine wpList_store_fresh rfl 42 (.tmp 10) (.tmp 27) rfl (B + 2 + 2 * j) 5 (spF (st j)) rfl rfl 42 _ hsz Trym.info42s rfl (fun i _ => spF_one (st j) i) ?_; intro w3 hr3 hs3 hb3; have s0 : w3.cell? ⟨B + 2 + 2 * j, 0, none⟩ = some (.int .u64 (st j).la) := hr3.cell (i := 0) (by omega); have s1 : w3.cell? ⟨B + 2 + 2 * j, 1, none⟩ = some (.int .i64 (st j).un) := hr3.cell (i := 1) (by omega); have s2 : w3.cell? ⟨B + 2 + 2 * j, 2, none⟩ = some (.int .i64 (st j).he) := hr3.cell (i := 2) (by omega); have s3 : w3.cell? ⟨B + 2 + 2 * j, 3, none⟩ = some (.bool (st j).wa) := hr3.cell (i := 3) (by omega); have s4 : w3.cell? ⟨B + 2 + 2 * j, 4, none⟩ = some (.bool (st j).ad) := hr3.cell (i := 4) (by omega)) | (go_at_call 26; refine (newPlace_any (st j) w3 (B + 3 + 2 * j) (by omega)).mono ?_; rintro e w4 ⟨rfl, hp4, hs4, hb4⟩) | (refine wpList_store_cell rfl 35 (.tmp 42) (.tmp 41) rfl B j n _ (.pointer (some ⟨B + 3 + 2 * j, 0, none⟩)) rfl rfl rfl 35 (below_row hb4 (below_row hb3 hlay.mine (by omega)) (by omega)) hlt Trym.info35s ?_; intro w5 hr5 ho5) | (refine wpList_store_cell rfl 35 (.tmp 46) (.tmp 45) rfl (B + 1) j n _ (.pointer (some ⟨B + 3 + 2 * j, 0, none⟩)) rfl rfl rfl 35 (ho5.row (below_row hb4 (below_row hb3 hlay.given (by omega)) (by omega)) (by omega)) hlt Trym.info35s ?_; intro w6 hr6 ho6; have s2' : w6.cell? ⟨B + 2 + 2 * j, 2, none⟩ = some (.int .i64 (st j).he) := (ho6.row (ho5.row (below_row hb4 hr3 (by omega)) (by omega)) (by omega)).cell (i := 2) (by omega)))
      go_roundw
      case rel =>
        have keep : ∀ {b m : Nat} {t : TypeId} {f : Nat → Value}, wr.rowIs b t m f → b ≠ B → b ≠ B + 1 → b < B + 2 + 2 * j → w6.rowIs b t m f := fun r e1 e2 e3 => ho6.row (ho5.row (below_row hb4 (below_row hb3 r e3) (by omega)) e1) e2
        refine ⟨j + 1, by omega, by go_num, rfl, ⟨(ho6.row hr5 (by omega)).congr (fun t _ => ptr_next B j t), hr6.congr (fun t _ => ptr_next B j t), fun t ht => ?_⟩, hbl.trans ((hb3.mono (by omega)).trans ((hb4.mono (by omega)).trans ((ho5.below (Nat.le_refl _)).trans (ho6.below (by omega))))), by rw [ho6.size, ho5.size, hs4]; omega⟩
        by_cases e : t = j
        · subst e; exact ho6.row (ho5.row hp4 (by omega)) (by omega)
        · exact keep (hlay.place t (by omega)) (by omega) (by omega) (by omega)
      case measure => simp [intOf]; omega
    · have hjn : j = n := by omega
      subst hjn
      have hm : wr.rowIs B 35 j (ptrF B) := hlay.mine.congr (fun t ht => by rw [if_pos ht])
      have hgv : wr.rowIs (B + 1) 35 j (ptrF B) := hlay.given.congr (fun t ht => by rw [if_pos ht])
      clear h
      go_wp2_with (go_at_call 27; refine (newRoom_any mx (sumH st j) _ j j wr (B + 2 + 2 * j) hsz).mono ?_; rintro e w7 ⟨rfl, hr7, hs7, hb7⟩)
      go_ret2
      exact ⟨rfl, ⟨below_row hb7 hm (by omega), below_row hb7 hgv (by omega), fun t ht => below_row hb7 (hlay.place t ht) (by omega), hr7⟩, by rw [hs7]; omega, hbl.trans (hb7.mono (by omega))⟩
end Go.Proofs.Qxb6001373aMods
