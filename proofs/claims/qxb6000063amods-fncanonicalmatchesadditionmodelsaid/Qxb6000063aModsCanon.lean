/-
  The walk of 'canonical' (function 11) and of its shim (function 7).
-/
import Derived.Test.Qxb6000063aModsBase
namespace Go.Proofs.Qxb6000063aMods
open Go.RowKit
theorem built_one : Trym.prog.built 24 [(0, .int .u8 1)] = some (rowL 32 fun j => .int .u8 (oneF j)).toArray := by kernel_rfl
theorem built_mo : Trym.prog.built 24 [(0, .int .u8 236), (31, .int .u8 127)] = some (rowL 32 fun j => .int .u8 (moF 1 j)).toArray := by kernel_rfl
theorem Trym.info5s : (Trym.prog.info? 5).map (·.size) = some 1 := by kernel_rfl

theorem moF_succ (k j : Nat) (hk : 1 ≤ k) (hk' : k < 31) : (if j = k then Value.int .u8 255 else Value.int .u8 (moF k j)) = Value.int .u8 (moF (k + 1) j) := by
  unfold moF
  by_cases h : j = k
  · subst h
    rw [if_pos rfl, if_neg (by omega), if_neg (by omega), if_pos (by omega)]
  · rw [if_neg h]
    by_cases h0 : j = 0
    · simp [h0]
    · by_cases h31 : j = 31
      · simp [h31]
      · by_cases hlt : j < k
        · simp [h0, h31, hlt, show j < k + 1 by omega]
        · simp [h0, h31, hlt, show ¬ j < k + 1 by omega]

theorem low_set (x : Nat → Int) (j : Nat) : (if j = 31 then Value.int .u8 (x 31 % 128) else Value.int .u8 (x j)) = Value.int .u8 (low x j) := by
  unfold low
  split <;> rfl


theorem canon_store31 {w w1 w2 : World} {x : Nat → Int} (hg : w2.rowIs w.heap.size 24 32 (fun j => if j = 31 then Value.int .u8 (x 31 % 128) else Value.int .u8 (x j))) (ho : Only w.heap.size w1 w2) (hs : w1.heap.size = w.heap.size + 1) (hb : Below w.heap.size w w1) :
    w2.rowIs w.heap.size 24 32 (fun j => .int .u8 (low x j)) ∧ w2.heap.size = w.heap.size + 1 ∧ Below w.heap.size w w2 ∧ w2.cell? ⟨w.heap.size, 31, none⟩ = some (.int .u8 (x 31 % 128)) ∧ w2.cell? ⟨w.heap.size, 0, none⟩ = some (.int .u8 (x 0)) := by
  have hg2 := hg.congr (g := fun j => .int .u8 (low x j)) (fun j _ => low_set x j)
  exact ⟨hg2, ho.size.trans hs, hb.trans (ho.below (Nat.le_refl _)), hg2.cell (i := 31) (by omega), hg2.cell (i := 0) (by omega)⟩

set_option maxHeartbeats 1000000 in
theorem canon_any (b n c : Nat) (x : Nat → Int) (w : World) (hn : 32 ≤ n) (hc : ∀ j, j < 32 → w.cell? ⟨b, j, none⟩ = some (.int .u8 (x j))) (hx : ∀ j, 0 ≤ x j ∧ x j ≤ 255) :
    Calls Trym.prog 11 #[.slice (some ⟨b, 0, none⟩) n c] w fun e w' => e = .returned (.bool (canonB x)) ∧ Below w.heap.size w w' := by
  have hra := run_arrayAt (some ⟨b, 0, none⟩) n c hn
  have b31 := hx 31
  have b0 := hx 0
  have hand := and127 (x 31) (hx 31)
  have hneq := run_neq_rows
  have h127 : (x 31 % 128 == 127) = true ∨ (x 31 % 128 == 127) = false := by cases (x 31 % 128 == 127) <;> simp
  rcases h127 with h127 | h127
  all_goals
    first
      | (have HA : Hid (hiB x 0 = decide (237 ≤ x 0)) := hiB_zero_yes h127)
      | (have HA : Hid (hiB x 0 = false) := hiB_zero_no h127)
    go_enter Trym.func11, Trym.ntmps11
    go_wp2_with (first | (refine wpList_load_named rfl 24 (.tmp 12) rfl b 32 (fun j => .int .u8 (x j)) rfl _ hc Trym.underlying24 rfl Trym.info24 ?_) | (refine wpList_store_fresh rfl 24 (.tmp 3) (.tmp 13) rfl w.heap.size 32 (fun j => .int .u8 (x j)) rfl rfl 24 _ rfl Trym.info24 rfl (fun _ => rfl) ?_; intro w1 hg1 hs1 hb1; have hc31 := hg1.cell (i := 31) (by omega)) | (refine wpList_store_cell rfl 5 (.tmp 20) (.tmp 19) rfl w.heap.size 31 32 _ (.int .u8 (x 31 % 128)) rfl rfl rfl 24 hg1 (by omega) Trym.info5s ?_; intro w2 hg2' ho2; obtain ⟨hg2, hs2, hb2, hc31', hc0'⟩ := canon_store31 hg2' ho2 hs1 hb1; clear hg2' ho2 hc31 hg1 hb1 hs1))
    go_loop [5, 31] (fun h i => ∃ k : Nat, k ≤ 30 ∧ i = .int .i64 k ∧ h = .bool (hiB x k)) (fun _ i => 30 - (intOf i).toNat)
    case atStart => exact ⟨0, by omega, rfl, by rw [HA.out]⟩
    case round =>
      obtain ⟨k, hk, rfl, rfl⟩ := hrel
      clear HA
      by_cases hlt : k < 30
      · have hck : w2.cell? ⟨w.heap.size, 1 + k, none⟩ = some (.int .u8 (x (1 + k))) := by
          have := hg2.cell (i := 1 + k) (by omega)
          rw [this, low, if_neg (by omega)]
        by_cases hh : hiB x k = true
        · have HH : Hid _ := hiB_succ_yes hh
          go_wp2
          go_round
          case rel => exact ⟨k + 1, by omega, by go_num, by rw [HH.out]⟩
          case measure => simp [intOf]; omega
        · have hh' : hiB x k = false := by simpa using hh
          have HH : Hid _ := hiB_succ_no hh'
          go_wp2
          go_round
          case rel => exact ⟨k + 1, by omega, by go_num, by rw [HH.out]⟩
          case measure => simp [intOf]; omega
      · have hk30 : k = 30 := by omega
        subst hk30
        by_cases hh : hiB x 30 = true
        · rw [hh]
          go_wp2
          go_ret
          exact ⟨by simp [canonB, hh], hb2⟩
        · have hh' : hiB x 30 = false := by simpa using hh
          rw [hh']
          go_wp2_with (first | (refine wpList_build_row rfl 24 #[(0, .const (.int .u8 1))] rfl [(0, .int .u8 1)] rfl _ built_one ?_) | (refine wpList_build_row rfl 24 #[(0, .const (.int .u8 236)), (31, .const (.int .u8 127))] rfl [(0, .int .u8 236), (31, .int .u8 127)] rfl _ built_mo ?_) | (refine wpList_store_fresh rfl 24 (.tmp 8) (.tmp 42) rfl (w.heap.size + 1) 32 (fun j => .int .u8 (oneF j)) rfl rfl 24 _ hs2.symm Trym.info24 rfl (fun _ => rfl) ?_; intro w3 hg3 hs3 hb3) | (refine wpList_store_fresh rfl 24 (.tmp 9) (.tmp 43) rfl (w.heap.size + 2) 32 (fun j => .int .u8 (moF 1 j)) rfl rfl 24 _ hs3.symm Trym.info24 rfl (fun _ => rfl) ?_; intro w4 hg4 hs4 hb4))
          go_loopw [10] (fun i wr => ∃ k : Nat, 1 ≤ k ∧ k ≤ 31 ∧ i = .int .i64 k ∧ wr.rowIs (w.heap.size + 2) 24 32 (fun j => .int .u8 (moF k j)) ∧ wr.rowIs w.heap.size 24 32 (fun j => .int .u8 (low x j)) ∧ wr.rowIs (w.heap.size + 1) 24 32 (fun j => .int .u8 (oneF j)) ∧ Below w.heap.size w wr) (fun i _ => 31 - (intOf i).toNat)
          case atStart => exact ⟨1, by omega, by omega, rfl, hg4, (hg2.of_block (hb3.block _ (by omega))).of_block (hb4.block _ (by omega)), hg3.of_block (hb4.block _ (by omega)), (hb2.trans (hb3.mono (by omega))).trans (hb4.mono (by omega))⟩
          case round =>
            obtain ⟨k, hk1, hk31, rfl, hmo, hlo, hon, hbr⟩ := hrel
            by_cases hlt : k < 31
            · go_wp2_with (refine wpList_store_cell rfl 5 (.tmp 49) (.const (.int .u8 255)) rfl (w.heap.size + 2) k 32 _ (.int .u8 255) rfl rfl rfl 24 hmo (by omega) Trym.info5s ?_; intro w5 hmo' ho5)
              go_roundw
              case rel => exact ⟨k + 1, by omega, by omega, by go_num, hmo'.congr (fun j _ => moF_succ k j hk1 hlt), ho5.row hlo (by omega), ho5.row hon (by omega), hbr.trans (ho5.below (by omega))⟩
              case measure => simp [intOf]; omega
            · have hk31' : k = 31 := by omega
              subst hk31'
              have hs : (x 31 / 128 == 0) = true ∨ (x 31 / 128 == 0) = false := by cases (x 31 / 128 == 0) <;> simp
              rcases hs with hs | hs
              · go_wp2
                go_ret
                exact ⟨by simp [canonB, hh', hs], hbr⟩
              · have he : rowEq 32 (low x) oneF = true ∨ rowEq 32 (low x) oneF = false := by cases rowEq 32 (low x) oneF <;> simp
                rcases he with he | he
                all_goals
                  go_wp2_with (first | (refine wpList_load_named rfl 24 (.tmp 3) rfl w.heap.size 32 (fun j => .int .u8 (low x j)) rfl _ (fun j hj => hlo.cell hj) Trym.underlying24 rfl Trym.info24 ?_) | (refine wpList_load_named rfl 24 (.tmp 8) rfl (w.heap.size + 1) 32 (fun j => .int .u8 (oneF j)) rfl _ (fun j hj => hon.cell hj) Trym.underlying24 rfl Trym.info24 ?_) | (refine wpList_load_named rfl 24 (.tmp 9) rfl (w.heap.size + 2) 32 (fun j => .int .u8 (moF 31 j)) rfl _ (fun j hj => hmo.cell hj) Trym.underlying24 rfl Trym.info24 ?_))
                  go_ret
                  exact ⟨by simp [canonB, hh', hs, he], hbr⟩
end Go.Proofs.Qxb6000063aMods
