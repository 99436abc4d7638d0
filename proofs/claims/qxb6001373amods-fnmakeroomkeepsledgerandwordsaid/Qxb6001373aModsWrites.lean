/-
  The contracts of letGo (34), zzLedgerOK (14), zzSameOrder (13), zzSpecsOK (9), zzBytes (20).
-/
import Derived.Test.Qxb6001373aModsReads
namespace Go.Proofs.Qxb6001373aMods
open Go.RowKit

/-- A place's cells, the last three written. -/
theorem plF_let (p : Pl) (j : Nat) : (if j = 5 then Value.bool false else if j = 4 then Value.bool true else if j = 3 then Value.int .i64 0 else plF p j) = plF (letP p) j := by
  unfold plF letP
  by_cases e5 : j = 5
  · subst e5; rfl
  · rw [if_neg e5]
    by_cases e4 : j = 4
    · subst e4; rfl
    · rw [if_neg e4]
      by_cases e3 : j = 3
      · subst e3; rfl
      · rw [if_neg e3]
        simp [e5, e4, e3]
theorem rmF_hd (mx hd hd' : Int) (ps : Value) (j : Nat) : (if j = 1 then Value.int .i64 hd' else rmF mx hd ps j) = rmF mx hd' ps j := by
  unfold rmF
  by_cases e : j = 1
  · subst e; rfl
  · rw [if_neg e]; simp [e]

theorem Trym.info3s : (Trym.prog.info? 3).map (·.size) = some 1 := by kernel_rfl
theorem Trym.info4s : (Trym.prog.info? 4).map (·.size) = some 1 := by kernel_rfl
theorem Trym.info35s : (Trym.prog.info? 35).map (·.size) = some 1 := by kernel_rfl

/-- What letGo leaves: only the room's and the place's block are written. -/
theorem letGo_any (B n i : Nat) (mx hd : Int) (st : Nat → Pl) (w : World) (h : RoomSt B n mx hd st w) (hi : i < n) (hg : Good n mx hd st) :
    Calls Trym.prog 34 #[.pointer (some ⟨B + 2 + 2 * n, 0, none⟩), .pointer (some ⟨B + 3 + 2 * i, 0, none⟩)] w fun e w' => e = .returned (.tuple #[]) ∧ RoomSt B n mx (hd - (st i).he) (upd st i (letP (st i))) w' ∧ Below B w w' ∧ w'.heap.size = w.heap.size ∧ ∀ b, B + 3 + 2 * n ≤ b → w'.heap[b]? = w.heap[b]? := by
  have c1 := h.rhd
  have f1 := h.room.frozen 1
  have c3 := h.he hi
  obtain ⟨n1, m0, m1, h0, h1, hok⟩ := hg
  obtain ⟨_, _, _, _, p5, p6⟩ := hok i hi
  go_enter Trym.func34, Trym.ntmps34
  go_wp2
  go_region
  generalize hwy : (w.setCell ⟨B + 2 + 2 * n, 1, none⟩ (.int .i64 (hd - (st i).he))).drew = wy
  have hoy : Only (B + 2 + 2 * n) w wy := by rw [← hwy]; exact (only_setCell w (B + 2 + 2 * n) 1 _).drew
  have hry : wy.rowIs (B + 2 + 2 * n) 54 3 (rmF mx (hd - (st i).he) (.slice (some ⟨B + 1, 0, none⟩) n n)) := by rw [← hwy]; exact ((h.room.set 1 (.int .i64 (hd - (st i).he))).congr (fun j _ => rmF_hd _ _ _ _ j)).drew
  have hpy : wy.rowIs (B + 3 + 2 * i) 61 6 (plF (st i)) := hoy.row (h.place i hi) (by omega)
  clear hwy
  go_wp2_with (first | (refine wpList_store_cell rfl 3 (.tmp 19) (.const (.int .i64 0)) rfl (B + 3 + 2 * i) 3 6 _ (.int .i64 0) rfl rfl rfl 61 hpy (by omega) Trym.info3s ?_; intro w3 hr3 ho3) | (refine wpList_store_cell rfl 4 (.tmp 21) (.const (.bool true)) rfl (B + 3 + 2 * i) 4 6 _ (.bool true) rfl rfl rfl 61 hr3 (by omega) Trym.info4s ?_; intro w4 hr4 ho4) | (refine wpList_store_cell rfl 4 (.tmp 23) (.const (.bool false)) rfl (B + 3 + 2 * i) 5 6 _ (.bool false) rfl rfl rfl 61 hr4 (by omega) Trym.info4s ?_; intro w5 hr5 ho5))
  have ho := ho3.trans (ho4.trans ho5)
  have keep : ∀ b, b ≠ B + 2 + 2 * n → b ≠ B + 3 + 2 * i → w5.heap[b]? = w.heap[b]? := fun b e1 e2 => (ho.block b e2).trans (hoy.block b e1)
  go_end0
  refine ⟨rfl, ⟨h.mine.of_block (keep _ (by omega) (by omega)), h.given.of_block (keep _ (by omega) (by omega)), fun j hj => ?_, ho.row hry (by omega)⟩, (hoy.below (by omega)).trans (ho.below (by omega)), ho.size.trans hoy.size, fun b hb => keep b (by omega) (by omega)⟩
  by_cases e : j = i
  · subst e
    rw [upd_same]
    exact hr5.congr (fun c _ => plF_let (st j) c)
  · rw [upd_other st i _ j e]
    exact (h.place j hj).of_block (keep _ (by omega) (by omega))

theorem ledger_any (B n : Nat) (mx hd : Int) (st : Nat → Pl) (w : World) (h : RoomSt B n mx hd st w) (hg : Good n mx hd st) (hsum : hd = sumH st n) :
    Calls Trym.prog 14 #[.pointer (some ⟨B + 2 + 2 * n, 0, none⟩), .slice (some ⟨B, 0, none⟩) n n] w fun e w' => e = .returned (.bool true) ∧ Drawn w w' := by
  obtain ⟨n1, m0, m1, h0, h1, hok⟩ := hg
  have Hsum : Hid (hd = sumH st n) := hsum
  clear hsum
  go_enter Trym.func14, Trym.ntmps14
  go_wp2_with (go_at_call 15; refine (roomOf_any B n mx hd st w h).mono ?_; rintro e w1 ⟨rfl, hdr1⟩)
  go_loopw [8, 9] (fun s i wr => ∃ j : Nat, j ≤ n ∧ i = .int .i64 j ∧ s = .int .i64 (sumH st j) ∧ Drawn w wr) (fun _ i _ => n - (intOf i).toNat)
  case atStart => exact ⟨0, by omega, rfl, rfl, hdr1⟩
  case round =>
    obtain ⟨j, hj, rfl, rfl, hdr⟩ := hrel
    by_cases hlt : j < n
    · have hst := h.drawn hdr
      have cj := hst.mpt hlt
      have hb := sumH_bd j (fun i hi => hok i (by omega))
      obtain ⟨_, _, _, _, p5, p6⟩ := hok j hlt
      have b2 : sumH st j ≤ 1152921504606846976 := by omega
      have b1 := hb.1
      clear hb
      go_wp2_with (go_at_call 22; refine (placeOf_any B n j mx hd st wr hst hlt).mono ?_; rintro e w2 ⟨rfl, hdr2⟩)
      go_roundw
      case rel => exact ⟨j + 1, by omega, by go_num, rfl, hdr.trans hdr2⟩
      case measure => simp [intOf]; omega
    · have hjn : j = n := by omega
      subst hjn
      go_wp2
      go_ret
      exact ⟨by rw [Hsum.out]; simp, hdr⟩

theorem same_any (B n : Nat) (mx hd : Int) (st : Nat → Pl) (w : World) (h : RoomSt B n mx hd st w) (hn : n ≤ 4096) :
    Calls Trym.prog 13 #[.pointer (some ⟨B + 2 + 2 * n, 0, none⟩), .slice (some ⟨B, 0, none⟩) n n] w fun e w' => e = .returned (.bool true) ∧ Drawn w w' := by
  go_enter Trym.func13, Trym.ntmps13
  go_wp2_with (go_at_call 15; refine (roomOf_any B n mx hd st w h).mono ?_; rintro e w1 ⟨rfl, hdr1⟩)
  go_loopw [8] (fun i wr => ∃ j : Nat, j ≤ n ∧ i = .int .i64 j ∧ Drawn w wr) (fun i _ => n - (intOf i).toNat)
  case atStart => exact ⟨0, by omega, rfl, hdr1⟩
  case round =>
    obtain ⟨j, hj, rfl, hdr⟩ := hrel
    by_cases hlt : j < n
    · have hst := h.drawn hdr
      have cj := hst.mpt hlt
      have cg := hst.pt hlt
      have jn : (j : Int) < (n : Int) := by omega
      have hs := ptr_neq_same
      go_wp2
      go_quiet (fail)
      go_wp2
      go_roundw
      case rel => exact ⟨j + 1, by omega, by go_num, hdr⟩
      case measure => simp [intOf]; omega
    · go_wp2
      go_ret
      exact ⟨rfl, hdr⟩

theorem bytes_ok (a : Option Addr) (n c : Nat) (mx k cost : Int) (w : World) (h : n ≤ 1048576) :
    Calls Trym.prog 20 #[.int .i64 mx, .slice a n c, .int .i64 k, .int .i64 cost] w fun e w' => e = .returned (.bool true) ∧ w = w' := by
  go_enter Trym.func20, Trym.ntmps20
  go_wp2
  go_ret
  exact ⟨rfl, rfl⟩
theorem bytes_no (a : Option Addr) (n c : Nat) (mx k cost : Int) (w : World) (h : 1048576 < n) :
    Calls Trym.prog 20 #[.int .i64 mx, .slice a n c, .int .i64 k, .int .i64 cost] w fun e w' => e = .returned (.bool false) ∧ w = w' := by
  go_enter Trym.func20, Trym.ntmps20
  go_wp2
  go_ret
  exact ⟨rfl, rfl⟩
end Go.Proofs.Qxb6001373aMods
