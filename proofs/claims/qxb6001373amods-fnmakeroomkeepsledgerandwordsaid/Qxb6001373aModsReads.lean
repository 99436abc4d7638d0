/-
  A room in memory, and the contracts of what only reads it: needFor (33), claims (32), roomFor (31) and its shim (23), ZZPlaceOf (22), ZZRoomOf (15).
-/
import Derived.Test.Qxb6001373aModsBase
import Derived.Test.Qxb6001373aModsPlain
import Derived.LaidEqlPtr
namespace Go.Proofs.Qxb6001373aMods
open Go.RowKit

/-- The cells of a place. -/
def plF (p : Pl) (j : Nat) : Value := if j = 1 then .int .u64 p.la else if j = 2 then .int .i64 p.un else if j = 3 then .int .i64 p.he else if j = 4 then .bool p.wa else if j = 5 then .bool p.ad else .string ⟨#[]⟩
/-- The cells of a room. -/
def rmF (mx hd : Int) (ps : Value) (j : Nat) : Value := if j = 0 then .int .i64 mx else if j = 1 then .int .i64 hd else ps
/-- The pointers to the places. -/
def ptrF (B i : Nat) : Value := .pointer (some ⟨B + 3 + 2 * i, 0, none⟩)

/-- The room as zzBuild lays it: 'mine' at B, 'given' at B+1, place i at B+3+2i, the room at B+2+2n. -/
structure RoomSt (B n : Nat) (mx hd : Int) (st : Nat → Pl) (w : World) : Prop where
  mine : w.rowIs B 35 n (ptrF B)
  given : w.rowIs (B + 1) 35 n (ptrF B)
  place : ∀ i, i < n → w.rowIs (B + 3 + 2 * i) 61 6 (plF (st i))
  room : w.rowIs (B + 2 + 2 * n) 54 3 (rmF mx hd (.slice (some ⟨B + 1, 0, none⟩) n n))

theorem RoomSt.drawn {B n : Nat} {mx hd : Int} {st : Nat → Pl} {w w1 : World} (h : RoomSt B n mx hd st w) (hd' : Drawn w w1) : RoomSt B n mx hd st w1 :=
  ⟨hd'.row h.mine, hd'.row h.given, fun i hi => hd'.row (h.place i hi), hd'.row h.room⟩
theorem RoomSt.below {B n D : Nat} {mx hd : Int} {st : Nat → Pl} {w w1 : World} (h : RoomSt B n mx hd st w) (hb : Below D w w1) (hD : B + 3 + 2 * n ≤ D) : RoomSt B n mx hd st w1 :=
  ⟨below_row hb h.mine (by omega), below_row hb h.given (by omega), fun i hi => below_row hb (h.place i hi) (by omega), below_row hb h.room (by omega)⟩

section
variable {B n : Nat} {mx hd : Int} {st : Nat → Pl} {w : World} {i : Nat}
theorem RoomSt.la (h : RoomSt B n mx hd st w) (hi : i < n) : w.cell? ⟨B + 3 + 2 * i, 1, none⟩ = some (.int .u64 (st i).la) := (h.place i hi).cell (i := 1) (by omega)
theorem RoomSt.un (h : RoomSt B n mx hd st w) (hi : i < n) : w.cell? ⟨B + 3 + 2 * i, 2, none⟩ = some (.int .i64 (st i).un) := (h.place i hi).cell (i := 2) (by omega)
theorem RoomSt.he (h : RoomSt B n mx hd st w) (hi : i < n) : w.cell? ⟨B + 3 + 2 * i, 3, none⟩ = some (.int .i64 (st i).he) := (h.place i hi).cell (i := 3) (by omega)
theorem RoomSt.wa (h : RoomSt B n mx hd st w) (hi : i < n) : w.cell? ⟨B + 3 + 2 * i, 4, none⟩ = some (.bool (st i).wa) := (h.place i hi).cell (i := 4) (by omega)
theorem RoomSt.ad (h : RoomSt B n mx hd st w) (hi : i < n) : w.cell? ⟨B + 3 + 2 * i, 5, none⟩ = some (.bool (st i).ad) := (h.place i hi).cell (i := 5) (by omega)
theorem RoomSt.rmx (h : RoomSt B n mx hd st w) : w.cell? ⟨B + 2 + 2 * n, 0, none⟩ = some (.int .i64 mx) := h.room.cell (i := 0) (by omega)
theorem RoomSt.rhd (h : RoomSt B n mx hd st w) : w.cell? ⟨B + 2 + 2 * n, 1, none⟩ = some (.int .i64 hd) := h.room.cell (i := 1) (by omega)
theorem RoomSt.rps (h : RoomSt B n mx hd st w) : w.cell? ⟨B + 2 + 2 * n, 2, none⟩ = some (.slice (some ⟨B + 1, 0, none⟩) n n) := h.room.cell (i := 2) (by omega)
theorem RoomSt.pt (h : RoomSt B n mx hd st w) (hi : i < n) : w.cell? ⟨B + 1, i, none⟩ = some (.pointer (some ⟨B + 3 + 2 * i, 0, none⟩)) := h.given.cell (i := i) hi
theorem RoomSt.mpt (h : RoomSt B n mx hd st w) (hi : i < n) : w.cell? ⟨B, i, none⟩ = some (.pointer (some ⟨B + 3 + 2 * i, 0, none⟩)) := h.mine.cell (i := i) hi
end

theorem wrap64_small {x : Int} (h0 : 0 ≤ x) (h1 : x ≤ 281474976710656) : wrap64 x = x := IntWalk.wrap64_in x ⟨by omega, by omega⟩

set_option maxHeartbeats 400000 in
theorem need_any (B n i : Nat) (mx hd : Int) (st : Nat → Pl) (w : World) (h : RoomSt B n mx hd st w) (hi : i < n) (m0 : 0 ≤ mx) (m1 : mx ≤ 281474976710656) (hok : (st i).ok) :
    Calls Trym.prog 33 #[.pointer (some ⟨B + 2 + 2 * n, 0, none⟩), .pointer (some ⟨B + 3 + 2 * i, 0, none⟩)] w fun e w' => e = .returned (.tuple #[.int .i64 (needV mx (st i)), .bool (fitsB mx (st i))]) ∧ Drawn w w' := by
  have hq0 : 0 ≤ mx / (st i).un := Int.ediv_nonneg m0 (by have := hok.2.2.1; omega)
  have hq1 : mx / (st i).un ≤ mx := Int.ediv_le_self _ m0
  have ok2 := hok
  obtain ⟨o1, o2, o3, o4, _, _⟩ := hok
  have c1 := h.la hi
  have c2 := h.un hi
  have r0 := h.rmx
  have hfd : fitsB mx (st i) = true ∨ fitsB mx (st i) = false := by cases fitsB mx (st i) <;> simp
  rcases hfd with hf | hf
  · have hlt : (st i).la < mx / (st i).un := of_decide_eq_true hf
    have nb := need_fits ok2 hf
    have HV : Hid (needV mx (st i) = wrap64 (((st i).la + 1) * (st i).un)) := by
      show needV mx (st i) = _
      unfold needV
      rw [if_pos hf, wrap64_small nb.1 (by omega)]
    have HF : Hid (fitsB mx (st i) = true) := hf
    clear hf nb ok2
    go_enter Trym.func33, Trym.ntmps33
    go_wp2
    go_quiet (fail)
    go_wp2
    go_quiet (fail)
    go_wp2
    go_ret2
    exact ⟨by rw [HV.out, HF.out]; rfl, drawn_refl _⟩
  · have hge : mx / (st i).un ≤ (st i).la := by have := of_decide_eq_false hf; omega
    have HV : Hid (needV mx (st i) = mx) := by
      show needV mx (st i) = _
      unfold needV
      rw [if_neg (by rw [hf]; simp)]
    have HF : Hid (fitsB mx (st i) = false) := hf
    clear hf ok2
    go_enter Trym.func33, Trym.ntmps33
    go_wp2
    go_quiet (fail)
    go_wp2
    go_ret2
    exact ⟨by rw [HV.out, HF.out]; rfl, drawn_refl _⟩

set_option maxHeartbeats 400000 in
theorem claims_any (B n i : Nat) (mx hd : Int) (st : Nat → Pl) (w : World) (h : RoomSt B n mx hd st w) (hi : i < n) (m0 : 0 ≤ mx) (m1 : mx ≤ 281474976710656) (hok : (st i).ok) :
    Calls Trym.prog 32 #[.pointer (some ⟨B + 2 + 2 * n, 0, none⟩), .pointer (some ⟨B + 3 + 2 * i, 0, none⟩)] w fun e w' => e = .returned (.bool (claimB mx (st i))) ∧ Drawn w w' := by
  have hw : (st i).wa = true ∨ (st i).wa = false := by cases (st i).wa <;> simp
  have ha : (st i).ad = true ∨ (st i).ad = false := by cases (st i).ad <;> simp
  have c4 := h.wa hi
  have c5 := h.ad hi
  rcases hw with hw | hw
  · rw [hw] at c4
    have HC : Hid (claimB mx (st i) = false) := by simp [Hid, claimB, hw]
    clear hw
    go_enter Trym.func32, Trym.ntmps32
    go_wp2_with (go_at_call 33; refine (need_any B n i mx hd st _ h hi m0 m1 hok).mono ?_; rintro e w1 ⟨rfl, hdr⟩; have c4' := (hdr.cell ⟨B + 3 + 2 * i, 4, none⟩).trans c4)
    go_ret
    exact ⟨by rw [HC.out]; rfl, hdr⟩
  · rw [hw] at c4
    rcases ha with ha | ha
    · rw [ha] at c5
      have HC : Hid (claimB mx (st i) = false) := by simp [Hid, claimB, hw, ha]
      clear hw ha
      go_enter Trym.func32, Trym.ntmps32
      go_wp2_with (go_at_call 33; refine (need_any B n i mx hd st _ h hi m0 m1 hok).mono ?_; rintro e w1 ⟨rfl, hdr⟩; have c4' := (hdr.cell ⟨B + 3 + 2 * i, 4, none⟩).trans c4; have c5' := (hdr.cell ⟨B + 3 + 2 * i, 5, none⟩).trans c5)
      go_ret
      exact ⟨by rw [HC.out]; rfl, hdr⟩
    · rw [ha] at c5
      have HC : Hid (claimB mx (st i) = fitsB mx (st i)) := by simp [Hid, claimB, hw, ha]
      clear hw ha
      go_enter Trym.func32, Trym.ntmps32
      go_wp2_with (go_at_call 33; refine (need_any B n i mx hd st _ h hi m0 m1 hok).mono ?_; rintro e w1 ⟨rfl, hdr⟩; have c4' := (hdr.cell ⟨B + 3 + 2 * i, 4, none⟩).trans c4; have c5' := (hdr.cell ⟨B + 3 + 2 * i, 5, none⟩).trans c5)
      go_ret
      exact ⟨by rw [HC.out]; rfl, hdr⟩

theorem placeOf_any (B n i : Nat) (mx hd : Int) (st : Nat → Pl) (w : World) (h : RoomSt B n mx hd st w) (hi : i < n) :
    Calls Trym.prog 22 #[.pointer (some ⟨B + 3 + 2 * i, 0, none⟩)] w fun e w' => e = .returned (.tuple #[.int .u64 (st i).la, .int .i64 (st i).un, .int .i64 (st i).he, .bool (st i).wa, .bool (st i).ad]) ∧ Drawn w w' := by
  have c1 := h.la hi
  have c2 := h.un hi
  have c3 := h.he hi
  have c4 := h.wa hi
  have c5 := h.ad hi
  go_enter Trym.func22, Trym.ntmps22
  go_wp2
  go_quiet (fail)
  go_wp2
  exact bodyPost_ret (v := .tuple #[.int .u64 (st i).la, .int .i64 (st i).un, .int .i64 (st i).he, .bool (st i).wa, .bool (st i).ad]) (by simp [results, Trym.results22, go_sem]) rfl ⟨rfl, drawn_refl _⟩

theorem roomOf_any (B n : Nat) (mx hd : Int) (st : Nat → Pl) (w : World) (h : RoomSt B n mx hd st w) :
    Calls Trym.prog 15 #[.pointer (some ⟨B + 2 + 2 * n, 0, none⟩)] w fun e w' => e = .returned (.tuple #[.int .i64 mx, .int .i64 hd, .slice (some ⟨B + 1, 0, none⟩) n n]) ∧ Drawn w w' := by
  have c0 := h.rmx
  have c1 := h.rhd
  have c2 := h.rps
  go_enter Trym.func15, Trym.ntmps15
  go_wp2
  go_quiet (fail)
  go_wp2
  go_ret3
  exact ⟨rfl, drawn_refl _⟩

/-- Every place is as the laws suppose; the ledger is within its bounds. -/
structure Good (n : Nat) (mx hd : Int) (st : Nat → Pl) : Prop where
  n1 : n ≤ 4096
  m0 : 0 ≤ mx
  m1 : mx ≤ 281474976710656
  h0 : 0 ≤ hd
  h1 : hd ≤ 1152921504606846976
  ok : ∀ i, i < n → (st i).ok

theorem Trym.info61 : (Trym.prog.info? 61).map (·.size) = some 6 := by kernel_rfl
theorem ptr_eql_same (a : Addr) (w : World) : (binOp .eql 35 (.pointer (some a)) (.pointer (some a))).run Trym.prog w = .ok (.bool true) w := by
  cases hq : Trym.prog.info? 61 with
  | none => have := Trym.info61; simp [hq] at this
  | some j => exact run_eql_ptr_same w a Trym.underlying35 hq
theorem neq_of_eql {x y : Value} {b : Bool} {w : World} (h : (binOp .eql 35 x y).run Trym.prog w = .ok (.bool b) w) (hx : (∃ a, x = .pointer a) ∧ ∃ a, y = .pointer a) : (binOp .neq 35 x y).run Trym.prog w = .ok (.bool (!b)) w := by
  obtain ⟨⟨a, rfl⟩, c, rfl⟩ := hx
  simp only [binOp] at h ⊢
  cases hr : (Op.equal 35 (.pointer a) (.pointer c)).run Trym.prog w with
  | ok v w' =>
    simp [hr] at h
    obtain ⟨rfl, rfl⟩ := h
    simp [hr]
  | halt x w' => simp [hr] at h
section
variable {B n : Nat} {mx hd : Int} {st : Nat → Pl} {w : World} {i k : Nat}
theorem RoomSt.eql_other (h : RoomSt B n mx hd st w) (hi : i < n) (hk : k < n) (hne : i ≠ k) : (binOp .eql 35 (.pointer (some ⟨B + 3 + 2 * i, 0, none⟩)) (.pointer (some ⟨B + 3 + 2 * k, 0, none⟩))).run Trym.prog w = .ok (.bool false) w := by
  obtain ⟨ci, h1, _⟩ := h.place i hi
  obtain ⟨ck, h2, _⟩ := h.place k hk
  cases hq : Trym.prog.info? 61 with
  | none => have := Trym.info61; simp [hq] at this
  | some j =>
    have hsz : j.size = 6 := by have := Trym.info61; simpa [hq] using this
    exact run_eql_ptr_other w Trym.underlying35 hq (by omega) (by intro e; injection e; omega) h1 h2
theorem RoomSt.neq_other (h : RoomSt B n mx hd st w) (hi : i < n) (hk : k < n) (hne : i ≠ k) : (binOp .neq 35 (.pointer (some ⟨B + 3 + 2 * i, 0, none⟩)) (.pointer (some ⟨B + 3 + 2 * k, 0, none⟩))).run Trym.prog w = .ok (.bool true) w :=
  neq_of_eql (h.eql_other hi hk hne) ⟨⟨_, rfl⟩, _, rfl⟩
end
theorem ptr_neq_same (a : Addr) (w : World) : (binOp .neq 35 (.pointer (some a)) (.pointer (some a))).run Trym.prog w = .ok (.bool false) w :=
  neq_of_eql (ptr_eql_same a w) ⟨⟨_, rfl⟩, _, rfl⟩

theorem rf_skip {mx hd : Int} {st : Nat → Pl} {k i : Nat} (h : ¬ (i ≠ k ∧ claimB mx (st i) = true)) : rf mx hd st k (i + 1) = rf mx hd st k i := by
  show (if _ then _ else _) = _
  rw [if_neg h]
theorem rf_take {mx hd : Int} {st : Nat → Pl} {k i : Nat} (h : i ≠ k ∧ claimB mx (st i) = true) : rf mx hd st k (i + 1) = rf mx hd st k i - (needV mx (st i) - (st i).he) := by
  show (if _ then _ else _) = _
  rw [if_pos h]

set_option maxHeartbeats 400000 in
theorem roomFor_any (B n k : Nat) (mx hd : Int) (st : Nat → Pl) (w : World) (h : RoomSt B n mx hd st w) (hk : k < n) (hg : Good n mx hd st) :
    Calls Trym.prog 31 #[.pointer (some ⟨B + 2 + 2 * n, 0, none⟩), .pointer (some ⟨B + 3 + 2 * k, 0, none⟩)] w fun e w' => e = .returned (.int .i64 (rf mx hd st k n)) ∧ Drawn w w' := by
  have c0 := h.rmx
  have c1 := h.rhd
  obtain ⟨n1, m0, m1, h0, h1, hok⟩ := hg
  go_enter Trym.func31, Trym.ntmps31
  go_wp2
  go_quiet (fail)
  have c2 := h.rps
  go_wp2
  go_loopw [5, 24] (fun r i wr => ∃ j : Nat, j ≤ n ∧ i = .int .i64 j ∧ r = .int .i64 (rf mx hd st k j) ∧ Drawn w wr) (fun _ i _ => n - (intOf i).toNat)
  case atStart => exact ⟨0, by omega, rfl, rfl, drawn_refl _⟩
  case round =>
    obtain ⟨j, hj, rfl, rfl, hdr⟩ := hrel
    by_cases hlt : j < n
    · have hst := h.drawn hdr
      have cj := hst.pt hlt
      have jn : (j : Int) < (n : Int) := by omega
      by_cases hjk : j = k
      · subst hjk
        have hs := ptr_neq_same
        have HR : Hid _ := rf_skip (mx := mx) (hd := hd) (st := st) (k := j) (i := j) (by simp)
        go_wp2
        go_roundw
        case rel => exact ⟨j + 1, by omega, by go_num, by rw [HR.out], hdr⟩
        case measure => simp [intOf]; omega
      · have hne := hst.neq_other hlt hk hjk
        have okj := hok j hlt
        have hcl : claimB mx (st j) = true ∨ claimB mx (st j) = false := by cases claimB mx (st j) <;> simp
        rcases hcl with hcl | hcl
        · have HR : Hid _ := rf_take (mx := mx) (hd := hd) (st := st) (k := k) (i := j) ⟨hjk, hcl⟩
          have nb := need_bd m0 okj
          have hb := rf_bd (k := k) m0 m1 h0 h1 j (fun i hi => hok i (by omega))
          have b1 : -2305843009213693952 ≤ rf mx hd st k j := by omega
          have b2 : rf mx hd st k j ≤ 2305843009213693952 := by omega
          obtain ⟨_, _, _, _, p5, p6⟩ := okj
          have okj := hok j hlt
          clear hb
          go_wp2_with (first | (go_at_call 32; refine (claims_any B n j mx hd st _ hst hlt m0 m1 okj).mono ?_; rintro e w2 ⟨rfl, hdr2⟩; rw [hcl]; have hst2 := hst.drawn hdr2) | (go_at_call 33; refine (need_any B n j mx hd st _ hst2 hlt m0 m1 okj).mono ?_; rintro e w3 ⟨rfl, hdr3⟩; have c3 := (hst2.drawn hdr3).he hlt))
          go_roundw
          case rel => exact ⟨j + 1, by omega, by go_num, by rw [HR.out], hdr.trans (hdr2.trans hdr3)⟩
          case measure => simp [intOf]; omega
        · have HR : Hid _ := rf_skip (mx := mx) (hd := hd) (st := st) (k := k) (i := j) (by rw [hcl]; simp)
          go_wp2_with (go_at_call 32; refine (claims_any B n j mx hd st _ hst hlt m0 m1 okj).mono ?_; rintro e w2 ⟨rfl, hdr2⟩; rw [hcl])
          go_roundw
          case rel => exact ⟨j + 1, by omega, by go_num, by rw [HR.out], hdr.trans hdr2⟩
          case measure => simp [intOf]; omega
    · have hjn : j = n := by omega
      subst hjn
      go_wp2
      go_ret
      exact ⟨rfl, hdr⟩

theorem zzRoomFor_any (B n k : Nat) (mx hd : Int) (st : Nat → Pl) (w : World) (h : RoomSt B n mx hd st w) (hk : k < n) (hg : Good n mx hd st) :
    Calls Trym.prog 23 #[.pointer (some ⟨B + 2 + 2 * n, 0, none⟩), .pointer (some ⟨B + 3 + 2 * k, 0, none⟩)] w fun e w' => e = .returned (.int .i64 (rf mx hd st k n)) ∧ Drawn w w' := by
  go_enter Trym.func23, Trym.ntmps23
  go_wp2_with (go_at_call 31; refine (roomFor_any B n k mx hd st w h hk hg).mono ?_; rintro e w1 ⟨rfl, hdr⟩)
  go_ret
  exact ⟨rfl, hdr⟩
end Go.Proofs.Qxb6001373aMods
