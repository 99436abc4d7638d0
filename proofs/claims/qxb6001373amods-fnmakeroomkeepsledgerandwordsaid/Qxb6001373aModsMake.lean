/-
  The contract of makeRoom (30) and of its shim (21).
-/
import Derived.Test.Qxb6001373aModsWrites
namespace Go.Proofs.Qxb6001373aMods
open Go.RowKit

theorem Trym.info35m : (Trym.prog.info? 35).map (fun i => (i.zero, i.size, i.bytes)) = some (some (.pointer none), 1, 8) := by kernel_rfl

/-- What is owned stays owned where its blocks stand. -/
theorem owns_of_blocks {w w1 : World} {base : Nat} {e : TypeId} {size : Nat} {v : Value} {n : Nat} {xs : List Value} (h : w.ownsRow base e size v n xs) (hk : ∀ b, base ≤ b → w1.heap[b]? = w.heap[b]?) : w1.ownsRow base e size v n xs := by
  obtain ⟨h1, h2⟩ := h
  refine ⟨h1, ?_⟩
  rcases h2 with h2 | ⟨g, cap, cur, hv, hg, hh, r⟩
  · exact .inl h2
  · exact .inr ⟨g, cap, cur, hv, hg, (hk g hg).trans hh, r⟩

theorem own_ge {w : World} {base : Nat} {e : TypeId} {size : Nat} {v : Value} {n : Nat} {xs : List Value} (h : w.ownsRow base e size v n xs) (k : Nat) (hk : v.ownBlock = some k) : base ≤ k := by
  rcases h.2 with ⟨rfl, _⟩ | ⟨g, cap, cur, rfl, hg, _⟩
  · cases hk
  · cases hk; exact hg

/-- A place that was let go. -/
def Gone (p : Pl) : Prop := p.he = 0 ∧ p.wa = true ∧ p.ad = false
theorem gone_letP (p : Pl) : Gone (letP p) := ⟨rfl, rfl, rfl⟩

/-- The places that were stopped: behind x, each let go. -/
def Stopped (n x : Nat) (st : Nat → Pl) (js : List Nat) : Prop := js.length + x + 1 ≤ n ∧ ∀ j ∈ js, x < j ∧ j < n ∧ Gone (st j)

theorem stopped_next {n x : Nat} {st : Nat → Pl} {js : List Nat} (h : Stopped n (x + 1) st js) (p : Pl) (hp : Gone p) (hx : x + 1 < n) : Stopped n x (upd st (x + 1) p) (js ++ [x + 1]) := by
  refine ⟨by have := h.1; simp; omega, fun j hj => ?_⟩
  rcases List.mem_append.1 hj with hj | hj
  · obtain ⟨h1, h2, h3⟩ := h.2 j hj
    exact ⟨by omega, h2, by rw [upd_other _ _ _ _ (by omega)]; exact h3⟩
  · have : j = x + 1 := by simpa using hj
    subst this
    exact ⟨by omega, hx, by rw [upd_same]; exact hp⟩
theorem stopped_skip {n x : Nat} {st : Nat → Pl} {js : List Nat} (h : Stopped n (x + 1) st js) : Stopped n x st js :=
  ⟨by have := h.1; omega, fun j hj => ⟨by have := (h.2 j hj).1; omega, (h.2 j hj).2⟩⟩

theorem good_let {n : Nat} {mx : Int} {st : Nat → Pl} {i : Nat} (h : Good n mx (sumH st n) st) (hi : i < n) : sumH (upd st i (letP (st i))) n = sumH st n - (st i).he ∧ Good n mx (sumH (upd st i (letP (st i))) n) (upd st i (letP (st i))) := by
  have e : sumH (upd st i (letP (st i))) n = sumH st n - (st i).he := by
    rw [sumH_upd, if_pos hi]; show _ + (0 - _) = _; omega
  have hok : ∀ j, j < n → (upd st i (letP (st i)) j).ok := fun j hj => by
    by_cases q : j = i
    · subst q; rw [upd_same]; exact letP_ok (h.ok j hj)
    · rw [upd_other _ _ _ _ q]; exact h.ok j hj
  have hb := sumH_bd n hok
  have hn := h.n1
  exact ⟨e, h.n1, h.m0, h.m1, hb.1, by omega, hok⟩

/-- A place with its unit raised. -/
def raise (p : Pl) (c : Int) : Pl := { p with un := if p.un < c then c else p.un }
theorem good_raise {n : Nat} {mx : Int} {st : Nat → Pl} {k : Nat} {c : Int} (h : Good n mx (sumH st n) st) (hk : k < n) (hc : c ≤ 9223372036854775807) : sumH (upd st k (raise (st k) c)) n = sumH st n ∧ Good n mx (sumH (upd st k (raise (st k) c)) n) (upd st k (raise (st k) c)) := by
  have e : sumH (upd st k (raise (st k) c)) n = sumH st n := by
    rw [sumH_upd, if_pos hk]; show _ + ((st k).he - (st k).he) = _; omega
  refine ⟨e, h.n1, h.m0, h.m1, by rw [e]; exact h.h0, by rw [e]; exact h.h1, fun j hj => ?_⟩
  by_cases q : j = k
  · subst q
    rw [upd_same]
    obtain ⟨h1, h2, h3, h4, h5, h6⟩ := h.ok j hj
    refine ⟨h1, h2, ?_, ?_, h5, h6⟩
    · unfold raise; dsimp only; split <;> omega
    · unfold raise; dsimp only; split <;> omega
  · rw [upd_other _ _ _ _ q]; exact h.ok j hj
theorem plF_unit (p : Pl) (c v : Int) (j : Nat) (hv : v = (if p.un < c then c else p.un)) : (if j = 2 then Value.int .i64 v else plF p j) = plF (raise p c) j := by
  rw [hv]; unfold plF raise
  by_cases e : j = 2
  · subst e; rfl
  · rw [if_neg e]; simp [e]

theorem run_max (a b : Int) (w : World) : (Builtin.max_ #[3, 3] 3 #[.int .i64 a, .int .i64 b]).run Trym.prog w = .ok (.int .i64 (if a < b then b else a)) w := by
  by_cases h : a < b
  · rw [if_pos h]; simp [Builtin.max_, Builtin.max2, go_sem, h]
  · rw [if_neg h]; simp [Builtin.max_, Builtin.max2, go_sem, h]

theorem wpList_max_int {ops : Array Oper} {rest : List Oper} {o : Oper} {a : Act} {w : World} {Q : Exit → Act → World → Prop} (hgd : o.guard = none) (x y : Operand) (ho : o.op = .call { callee := .builtin .max, args := #[x, y], argTypes := #[3, 3] }) (hty : o.type = 3)
    (A C : Int) (hx : a.eval x = .int .i64 A) (hy : a.eval y = .int .i64 C) (h : wpList Trym.prog ops Q rest (a.put o.dst (.int .i64 (if A < C then C else A))) w) : wpList Trym.prog ops Q (o :: rest) a w := by
  refine wpList_plain hgd fun K hK => ?_
  have hrun := run_max A C w
  unfold Oper.wp
  simp [execOp, ho, hty, resolve, invoke, builtin, hx, hy, hrun, Result.andThen]
  exact hK _ _ h

theorem RoomSt.raise {B n k : Nat} {mx hd : Int} {st : Nat → Pl} {w w1 : World} {M c : Int} (h : RoomSt B n mx hd st w) (hr : w1.rowIs (B + 3 + 2 * k) 61 6 (fun j => if j = 2 then Value.int .i64 M else plF (st k) j)) (ho : Only (B + 3 + 2 * k) w w1) (hk : k < n) (hM : (if (st k).un < c then c else (st k).un) = M) :
    RoomSt B n mx hd (upd st k (Qxb6001373aMods.raise (st k) c)) w1 := by
  refine ⟨ho.row h.mine (by omega), ho.row h.given (by omega), fun j hj => ?_, ho.row h.room (by omega)⟩
  by_cases e : j = k
  · subst e
    rw [upd_same]
    exact hr.congr (fun i _ => plF_unit (st j) c M i hM.symm)
  · rw [upd_other _ _ _ _ e]
    exact ho.row (h.place j hj) (by omega)

/-- What makeRoom hands back. -/
def MakePost (B n k : Nat) (mx cost : Int) (st : Nat → Pl) (w : World) (e : Ending) (w' : World) : Prop :=
  ∃ (v : Value) (made : Bool) (st' : Nat → Pl) (js : List Nat), e = .returned (.tuple #[v, .bool made]) ∧ RoomSt B n mx (sumH st' n) st' w' ∧ Good n mx (sumH st' n) st' ∧ w'.ownsRow (B + 3 + 2 * n) 35 1 v js.length (js.map (ptrF B)) ∧ js.length ≤ n ∧ (∀ j ∈ js, j ≠ k ∧ j < n ∧ Gone (st' j)) ∧
    (made = true → cost ≤ rf mx (sumH st' n) st' k n) ∧ (made = false → Gone (st' k)) ∧ cost ≤ (st' k).un ∧ (st k).un ≤ (st' k).un ∧ Below B w w'

set_option maxHeartbeats 4000000 in
theorem make_any (B n k : Nat) (mx cost : Int) (st : Nat → Pl) (w : World) (h : RoomSt B n mx (sumH st n) st w) (hk : k < n) (hg : Good n mx (sumH st n) st) (hc1 : cost ≤ 9223372036854775807) (hsz : B + 3 + 2 * n ≤ w.heap.size) :
    Calls Trym.prog 30 #[.pointer (some ⟨B + 2 + 2 * n, 0, none⟩), .pointer (some ⟨B + 3 + 2 * k, 0, none⟩), .int .i64 cost] w fun e w' => MakePost B n k mx cost st w e w' := by
  have c2 := h.un hk
  obtain ⟨i0, hi, hz0, hz1, hz2⟩ := info_parts Trym.info35m
  obtain ⟨M, hM⟩ : ∃ M, (if (st k).un < cost then cost else (st k).un) = M := ⟨_, rfl⟩
  obtain ⟨eG, hG⟩ := good_raise hg hk hc1
  have hnM : cost ≤ M ∧ (st k).un ≤ M := by rw [← hM]; split <;> omega
  have n1 := hG.n1
  have HM : Hid ((if (st k).un < cost then cost else (st k).un) = M) := hM
  clear hM hg
  go_enter Trym.func30, Trym.ntmps30
  go_wp2_with (first | (refine wpList_max_int rfl (.tmp 15) (.tmp 16) rfl rfl (st k).un cost rfl rfl ?_; rw [HM.out]) | (refine wpList_store_cell rfl 3 (.tmp 19) (.tmp 17) rfl (B + 3 + 2 * k) 2 6 _ (.int .i64 M) rfl rfl rfl 61 (h.place k hk) (by omega) Trym.info3s ?_; intro w1 hr1 ho1))
  have hst1 := h.raise (c := cost) hr1 ho1 hk HM.out
  have hun : (upd st k (raise (st k) cost) k).un = M := by rw [upd_same]; exact HM.out
  rw [← eG] at hst1
  generalize hs1 : upd st k (raise (st k) cost) = s1 at hst1 hun hG eG
  have Hun : Hid ((s1 k).un = M) := hun
  have hb1 : Below B w w1 := ho1.below (by omega)
  have hz1' : B + 3 + 2 * n ≤ w1.heap.size := by rw [ho1.size]; exact hsz
  clear hr1 ho1 c2 h hs1 eG hun HM hsz
  refine (claims_any B n k mx _ s1 w1 hst1 hk hG.m0 hG.m1 (hG.ok k hk)).mono ?_
  rintro e w2 ⟨rfl, hdr2⟩
  generalize claimB mx (s1 k) = cl
  have hst2 := hst1.drawn hdr2
  have cps := hst2.rps
  go_wp2
  go_loopw [6, 9] (fun v i wr => ∃ (x : Nat) (st' : Nat → Pl) (js : List Nat), k ≤ x ∧ x < n ∧ i = .int .i64 x ∧ RoomSt B n mx (sumH st' n) st' wr ∧ Good n mx (sumH st' n) st' ∧ st' k = s1 k ∧ wr.ownsRow (B + 3 + 2 * n) 35 1 v js.length (js.map (ptrF B)) ∧ Stopped n x st' js ∧ Below B w wr ∧ B + 3 + 2 * n ≤ wr.heap.size) (fun _ i _ => (intOf i).toNat)
  case atStart => exact ⟨n - 1, s1, [], by omega, by omega, by go_num, hst2, hG, rfl, World.ownsRow_nil _ _ _ _, ⟨by simp; omega, fun j hj => by cases hj⟩, hb1.trans (hdr2.below _), by rw [hdr2.size]; exact hz1'⟩
  case round =>
    clear hst1 hG hb1 hz1' hst2 cps hdr2
    obtain ⟨x, s2, js, hkx, hxn, rfl, hst, hg2, hsk, hown, hstp, hbl, hsw⟩ := hrel
    have Hsk : Hid (s2 k = s1 k) := hsk
    clear hsk
    have okk := hg2.ok k hk
    by_cases hcost : cost ≤ rf mx (sumH s2 n) s2 k n
    · go_wp2_with (go_at_call 31; refine (roomFor_any B n k mx _ s2 wr hst hk hg2).mono ?_; rintro e w3 ⟨rfl, hdr3⟩)
      go_ret2
      exact ⟨_, true, s2, js, rfl, hst.drawn hdr3, hg2, owns_of_blocks hown (fun b _ => by rw [hdr3.2.2.2]), by have := hstp.1; omega, fun j hj => ⟨by have := (hstp.2 j hj).1; omega, (hstp.2 j hj).2⟩, fun _ => hcost, (fun h => by cases h), by rw [Hsk.out, Hun.out]; exact hnM.1, by rw [Hsk.out, Hun.out]; exact hnM.2, hbl.trans (hdr3.below _)⟩
    · by_cases hxk : x = k
      · have hs : ∀ w, (binOp .eql 35 (.pointer (some ⟨B + 3 + 2 * x, 0, none⟩)) (.pointer (some ⟨B + 3 + 2 * k, 0, none⟩))).run Trym.prog w = .ok (.bool true) w := by rw [hxk]; exact ptr_eql_same _
        have Hxk : Hid (x = k) := hxk
        clear hxk
        go_wp2_with (first | (go_at_call 31; refine (roomFor_any B n k mx _ s2 wr hst hk hg2).mono ?_; rintro e w3 ⟨rfl, hdr3⟩; have hst3 := hst.drawn hdr3; have cps := hst3.rps; have cpt := hst3.pt hxn) | (go_at_call 34; refine (letGo_any B n k mx _ s2 w3 hst3 hk hg2).mono ?_; rintro e w4 ⟨rfl, hst4, hb4, hs4, hk4⟩))
        go_ret2
        obtain ⟨eS, hg4⟩ := good_let hg2 hk
        refine ⟨_, false, upd s2 k (letP (s2 k)), js, rfl, by rw [eS]; exact hst4, hg4, owns_of_blocks hown (fun b hb => (hk4 b hb).trans (by rw [hdr3.2.2.2])), by have := hstp.1; omega, fun j hj => ?_, (fun h => by cases h), (fun _ => by rw [upd_same]; exact gone_letP _), ?_, ?_, hbl.trans ((hdr3.below _).trans hb4)⟩
        · have q := hstp.2 j hj
          have hx := Hxk.out
          exact ⟨by omega, q.2.1, by rw [upd_other _ _ _ _ (by omega)]; exact q.2.2⟩
        · rw [upd_same]; show cost ≤ (s2 k).un; rw [Hsk.out, Hun.out]; exact hnM.1
        · rw [upd_same]; show _ ≤ (s2 k).un; rw [Hsk.out, Hun.out]; exact hnM.2
      · obtain ⟨y, rfl⟩ : ∃ y, x = y + 1 := ⟨x - 1, by omega⟩
        have okx := hg2.ok (y + 1) hxn
        have yn : (y : Int) + 1 < (n : Int) := by omega
        have hcq : (claimB mx (s2 (y + 1)) = true ∧ cl = false) ∨ (claimB mx (s2 (y + 1)) = true ∧ cl = true) ∨ claimB mx (s2 (y + 1)) = false := by cases claimB mx (s2 (y + 1)) <;> cases cl <;> simp
        rcases hcq with ⟨hcq, rfl⟩ | ⟨hcq, rfl⟩ | hcq
        · go_wp2_with (first | (go_at_call 31; refine (roomFor_any B n k mx _ s2 wr hst hk hg2).mono ?_; rintro e w3 ⟨rfl, hdr3⟩; have hst3 := hst.drawn hdr3; have cps := hst3.rps; have cpt := hst3.pt hxn; have heq := hst3.eql_other hxn hk hxk) | (go_at_call 32; refine (claims_any B n (y + 1) mx _ s2 w3 hst3 hxn hg2.m0 hg2.m1 okx).mono ?_; rintro e w4 ⟨rfl, hdr4⟩; rw [hcq]))
          go_roundw
          case rel => exact ⟨y, s2, js, by omega, by omega, by go_num, hst3.drawn hdr4, hg2, Hsk.out, owns_of_blocks hown (fun b _ => by rw [hdr4.2.2.2, hdr3.2.2.2]), stopped_skip hstp, hbl.trans ((hdr3.below _).trans (hdr4.below _)), by rw [hdr4.size, hdr3.size]; exact hsw⟩
          case measure => simp [intOf]
        all_goals
          obtain ⟨eS, hg5⟩ := good_let hg2 hxn
          have hjl := hstp.1
          go_wp2_with (first | (go_at_call 31; refine (roomFor_any B n k mx _ s2 wr hst hk hg2).mono ?_; rintro e w3 ⟨rfl, hdr3⟩; have hst3 := hst.drawn hdr3; have cps := hst3.rps; have cpt := hst3.pt hxn; have heq := hst3.eql_other hxn hk hxk) | (go_at_call 32; refine (claims_any B n (y + 1) mx _ s2 w3 hst3 hxn hg2.m0 hg2.m1 okx).mono ?_; rintro e w4 ⟨rfl, hdr4⟩; rw [hcq]; have hst4 := hst3.drawn hdr4) | (go_at_call 34; refine (letGo_any B n (y + 1) mx _ s2 w4 hst4 hxn hg2).mono ?_; rintro e w5 ⟨rfl, hst5, hb5, hs5, hk5⟩; have hown5 := owns_of_blocks (w1 := w5) hown (fun b hb => (hk5 b hb).trans (by rw [hdr4.2.2.2, hdr3.2.2.2])); have hs5' : B + 3 + 2 * n ≤ w5.heap.size := (by rw [hs5, hdr4.size, hdr3.size]; exact hsw); clear hs5) | (at_builtin; refine wpList_append_own _ rfl (.tmp 62) (.tmp 64) 25 rfl (B + 3 + 2 * n) 35 i0 (.pointer none) 1 8 Trym.underlying25 hi hz0 hz1 hz2 rfl (by decide) _ js.length (js.map (ptrF B)) rfl (hown5.alloc _) ⟨w5.heap.size, 0, none⟩ 1 1 [.pointer (some ⟨B + 3 + 2 * (y + 1), 0, none⟩)] rfl rfl (cell_one_new _ _ _) (by intro u hu; simp at hu; subst hu; rfl) (by unfold maxLen; omega) (by omega) (by simp; omega) ?_; intro v6 w6 hown6 hgr6 _))
          have hb6 : Below (B + 3 + 2 * n) w5 w6 := ((Below.refl (B + 3 + 2 * n) w5).alloc hs5' _).grown hgr6 (by simp; omega) (own_ge hown5)
          go_roundw
          case rel => exact ⟨y, upd s2 (y + 1) (letP (s2 (y + 1))), js ++ [y + 1], by omega, by omega, by go_num, by rw [eS]; exact hst5.below hb6 (Nat.le_refl _), hg5, by rw [upd_other _ _ _ _ (by omega)]; exact Hsk.out, by simpa [ptrF] using hown6, stopped_next hstp _ (gone_letP _) hxn, hbl.trans ((hdr3.below _).trans ((hdr4.below _).trans (hb5.trans (hb6.mono (by omega))))), Nat.le_trans hs5' hb6.size⟩
          case measure => simp [intOf]

theorem zzMake_any (B n k : Nat) (mx cost : Int) (st : Nat → Pl) (w : World) (h : RoomSt B n mx (sumH st n) st w) (hk : k < n) (hg : Good n mx (sumH st n) st) (hc1 : cost ≤ 9223372036854775807) (hsz : B + 3 + 2 * n ≤ w.heap.size) :
    Calls Trym.prog 21 #[.pointer (some ⟨B + 2 + 2 * n, 0, none⟩), .pointer (some ⟨B + 3 + 2 * k, 0, none⟩), .int .i64 cost] w fun e w' => MakePost B n k mx cost st w e w' := by
  go_enter Trym.func21, Trym.ntmps21
  go_wp2_with (go_at_call 30; refine (make_any B n k mx cost st w h hk hg hc1 hsz).mono ?_; rintro e w1 ⟨v, made, st', js, rfl, hp⟩)
  go_ret2
  exact ⟨v, made, st', js, rfl, hp⟩
end Go.Proofs.Qxb6001373aMods
