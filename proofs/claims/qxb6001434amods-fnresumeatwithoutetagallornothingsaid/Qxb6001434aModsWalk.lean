/-
  The walks of resumeAt (21), of its shim (10), of zzBytes (11) and of the law (4).
-/
import Derived.Test.Qxb6001434aModsRows
import Derived.WalkKit
import Derived.ProofKit
import Derived.WalkSpells
import Derived.WalkLawsBesides
import Derived.Outline
namespace Go.Proofs.Qxb6001434aMods
open Go.RowKit

/-- The lesser of two. -/
def minV (a b : Int) : Int := if b < a then b else a
/-- What resumeAt answers without an ETag; k0: what is kept. -/
def resV (k0 size have_ : Int) : Int :=
  if 0 ≤ size then (if (minV (minV k0 have_) size != size) = true then 0 else minV (minV k0 have_) size)
  else if (minV k0 have_ != size) = true then 0 else minV k0 have_

theorem resV_or (k0 size have_ : Int) : resV k0 size have_ = 0 ∨ resV k0 size have_ = size := by
  unfold resV
  split
  · split
    · exact .inl rfl
    · right; rename_i h; simpa using h
  · split
    · exact .inl rfl
    · right; rename_i h; simpa using h
theorem resV_whole {size have_ : Int} (h0 : 0 ≤ size) (h1 : size ≤ have_) : resV have_ size have_ = size := by
  have e1 : minV have_ have_ = have_ := by unfold minV; split <;> omega
  have e2 : minV have_ size = size := by unfold minV; split <;> omega
  unfold resV
  rw [if_pos h0, e1, e2]
  simp

theorem run_min (a b : Int) (w : World) : (Builtin.min_ #[2, 2] 2 #[.int .i64 a, .int .i64 b]).run Trym.prog w = .ok (.int .i64 (minV a b)) w := by
  unfold minV
  by_cases h : b < a
  · rw [if_pos h]; simp [Builtin.min_, Builtin.min2, go_sem, h]
  · rw [if_neg h]; simp [Builtin.min_, Builtin.min2, go_sem, h]

theorem wpList_min_int {ops : Array Oper} {rest : List Oper} {o : Oper} {a : Act} {w : World} {Q : Exit → Act → World → Prop} (hgd : o.guard = none) (x y : Operand) (ho : o.op = .call { callee := .builtin .min, args := #[x, y], argTypes := #[2, 2] }) (hty : o.type = 2)
    (A C : Int) (hx : a.eval x = .int .i64 A) (hy : a.eval y = .int .i64 C) (h : wpList Trym.prog ops Q rest (a.put o.dst (.int .i64 (minV A C))) w) : wpList Trym.prog ops Q (o :: rest) a w := by
  refine wpList_plain hgd fun K hK => ?_
  have hrun := run_min A C w
  unfold Oper.wp
  simp [execOp, ho, hty, resolve, invoke, builtin, hx, hy, hrun, Result.andThen]
  exact hK _ _ h

set_option maxHeartbeats 1000000 in
theorem resume_yes (size synced have_ : Int) (cb bt : ByteArray) (w : World) (hE : bt.toList.isEmpty = false) (hQ : (bt.toList == cb.toList) = true) :
    Calls Trym.prog 21 #[.agg #[.string ⟨#[]⟩, .int .i64 size, .int .i64 synced, .string cb], .int .i64 have_, .string bt] w fun e w' => e = .returned (.int .i64 (resV have_ size have_)) ∧ Grown w w' := by
  by_cases hs : 0 ≤ size
  · have hq : (minV (minV have_ have_) size != size) = true ∨ (minV (minV have_ have_) size != size) = false := by cases (minV (minV have_ have_) size != size) <;> simp
    rcases hq with hq | hq
    · have HR : Hid (resV have_ size have_ = 0) := by simp only [Hid, resV]; rw [if_pos hs, if_pos hq]
      go_enter Trym.func21, Trym.ntmps21
      go_wp2_with (first | (refine wpList_min_int rfl (.tmp 19) (.tmp 20) rfl rfl _ _ rfl rfl ?_) | (refine wpList_min_int rfl (.tmp 25) (.tmp 27) rfl rfl _ _ rfl rfl ?_))
      go_ret
      exact ⟨by rw [HR.out]; rfl, by repeat (first | exact Grown.refl _ | apply Grown.drew | apply Grown.alloc)⟩
    · have HR : Hid (resV have_ size have_ = minV (minV have_ have_) size) := by simp only [Hid, resV]; rw [if_pos hs, if_neg (by rw [hq]; simp)]
      go_enter Trym.func21, Trym.ntmps21
      go_wp2_with (first | (refine wpList_min_int rfl (.tmp 19) (.tmp 20) rfl rfl _ _ rfl rfl ?_) | (refine wpList_min_int rfl (.tmp 25) (.tmp 27) rfl rfl _ _ rfl rfl ?_))
      go_ret
      exact ⟨by rw [HR.out]; rfl, by repeat (first | exact Grown.refl _ | apply Grown.drew | apply Grown.alloc)⟩
  · have hq : (minV have_ have_ != size) = true ∨ (minV have_ have_ != size) = false := by cases (minV have_ have_ != size) <;> simp
    rcases hq with hq | hq
    · have HR : Hid (resV have_ size have_ = 0) := by simp only [Hid, resV]; rw [if_neg hs, if_pos hq]
      go_enter Trym.func21, Trym.ntmps21
      go_wp2_with (first | (refine wpList_min_int rfl (.tmp 19) (.tmp 20) rfl rfl _ _ rfl rfl ?_) | (refine wpList_min_int rfl (.tmp 25) (.tmp 27) rfl rfl _ _ rfl rfl ?_))
      go_ret
      exact ⟨by rw [HR.out]; rfl, by repeat (first | exact Grown.refl _ | apply Grown.drew | apply Grown.alloc)⟩
    · have HR : Hid (resV have_ size have_ = minV have_ have_) := by simp only [Hid, resV]; rw [if_neg hs, if_neg (by rw [hq]; simp)]
      go_enter Trym.func21, Trym.ntmps21
      go_wp2_with (first | (refine wpList_min_int rfl (.tmp 19) (.tmp 20) rfl rfl _ _ rfl rfl ?_) | (refine wpList_min_int rfl (.tmp 25) (.tmp 27) rfl rfl _ _ rfl rfl ?_))
      go_ret
      exact ⟨by rw [HR.out]; rfl, by repeat (first | exact Grown.refl _ | apply Grown.drew | apply Grown.alloc)⟩

set_option maxHeartbeats 1000000 in
theorem resume_no (size synced have_ : Int) (cb bt : ByteArray) (w : World) (hE : bt.toList.isEmpty = true ∨ (bt.toList.isEmpty = false ∧ (bt.toList == cb.toList) = false)) :
    Calls Trym.prog 21 #[.agg #[.string ⟨#[]⟩, .int .i64 size, .int .i64 synced, .string cb], .int .i64 have_, .string bt] w fun e w' => e = .returned (.int .i64 (resV synced size have_)) ∧ Grown w w' := by
  rcases hE with hE | ⟨hE, hQ⟩
  all_goals
    by_cases hs : 0 ≤ size
    · have hq : (minV (minV synced have_) size != size) = true ∨ (minV (minV synced have_) size != size) = false := by cases (minV (minV synced have_) size != size) <;> simp
      rcases hq with hq | hq
      · have HR : Hid (resV synced size have_ = 0) := by simp only [Hid, resV]; rw [if_pos hs, if_pos hq]
        go_enter Trym.func21, Trym.ntmps21
        go_wp2_with (first | (refine wpList_min_int rfl (.tmp 19) (.tmp 20) rfl rfl _ _ rfl rfl ?_) | (refine wpList_min_int rfl (.tmp 25) (.tmp 27) rfl rfl _ _ rfl rfl ?_))
        go_ret
        exact ⟨by rw [HR.out]; rfl, by repeat (first | exact Grown.refl _ | apply Grown.drew | apply Grown.alloc)⟩
      · have HR : Hid (resV synced size have_ = minV (minV synced have_) size) := by simp only [Hid, resV]; rw [if_pos hs, if_neg (by rw [hq]; simp)]
        go_enter Trym.func21, Trym.ntmps21
        go_wp2_with (first | (refine wpList_min_int rfl (.tmp 19) (.tmp 20) rfl rfl _ _ rfl rfl ?_) | (refine wpList_min_int rfl (.tmp 25) (.tmp 27) rfl rfl _ _ rfl rfl ?_))
        go_ret
        exact ⟨by rw [HR.out]; rfl, by repeat (first | exact Grown.refl _ | apply Grown.drew | apply Grown.alloc)⟩
    · have hq : (minV synced have_ != size) = true ∨ (minV synced have_ != size) = false := by cases (minV synced have_ != size) <;> simp
      rcases hq with hq | hq
      · have HR : Hid (resV synced size have_ = 0) := by simp only [Hid, resV]; rw [if_neg hs, if_pos hq]
        go_enter Trym.func21, Trym.ntmps21
        go_wp2_with (first | (refine wpList_min_int rfl (.tmp 19) (.tmp 20) rfl rfl _ _ rfl rfl ?_) | (refine wpList_min_int rfl (.tmp 25) (.tmp 27) rfl rfl _ _ rfl rfl ?_))
        go_ret
        exact ⟨by rw [HR.out]; rfl, by repeat (first | exact Grown.refl _ | apply Grown.drew | apply Grown.alloc)⟩
      · have HR : Hid (resV synced size have_ = minV synced have_) := by simp only [Hid, resV]; rw [if_neg hs, if_neg (by rw [hq]; simp)]
        go_enter Trym.func21, Trym.ntmps21
        go_wp2_with (first | (refine wpList_min_int rfl (.tmp 19) (.tmp 20) rfl rfl _ _ rfl rfl ?_) | (refine wpList_min_int rfl (.tmp 25) (.tmp 27) rfl rfl _ _ rfl rfl ?_))
        go_ret
        exact ⟨by rw [HR.out]; rfl, by repeat (first | exact Grown.refl _ | apply Grown.drew | apply Grown.alloc)⟩

theorem zz_yes (size synced have_ : Int) (cb bt : ByteArray) (w : World) (hE : bt.toList.isEmpty = false) (hQ : (bt.toList == cb.toList) = true) :
    Calls Trym.prog 10 #[.string ⟨#[]⟩, .int .i64 size, .int .i64 synced, .string cb, .int .i64 have_, .string bt] w fun e w' => e = .returned (.int .i64 (resV have_ size have_)) ∧ Grown w w' := by
  go_enter Trym.func10, Trym.ntmps10
  go_wp2_with (go_at_call 21; refine (resume_yes size synced have_ cb bt _ hE hQ).mono ?_; rintro e w1 ⟨rfl, hg⟩)
  go_ret
  exact ⟨rfl, hg⟩
theorem zz_no (size synced have_ : Int) (cb bt : ByteArray) (w : World) (hE : bt.toList.isEmpty = true ∨ (bt.toList.isEmpty = false ∧ (bt.toList == cb.toList) = false)) :
    Calls Trym.prog 10 #[.string ⟨#[]⟩, .int .i64 size, .int .i64 synced, .string cb, .int .i64 have_, .string bt] w fun e w' => e = .returned (.int .i64 (resV synced size have_)) ∧ Grown w w' := by
  go_enter Trym.func10, Trym.ntmps10
  go_wp2_with (go_at_call 21; refine (resume_no size synced have_ cb bt _ hE).mono ?_; rintro e w1 ⟨rfl, hg⟩)
  go_ret
  exact ⟨rfl, hg⟩

theorem bytes_ok (size synced have_ : Int) (cb bt : ByteArray) (w : World) (h1 : cb.size ≤ 1048576) (h2 : bt.size ≤ 1048576) (h3 : cb.size + bt.size ≤ 1048576) :
    Calls Trym.prog 11 #[.int .i64 size, .int .i64 synced, .string cb, .int .i64 have_, .string bt] w fun e w' => e = .returned (.bool true) ∧ w = w' := by
  go_enter Trym.func11, Trym.ntmps11
  go_wp2
  go_ret
  exact ⟨rfl, rfl⟩
theorem bytes_no (size synced have_ : Int) (cb bt : ByteArray) (w : World) (h1 : cb.size ≤ maxLen) (h2 : bt.size ≤ maxLen) (h3 : 1048576 < cb.size + bt.size) :
    Calls Trym.prog 11 #[.int .i64 size, .int .i64 synced, .string cb, .int .i64 have_, .string bt] w fun e w' => e = .returned (.bool false) ∧ w = w' := by
  unfold maxLen at h1 h2
  go_enter Trym.func11, Trym.ntmps11
  go_wp2
  all_goals (go_ret; exact ⟨rfl, rfl⟩)

set_option maxHeartbeats 1000000 in
theorem law_any (size synced have_ : Int) (cb bt : ByteArray) (w : World) (h1 : cb.size ≤ maxLen) (h2 : bt.size ≤ maxLen) :
    Calls Trym.prog 4 #[.int .i64 size, .int .i64 synced, .string cb, .int .i64 have_, .string bt] w fun e w' => e = .returned (.bool true) ∧ Grown w w' := by
  by_cases hsum : cb.size + bt.size ≤ 1048576
  rotate_left
  · go_enter Trym.func4, Trym.ntmps4
    go_wp2_with (go_at_call 11; refine (bytes_no size synced have_ cb bt _ h1 h2 (by omega)).mono ?_; rintro e w1 ⟨rfl, rfl⟩)
    go_ret
    exact ⟨rfl, Grown.refl _⟩
  have g1 : decide ((1048576 : Int) < (cb.size : Int)) = false := decide_eq_false (by omega)
  have g2 : ¬ (1048576 : Int) < (bt.size : Int) := by omega
  have g3 : (cb.size : Int) + (bt.size : Int) ≤ 1048576 := by omega
  have hes : (bt.toList.isEmpty = true ∨ (bt.toList.isEmpty = false ∧ (bt.toList == cb.toList) = false)) ∨ (bt.toList.isEmpty = false ∧ (bt.toList == cb.toList) = true) := by
    cases bt.toList.isEmpty <;> cases (bt.toList == cb.toList) <;> simp
  rcases hes with hes | ⟨hE, hQ⟩
  · have hor := resV_or synced size have_
    have hcall := zz_no size synced have_ cb bt
    generalize resV synced size have_ = r at hor hcall
    have hr : (r != 0) = false ∨ ((r != 0) = true ∧ (r != size) = false) := by
      rcases hor with rfl | rfl
      · exact .inl (by simp)
      · by_cases e : r = 0
        · exact .inl (by simp [e])
        · exact .inr ⟨by simpa using e, by simp⟩
    clear hor
    have Hc : Hid (∀ w, Calls Trym.prog 10 #[.string ⟨#[]⟩, .int .i64 size, .int .i64 synced, .string cb, .int .i64 have_, .string bt] w fun e w' => e = .returned (.int .i64 r) ∧ Grown w w') := fun w => hcall w hes
    clear hcall
    rcases hes with hE | ⟨hE, hQ⟩ <;> rcases hr with hr | ⟨hr, hr2⟩
    all_goals
      go_enter Trym.func4, Trym.ntmps4
      go_wp2_with (first | (go_at_call 11; refine (bytes_ok size synced have_ cb bt _ (by omega) (by omega) (by omega)).mono ?_; rintro e w1 ⟨rfl, rfl⟩) | (go_at_call 10; refine (Hc.out _).mono ?_; rintro e w2 ⟨rfl, hg⟩))
      go_ret
      exact ⟨rfl, hg⟩
  · have hor := resV_or have_ size have_
    have hwh : 0 ≤ size → size ≤ have_ → resV have_ size have_ = size := resV_whole
    have hcall := zz_yes size synced have_ cb bt
    generalize resV have_ size have_ = r at hor hcall hwh
    have Hc : Hid (∀ w, Calls Trym.prog 10 #[.string ⟨#[]⟩, .int .i64 size, .int .i64 synced, .string cb, .int .i64 have_, .string bt] w fun e w' => e = .returned (.int .i64 r) ∧ Grown w w') := fun w => hcall w hE hQ
    have hr : (r != 0) = false ∨ ((r != 0) = true ∧ (r != size) = false) := by
      rcases hor with rfl | rfl
      · exact .inl (by simp)
      · by_cases e : r = 0
        · exact .inl (by simp [e])
        · exact .inr ⟨by simpa using e, by simp⟩
    have hz : decide (0 ≤ size) = false ∨ (decide (0 ≤ size) = true ∧ decide (size ≤ have_) = false) ∨ (decide (0 ≤ size) = true ∧ decide (size ≤ have_) = true ∧ (r != size) = false) := by
      by_cases e1 : 0 ≤ size
      · by_cases e2 : size ≤ have_
        · exact .inr (.inr ⟨decide_eq_true e1, decide_eq_true e2, by rw [hwh e1 e2]; simp⟩)
        · exact .inr (.inl ⟨decide_eq_true e1, decide_eq_false e2⟩)
      · exact .inl (decide_eq_false e1)
    clear hor hcall hwh
    rcases hr with hr | ⟨hr, hr2⟩ <;> rcases hz with hz | ⟨hz, hz2⟩ | ⟨hz, hz2, hz3⟩
    all_goals
      go_enter Trym.func4, Trym.ntmps4
      go_wp2_with (first | (go_at_call 11; refine (bytes_ok size synced have_ cb bt _ (by omega) (by omega) (by omega)).mono ?_; rintro e w1 ⟨rfl, rfl⟩) | (go_at_call 10; refine (Hc.out _).mono ?_; rintro e w2 ⟨rfl, hg⟩))
      go_ret
      exact ⟨rfl, hg⟩
end Go.Proofs.Qxb6001434aMods
