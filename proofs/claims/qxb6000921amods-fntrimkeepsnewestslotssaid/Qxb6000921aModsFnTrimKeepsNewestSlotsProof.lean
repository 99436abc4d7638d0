/-
  THE PROOF OF 'Rows.FnTrimKeepsNewestSlotsSaid': the frame after the guide's template; the walk is Qxb6000921aModsLaw's.
-/
import Derived.Test.Qxb6000921aModsLaw
import Derived.OpenShut
import Derived.ShutString
import Derived.ChangeOld
import Derived.Below
import Derived.Deep.Matrix
namespace Go.Proofs.Qxb6000921aMods.fnTrimKeepsNewestSlots
open Go.ChangeShapes Go.WideShapes Go.ChangeAt Go.RowKit
set_option linter.unusedVariables false

theorem own : ownKnob Trym.prog.godebug = none := by kernel_rfl
theorem laidOut : laidOutB Trym.prog = true := by kernel_rfl
theorem cells2 : Trym.prog.cellsOf 2 = 1 := by kernel_rfl
theorem cells3 : Trym.prog.cellsOf 3 = 1 := by kernel_rfl
theorem cells25 : Trym.prog.cellsOf 25 = 1 := by kernel_rfl
theorem cells35 : Trym.prog.cellsOf 35 = 1 := by kernel_rfl

theorem slc_of_cells {W : World} (x : Addr) (n c : Nat) (f : Nat → Value) (h : ∀ j, j < n → W.cell? (x.add j) = some (f j)) : SlcAt 0 W (.slice (some x) n c) n f := by
  refine ⟨_, _, rfl, fun hn => ?_⟩
  obtain ⟨b, off, spot⟩ := x
  have hspot : spot = none := by simpa [Addr.add] using World.cell?_spot (h 0 hn)
  subst hspot
  exact ⟨b, off, rfl, Nat.zero_le _, fun j hj => by rw [← Addr.add_mid]; exact h j hj⟩
theorem slc_nil {W : World} (f : Nat → Value) : SlcAt 0 W (.slice none 0 0) 0 f := ⟨_, _, rfl, fun h => absurd h (by omega)⟩

theorem slc_of_trod {H : Type} {enc : TypeId × Value → H} {W : World} {a : Option Addr} {len cap : Nat} {d : DataW H} {p : List MemPlace} (h : DataW.Trod enc Trym.prog W 0 (fun _ => true) true 25 (.slice a len cap) d p) :
    ∃ z : Nat → Int, SlcAt 0 W (.slice a len cap) len (fun j => .int .i64 (z j)) := by
  obtain ⟨fuel, hf⟩ := h
  rcases open_ints Trym.underlying25 Trym.underlying2 cells2 hf with ⟨hcs, _⟩ | ⟨x, l, c, zs, hcs, _, hl, hm, hz, _, hcell, hwz⟩
  · simp [Value.cells] at hcs
    obtain ⟨rfl, rfl, rfl⟩ := hcs
    exact ⟨fun _ => 0, slc_nil _⟩
  · simp [Value.cells] at hcs
    obtain ⟨rfl, rfl, rfl⟩ := hcs
    simp only [if_true] at hz
    exact ⟨fun j => zs.getD j 0, slc_of_cells x len cap _ (fun j hj => hcell j (by omega))⟩

theorem mat_of_trod {H : Type} {enc : TypeId × Value → H} {W : World} {t e q : TypeId} (ht : Trym.prog.underlying t = some (.slice e)) (he : Trym.prog.underlying e = some (.slice q)) (hq : Trym.prog.underlying q = some (.int .i64)) (ce : Trym.prog.cellsOf e = 1) (cq : Trym.prog.cellsOf q = 1)
    {a : Option Addr} {len cap : Nat} {d : DataW H} {p : List MemPlace} (h : DataW.Trod enc Trym.prog W 0 (fun _ => true) true t (.slice a len cap) d p) :
    ∃ (l : Nat → Nat) (S : Nat → Nat → Int), MatAt 0 W (.slice a len cap) len l S := by
  obtain ⟨fuel, hf⟩ := h
  rcases Go.Deep.open_int_rows ht he hq ce cq hf with ⟨hcs, _⟩ | ⟨x, l, c, A, L, C, Z, hcs, _, hl, hm, _, hrow⟩
  · simp [Value.cells] at hcs
    obtain ⟨rfl, rfl, rfl⟩ := hcs
    exact ⟨fun _ => 0, fun _ _ => 0, fun _ => .slice none 0 0, slc_nil _, fun t ht => absurd ht (by omega)⟩
  · simp [Value.cells] at hcs
    obtain ⟨rfl, rfl, rfl⟩ := hcs
    refine ⟨L, fun r j => (Z r).getD j 0, fun r => .slice (A r) (L r) (C r), slc_of_cells x len cap _ (fun j hj => (hrow j (by omega)).1), fun r hr => ?_⟩
    obtain ⟨_, h1, h2, h3, h4, h5, h6⟩ := hrow r (by omega)
    show SlcAt 0 W (.slice (A r) (L r) (C r)) (L r) (fun j => .int .i64 ((Z r).getD j 0))
    cases hA : A r with
    | none =>
      have h0 : L r = 0 := by have := h5 hA; omega
      rw [h0, h5 hA]
      exact slc_nil _
    | some x' => exact slc_of_cells x' (L r) (C r) _ (fun j hj => (h6 x' hA).2 j (by omega))

set_option maxRecDepth 100000 in
theorem lifted (os : Os) (started : os.Started) (H : Type) (enc : TypeId × Value → H) :
    ReturnsInHanded {} Trym.checked os 5 .any (Rows.fnTrimKeepsNewestSlotsSpec.pre6 enc Trym.prog Trym.f5 Rows.fnTrimKeepsNewestSlotsRow.domain false) (Rows.fnTrimKeepsNewestSlotsSpec.post enc Trym.prog Trym.f5 false true false false) := by
  refine returnsInHanded_of_change (C := Trym.checked) own started (by kernel_rfl) Trym.func5
    (ChangeSpec.witness6 (enc := enc) (C := Trym.checked) false ⟨#[], #[.slice none 0 0, .slice none 0 0, .slice none 0 0, .slice none 0 0, .int .i64 0], []⟩ 8 (by kernel_rfl) (by kernel_rfl) (by kernel_rfl) (by kernel_rfl)) ?_
  intro W base args ds gs before hval0 hW hcnd _
  have hval : ∀ (j : Nat) t v, Trym.f5.params[j]? = some t → args[j]? = some v → Value.okWide Trym.prog W .any base t v := hval0
  have hW' := hW
  obtain ⟨p, q, hA0, hV, rfl, hfz, hnd⟩ := hW
  have hA : DataW.TrodAll enc Trym.prog W 0 (fun _ => true) true Trym.f5.params.toList args.toList ds p := hA0
  rw [Trym.params5] at hA hval
  obtain ⟨v0, vs0, d0, ds0, p0, q0, hargs, rfl, rfl, h0, r0⟩ := trodAll_cons hA
  obtain ⟨v1, vs1, d1, ds1, p1, q1, rfl, rfl, rfl, h1, r1⟩ := trodAll_cons r0
  obtain ⟨v2, vs2, d2, ds2, p2, q2, rfl, rfl, rfl, h2, r2⟩ := trodAll_cons r1
  obtain ⟨v3, vs3, d3, ds3, p3, q3, rfl, rfl, rfl, h3, r3⟩ := trodAll_cons r2
  obtain ⟨v4, vs4, d4, ds4, p4, q4, rfl, rfl, rfl, h4, r4⟩ := trodAll_cons r3
  obtain ⟨rfl, rfl, rfl⟩ := trodAll_nil r4
  obtain rfl : args = #[v0, v1, v2, v3, v4] := by cases args; simp_all
  obtain ⟨rfl, rfl⟩ := trodVars_none hV
  obtain ⟨a0, len0, cap0, rfl⟩ := okWide_slice Trym.underlying25 (hval 0 25 v0 rfl rfl)
  obtain ⟨a1, len1, cap1, rfl⟩ := okWide_slice Trym.underlying25 (hval 1 25 v1 rfl rfl)
  obtain ⟨a2, len2, cap2, rfl⟩ := okWide_slice Trym.underlying26 (hval 2 26 v2 rfl rfl)
  obtain ⟨a3, len3, cap3, rfl⟩ := okWide_slice Trym.underlying27 (hval 3 27 v3 rfl rfl)
  have k4 := h4
  have lt0 : ∀ x ∈ p0, x.block < W.heap.size := by obtain ⟨m, hm⟩ := h0; exact DataW.trod_lt m _ _ _ hm
  have lt1 : ∀ x ∈ p1, x.block < W.heap.size := by obtain ⟨m, hm⟩ := h1; exact DataW.trod_lt m _ _ _ hm
  have lt2 : ∀ x ∈ p2, x.block < W.heap.size := by obtain ⟨m, hm⟩ := h2; exact DataW.trod_lt m _ _ _ hm
  have lt3 : ∀ x ∈ p3, x.block < W.heap.size := by obtain ⟨m, hm⟩ := h3; exact DataW.trod_lt m _ _ _ hm
  have lt4 : ∀ x ∈ p4, x.block < W.heap.size := by obtain ⟨m, hm⟩ := h4; exact DataW.trod_lt m _ _ _ hm
  obtain ⟨z0, w0⟩ := slc_of_trod h0
  obtain ⟨z1, w1⟩ := slc_of_trod h1
  obtain ⟨l2, z2, w2⟩ := mat_of_trod Trym.underlying26 Trym.underlying35 Trym.underlying3 cells35 cells3 h2
  obtain ⟨l3, z3, w3⟩ := mat_of_trod Trym.underlying27 Trym.underlying25 Trym.underlying2 cells25 cells2 h3
  obtain ⟨F, rfl, _, _, _⟩ := open_int Trym.underlying2 (hval 4 2 v4 rfl rfl) h4
  clear hA0 hval0
  refine (law_any len0 len1 len2 len3 l2 l3 z0 z1 z2 z3 F _ _ _ _ W w0 w1 w2 w3).mono fun e W' ⟨he, bel⟩ => ?_
  subst he
  exact ⟨_, rfl, _, _, _, [], _, [], hW', trodAll_mk1 (shut_bool Trym.underlying4 _), (trodAll_cons_mk (Below.trod laidOut (by kernel_rfl) (of_decide_eq_true (by kernel_rfl)) h0 bel lt0) (trodAll_cons_mk (Below.trod laidOut (by kernel_rfl) (of_decide_eq_true (by kernel_rfl)) h1 bel lt1) (trodAll_cons_mk (Below.trod laidOut (by kernel_rfl) (of_decide_eq_true (by kernel_rfl)) h2 bel lt2) (trodAll_cons_mk (Below.trod laidOut (by kernel_rfl) (of_decide_eq_true (by kernel_rfl)) h3 bel lt3) (trodAll_cons_mk (Below.trod laidOut (by kernel_rfl) (of_decide_eq_true (by kernel_rfl)) k4 bel lt4) trodAll_mk0))))), rfl, bel.frame _, fun h => by cases h⟩

theorem over : Rows.fnTrimKeepsNewestSlotsRow.holds Trym.pinned (OpenSpec.ofChange Rows.fnTrimKeepsNewestSlotsSpec) :=
  OpenClaim.holds_of_wide 5 Trym.f5 rfl rfl rfl rfl rfl rfl rfl ⟨rfl, rfl, rfl, rfl, rfl⟩ rfl rfl rfl rfl rfl (by kernel_rfl) Trym.func5 (by kernel_rfl)
    (of_decide_eq_true (by kernel_rfl)) (by unfold Func.isWrapper; first | (rw [if_pos (by decide +kernel)]; kernel_rfl) | (rw [if_neg (by decide +kernel)]; exact ⟨rfl, rfl⟩))
    (fun os started H enc _ => lifted os started H enc)

/-- ████ THE STATEMENT ████ -/
theorem proved : Rows.FnTrimKeepsNewestSlotsSaid := over
end Go.Proofs.Qxb6000921aMods.fnTrimKeepsNewestSlots
