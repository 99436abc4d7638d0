/-
  Laws of my own for whole rows: made, loaded, stored, the world behind each under a name of its own, told by 'rowIs' and 'Below'.
-/
import Derived.Test.Qxb6000063aModsRows
import Derived.Test.Qxb6000063aModsPlain
import Derived.WalkKit
import Derived.ProofKit
import Derived.WalkSpells
import Derived.WalkLawsBesides
import Derived.Outline
import Derived.Deep.MidRow
import Derived.Deep.WholeRow
import Derived.Deep.OwnRows
namespace Go.Proofs.Qxb6000063aMods
open Go.RowKit

theorem Trym.info24 : (Trym.prog.info? 24).map (·.size) = some 32 := by kernel_rfl
theorem Trym.info5 : (Trym.prog.info? 5).map (fun i => (i.zero, i.size, i.bytes)) = some (some (.int .u8 0), 1, 1) := by kernel_rfl

section
variable {P : Program}

/-- The cells of a row as a list. -/
def rowL (n : Nat) (f : Nat → Value) : List Value := (List.range n).map f
theorem rowL_length (n : Nat) (f : Nat → Value) : (rowL n f).length = n := by simp [rowL]
theorem rowL_get (n : Nat) (f : Nat → Value) (j : Nat) (h : j < n) : (rowL n f)[j]? = some (f j) := by simp [rowL, h]
theorem rowL_lt {n : Nat} {f : Nat → Value} {j : Nat} {v : Value} (h : (rowL n f)[j]? = some v) : j < n ∧ v = f j := by
  have hj : j < n := by
    obtain ⟨hlt, _⟩ := List.getElem?_eq_some_iff.1 h
    rw [rowL_length] at hlt
    exact hlt
  rw [rowL_get n f j hj] at h
  exact ⟨hj, by simpa using h.symm⟩
theorem rowL_one {n : Nat} {f : Nat → Value} (h : ∀ j, (f j).oneCell' = true) : (rowL n f).toArray.all (·.oneCell') = true :=
  all_oneCell_toArray (by intro v hv; simp [rowL] at hv; obtain ⟨a, _, rfl⟩ := hv; exact h a)

theorem below_setRow' (g : Nat) (w : World) (cs : Array Value) : Below g w (w.setRow g cs) :=
  ⟨rfl, rfl, rfl, by simp, fun k hk => setRow_other w g k cs (by omega)⟩

/-- 'make([]T, n)', T of one cell: the world behind it under a name of its own. -/
theorem wpList_make_named (w : World) {ops : Array Oper} {rest : List Oper} {o : Oper} {a : Act} {Q : Exit → Act → World → Prop}
    (hg : o.guard = none) (l c : Operand) (t : TypeId) (hop : o.op = Op.makeSlice t l c)
    (e : TypeId) (z : Value) (bytes : Nat) (ht : P.underlying t = some (.slice e)) (hinfo : (P.info? e).map (fun i => (i.zero, i.size, i.bytes)) = some (some z, 1, bytes)) (hz1 : z.cells = #[z])
    (kl kc : IntKind) (n : Nat) (hl : a.eval l = .int kl (n : Int)) (hc : a.eval c = .int kc (n : Int)) (hbytes : bytes * n ≤ 281474976710656) (h63 : n ≤ 9223372036854775807)
    (hK : ∀ w1 : World, w1.rowIs w.heap.size e n (fun _ => z) → w1.heap.size = w.heap.size + 1 → Below w.heap.size w w1 → wpList P ops Q rest (a.put o.dst (.slice (some ⟨w.heap.size, 0, none⟩) n n)) w1) :
    wpList P ops Q (o :: rest) a w := by
  refine wpList_plain hg fun K hK' => ?_
  have hrun := run_make_row' (P := P) t e z bytes ht hinfo hz1 kl kc n hbytes h63 w
  unfold Oper.wp
  simp [execOp, hop, hl, hc, hrun, Result.andThen]
  exact hK' _ _ (hK _ (World.rowIs_made w z n e) (by simp) ((Below.refl _ _).alloc (Nat.le_refl _) _))

/-- A whole row stored into a block: the world behind it under a name of its own. -/
theorem wpList_store_named {ops : Array Oper} {rest : List Oper} {o : Oper} {a : Act} {w : World} {Q : Exit → Act → World → Prop} (hgd : o.guard = none) (ty : TypeId) (x y : Operand) (ho : o.op = .store ty x y)
    (g n : Nat) (f : Nat → Value) (hx : a.eval x = .pointer (some ⟨g, 0, none⟩)) (hy : a.eval y = .agg (rowL n f).toArray)
    (t : TypeId) (old : Array Value) (hg : w.heap[g]? = some (.cells old t (0, 0))) (hi : (P.info? ty).map (·.size) = some n)
    (hold : old.size = n) (h1 : ∀ j, (f j).oneCell' = true)
    (h : ∀ w1 : World, w1.rowIs g t n f → w1.heap.size = w.heap.size → Below g w w1 → wpList P ops Q rest (a.put o.dst undef) w1) : wpList P ops Q (o :: rest) a w := by
  refine wpList_store_row hgd ty x y ho g (rowL n f).toArray hx hy t old hg (by simpa [rowL_length] using hi) (by simpa [rowL_length] using hold) (rowL_one h1) (h _ ?_ ?_ (below_setRow' _ _ _))
  · exact ⟨_, setRow_heap w g old _ t _ hg, by simp [rowL_length], fun i hi => by simpa using rowL_get n f i hi⟩
  · simp

/-- A whole row stored into the block that was made last. -/
theorem wpList_store_fresh {ops : Array Oper} {rest : List Oper} {o : Oper} {a : Act} {w0 : World} {Q : Exit → Act → World → Prop} (hgd : o.guard = none) (ty : TypeId) (x y : Operand) (ho : o.op = .store ty x y)
    (g n : Nat) (f : Nat → Value) (hx : a.eval x = .pointer (some ⟨g, 0, none⟩)) (hy : a.eval y = .agg (rowL n f).toArray)
    (t : TypeId) (old : Array Value) (hgs : g = w0.heap.size) (hi : (P.info? ty).map (·.size) = some n)
    (hold : old.size = n) (h1 : ∀ j, (f j).oneCell' = true)
    (h : ∀ w1 : World, w1.rowIs g t n f → w1.heap.size = g + 1 → Below g w0 w1 → wpList P ops Q rest (a.put o.dst undef) w1) : wpList P ops Q (o :: rest) a (w0.alloc (.cells old t)) := by
  subst hgs
  refine wpList_store_named hgd ty x y ho _ n f hx hy t old (heap_alloc_new _ _) hi hold h1 fun w1 r s b => h w1 r (by rw [s]; simp) (((Below.refl _ _).alloc (Nat.le_refl _) _).trans b)

/-- A whole row loaded from a block's head. -/
theorem wpList_load_named {ops : Array Oper} {rest : List Oper} {op : Oper} {a : Act} {w : World} {Q : Exit → Act → World → Prop} (hw : Region.wanted op (yielded ops a.tmps) = true) (ty : TypeId) (x : Operand) (ho : op.op = .load ty x)
    (b n : Nat) (f : Nat → Value) (hx : a.eval x = .pointer (some ⟨b, 0, none⟩)) (d : TypeDesc) (hc : ∀ j, j < n → w.cell? ⟨b, j, none⟩ = some (f j))
    (hu : P.underlying ty = some d) (hd : d.isRow = true) (hi : (P.info? ty).map (·.size) = some n)
    (h : wpList P ops Q rest (a.put op.dst (.agg (rowL n f).toArray)) w) : wpList P ops Q (op :: rest) a w :=
  BigFrame.wpList_want hw fun _ hK => wp_load_mid ty x ho b 0 hx (rowL n f) d (fun j v hv => by
    obtain ⟨hj, rfl⟩ := rowL_lt hv
    rw [Nat.zero_add]
    exact hc j hj) hu hd (by rw [rowL_length]; exact hi) (hK _ _ h)

/-- w1 is w but for what lies in block g. -/
structure Only (g : Nat) (w w1 : World) : Prop where
  os : w1.os = w.os
  tape : w1.tape = w.tape
  output : w1.output = w.output
  size : w1.heap.size = w.heap.size
  block : ∀ k, k ≠ g → w1.heap[k]? = w.heap[k]?
theorem Only.below {g B : Nat} {w w1 : World} (h : Only g w w1) (hB : B ≤ g) : Below B w w1 := ⟨h.os, h.tape, h.output, by rw [h.size]; exact Nat.le_refl _, fun k hk => h.block k (by omega)⟩
theorem Only.row {g b n : Nat} {t : TypeId} {f : Nat → Value} {w w1 : World} (h : Only g w w1) (hr : w.rowIs b t n f) (hb : b ≠ g) : w1.rowIs b t n f := hr.of_block (h.block b hb)

theorem run_storeVar_cell (w : World) (e : TypeId) (hi : (P.info? e).map (·.size) = some 1) (b o : Nat) (v u : Value) (h1 : v.oneCell' = true) (hc : w.cell? ⟨b, o, none⟩ = some u) (hf : w.frozen? ⟨b, o, none⟩ = false) :
    (storeVar e ⟨b, o, none⟩ v).run P w = .ok () (w.setCell ⟨b, o, none⟩ v) := by
  have hcells : v.cells = #[v] := by cases v <;> first | rfl | simp [Value.oneCell'] at h1
  have := run_storeCells_cells (P := P) b o [v] 0 w (fun j hj => by simp at hj; subst hj; simp [hc]) (fun j hj => by simp at hj; subst hj; simpa using hf) (by simpa using h1)
  cases hq : P.info? e with
  | none => simp [hq] at hi
  | some i =>
    have hs : i.size = 1 := by simpa [hq] using hi
    simp only [Nat.add_zero, World.setCells] at this
    simp [storeVar, sizeOf, typeInfo, hq, hcells, hs, this]

/-- One cell of an own row is written: the world behind it under a name of its own. -/
theorem wpList_store_cell {ops : Array Oper} {rest : List Oper} {o : Oper} {a : Act} {w : World} {Q : Exit → Act → World → Prop} (hgd : o.guard = none) (ty : TypeId) (x y : Operand) (ho : o.op = .store ty x y)
    (g i n : Nat) (f : Nat → Value) (v : Value) (hx : a.eval x = .pointer (some ⟨g, i, none⟩)) (hy : a.eval y = v) (h1 : v.oneCell' = true)
    (t : TypeId) (hg : w.rowIs g t n f) (hin : i < n) (hi : (P.info? ty).map (·.size) = some 1)
    (h : ∀ w1 : World, w1.rowIs g t n (fun j => if j = i then v else f j) → Only g w w1 → wpList P ops Q rest (a.put o.dst undef) w1) : wpList P ops Q (o :: rest) a w := by
  refine wpList_plain hgd fun K hK => ?_
  have hrun := run_storeVar_cell (P := P) w ty hi g i v (f i) h1 (hg.cell hin) (hg.frozen i)
  unfold Oper.wp execOp
  simp only [ho, hx, hy, Instr.storeAt, Instr.sureAddr, Sem.run_bind, Sem.run_pure, Result.andThen_ok, hrun]
  refine hK _ _ (h _ (hg.set i v) ⟨rfl, rfl, rfl, by simp [World.setCell], fun k hk => Below.heap_setCell _ _ _ _ hk⟩)

theorem wpList_build_row {ops : Array Oper} {rest : List Oper} {o : Oper} {a : Act} {w : World} {Q : Exit → Act → World → Prop} (hg : o.guard = none) (t : TypeId) (parts : Array (Nat × Operand)) (ho : o.op = .build t parts)
    (l : List (Nat × Value)) (hl : (parts.map fun (i, x) => (i, a.eval x)).toList = l) (cells : Array Value) (hf : P.built t l = some cells)
    (h : wpList P ops Q rest (a.put o.dst (.agg cells)) w) : wpList P ops Q (o :: rest) a w :=
  wpList_build hg t parts ho (by rw [hl, hf]; rfl) (by rw [hl, hf]; exact h)
end

theorem run_arrayAt (a : Option Addr) (n c : Nat) (hn : 32 ≤ n) (w : World) : (Instr.arrayAt 24 (.slice a n c)).run Trym.prog w = .ok (.pointer a) w := by
  have : ¬ n < 32 := by omega
  simp [Instr.arrayAt, Sem.run_bind, run_underlying Trym.underlying24, this]

theorem run_equalIn_rows {P : Program} (d n : Nat) (k : IntKind) (t e : TypeId) (f g : Nat → Int) (w : World) (ht : P.underlying t = some (.array n e)) (he : P.underlying e = some (.int k)) (hsz : ∀ w, (sizeOf e).run P w = .ok 1 w) :
    (Op.equalIn (d + 2) t (.agg (rowL n fun j => .int k (f j)).toArray) (.agg (rowL n fun j => .int k (g j)).toArray)).run P w = .ok (rowEq n f g) w := by
  rw [rowEq, List.range_eq_range', Op.equalIn]
  simp only [Sem.run_bind, run_underlying ht, Result.andThen_ok, hsz, Std.Legacy.Range.forIn_eq_forIn_range', Std.Legacy.Range.size, Nat.sub_zero, Nat.add_sub_cancel, Nat.div_one]
  have hl : ∀ i ∈ List.range' 0 n 1, i < n := fun i hi => by simpa using (List.mem_range'_1.1 hi).2
  generalize List.range' 0 n 1 = l at hl ⊢
  induction l with
  | nil => simp
  | cons i l ih =>
    have hi : i < n := hl i (by simp)
    have px : ∀ h : Nat → Int, (part e (rowL n fun j => .int k (h j)).toArray (i * 1)).run P w = .ok (.int k (h i)) w := by
      intro h
      simp [part, isAgg, run_underlying he, rowL_get n _ i hi]
    have pe : (Op.equalIn (d + 1) e (.int k (f i)) (.int k (g i))).run P w = .ok (f i == g i) w := run_equalIn_int w d e k k _ _ he
    simp only [List.forIn_cons, Sem.run_bind, px, pe, Result.andThen_ok, List.all_cons]
    cases hb : (f i == g i)
    · simp
    · simp only [Bool.not_true, Bool.false_eq_true, if_false, Sem.run_pure, Result.andThen_ok, Bool.true_and]
      exact ih fun j hj => hl j (by simp [hj])

theorem Trym.size5 (w : World) : (sizeOf 5).run Trym.prog w = .ok 1 w := by
  have hi : (Trym.prog.info? 5).map (·.size) = some 1 := by kernel_rfl
  cases hq : Trym.prog.info? 5 with
  | none => simp [hq] at hi
  | some i => simp [hq] at hi; simp [sizeOf, typeInfo, hq, hi]

theorem run_neq_rows (f g : Nat → Int) (w : World) :
    (binOp .neq 24 (.agg (rowL 32 fun j => .int .u8 (f j)).toArray) (.agg (rowL 32 fun j => .int .u8 (g j)).toArray)).run Trym.prog w = .ok (.bool (!rowEq 32 f g)) w := by
  rw [run_neq_struct, run_equalIn_rows 9998 32 .u8 24 5 f g w Trym.underlying24 Trym.underlying5 Trym.size5]
  rfl

theorem and127 (a : Int) (h : 0 ≤ a ∧ a ≤ 255) : bits .and .u8 a 127 = a % 128 := by
  rw [u8_and a 127 h.1 (by omega) (by omega) (by omega)]
  show ((a.toNat &&& 127 : Nat) : Int) = _
  rw [nat_mask7]
  omega

end Go.Proofs.Qxb6000063aMods
