/- Small tools for the walks. -/
import Derived.Test.YtnmjmipmamcgjaaDoorProg
import Derived.Test.YtnmjmipmamcgjaaDoorMix
namespace Go.Proofs.YtnmjmipmamcgjaaDoor
open Go Go.RowKit
set_option linter.unusedVariables false
@[simp] theorem size_drew (w : World) : w.drew.heap.size = w.heap.size := rfl
theorem at_alloc (w : World) (O : Obj) : (w.alloc O).heap[w.heap.size]? = some O := by
  show (w.heap.push O)[w.heap.size]? = _
  exact Array.getElem?_push_size
theorem at_old {w : World} {O O' : Obj} {b : Nat} (h : w.heap[b]? = some O) : (w.alloc O').heap[b]? = some O :=
  (Below.heap_alloc w O' b (Array.getElem?_eq_some_iff.1 h).1).trans h
/-- a block that was made, later on -/
theorem made_cells {W0 wr : World} {B b : Nat} {vs : List Value} {T : TypeId} (h : Below B W0 wr) (hb : b < B) (ho : W0.heap[b]? = some (.cells vs.toArray T)) : CellsAt wr b 0 vs := by
  intro j v hv
  rw [h.cell (p := ⟨b, 0 + j, none⟩) hb, cell_of_row W0 b _ _ _ _ ho, Nat.zero_add]
  simpa using hv
theorem made_frozen {W0 wr : World} {B b : Nat} {vs : Array Value} {T : TypeId} (h : Below B W0 wr) (hb : b < B) (ho : W0.heap[b]? = some (.cells vs T)) : ∀ j, wr.frozen? ⟨b, j, none⟩ = false := by
  intro j
  rw [h.frozen (p := ⟨b, j, none⟩) hb]
  simp [World.frozen?, ho]
theorem spot8 {w : World} {b o : Nat} {v0 v1 v2 v3 v4 v5 u0 u1 : Value} (h : CellsAt w b o [v0, v1, v2, v3, v4, v5, u0, u1]) :
    w.cell? ⟨b, o, none⟩ = some v0 ∧ w.cell? ⟨b, o + 1, none⟩ = some v1 ∧ w.cell? ⟨b, o + 2, none⟩ = some v2 ∧ w.cell? ⟨b, o + 3, none⟩ = some v3 ∧ w.cell? ⟨b, o + 4, none⟩ = some v4 ∧ w.cell? ⟨b, o + 5, none⟩ = some v5 ∧ w.cell? ⟨b, o + 6, none⟩ = some u0 ∧ w.cell? ⟨b, o + 7, none⟩ = some u1 := eight h
theorem Keeps.undrew {w W : World} (h : Keeps w.drew W) : Keeps w W := h
theorem Keeps.unalloc {w W : World} {o : Obj} (h : Keeps (w.alloc o) W) : Keeps w W := (Keeps.alloc w o).trans h
theorem bcell {W w1 : World} (hb : Below W.heap.size W w1) : (∀ b o, b < W.heap.size → w1.cell? ⟨b, o, none⟩ = W.cell? ⟨b, o, none⟩) ∧ (∀ b o, b < W.heap.size → w1.frozen? ⟨b, o, none⟩ = W.frozen? ⟨b, o, none⟩) :=
  ⟨fun b o h => hb.cell (p := ⟨b, o, none⟩) h, fun b o h => hb.frozen (p := ⟨b, o, none⟩) h⟩
section
variable {P : Program} {ops : Array Oper} {w : World} {K : Act → Prop} {i : Nat} {r : List Nat} {a : Act} {o : Oper}
theorem pre_yes (ho : ops[i]? = some o) (hw : Region.wanted o (yielded ops a.tmps) = true)
    (h : ∃ v, (∀ W, Below w.heap.size w W → Mix.Still P W v ((execOp a.eval o).run P W)) ∧ Mix.wpPre P ops w K r (a.put o.dst v)) : Mix.wpPre P ops w K (i :: r) a :=
  ⟨o, ho, .inl ⟨hw, h⟩⟩
theorem pre_no (ho : ops[i]? = some o) (hw : Region.wanted o (yielded ops a.tmps) = false) (h : Mix.wpPre P ops w K r (a.put o.dst undef)) : Mix.wpPre P ops w K (i :: r) a :=
  ⟨o, ho, .inr ⟨hw, h⟩⟩
theorem pre_nil (h : K a) : Mix.wpPre P ops w K [] a := h
variable {M : Nat → Mix.Made} {K' : Act → World → Prop} {us : List Nat} {W : World} {m : List (Nat × Bool)}
theorem mid_nil (h : K' a W) : Mix.wpMid P ops w M K' us [] a W := h
theorem mid_op (ho : ops[i]? = some o) (hw : Region.wanted o (yielded ops a.tmps) = true)
    (h : Mix.Runs P (fun v W' => Below w.heap.size w W' ∧ (∃ row, W.grownBy W' row ∧ ∀ k, row = some k → k ∈ us) ∧
          ∃ new : List Nat, (∀ k ∈ new, W.heap.size ≤ k ∧ k < W'.heap.size) ∧ ∀ W'', Below W'.heap.size W' W'' → Mix.wpMid P ops w M K' (new ++ us) m (a.put o.dst v) W'') ((execOp a.eval o).run P W)) :
    Mix.wpMid P ops w M K' us ((i, false) :: m) a W := ⟨o, ho, .inl ⟨hw, h⟩⟩
theorem mid_no (ho : ops[i]? = some o) (hw : Region.wanted o (yielded ops a.tmps) = false) (h : Mix.wpMid P ops w M K' us m (a.put o.dst undef) W) :
    Mix.wpMid P ops w M K' us ((i, false) :: m) a W := ⟨o, ho, .inr ⟨hw, h⟩⟩
theorem mid_made (ho : ops[i]? = some o) (h : ∀ b W', Below W.heap.size W W' → W'.heap[b]? = some (M i).obj → w.heap.size ≤ b → b ∉ us → Mix.wpMid P ops w M K' (b :: us) m (a.put o.dst ((M i).val b)) W') :
    Mix.wpMid P ops w M K' us ((i, true) :: m) a W := ⟨o, ho, h⟩
/-- an operation that leaves memory as it was, or makes new memory: what is owed -/
theorem mid_below {v : Value} {W' : World} {d : Option Tmp} (hw : Below w.heap.size w W) (hb : Below W.heap.size W W') (h : ∀ W'', Below W'.heap.size W' W'' → Mix.wpMid P ops w M K' us m (a.put d v) W'') :
    Below w.heap.size w W' ∧ (∃ row, W.grownBy W' row ∧ ∀ k, row = some k → k ∈ us) ∧
      ∃ new : List Nat, (∀ k ∈ new, W.heap.size ≤ k ∧ k < W'.heap.size) ∧ ∀ W'', Below W'.heap.size W' W'' → Mix.wpMid P ops w M K' (new ++ us) m (a.put d v) W'' :=
  ⟨hw.trans (hb.mono hw.size), ⟨none, ⟨hb.os, hb.tape, hb.output, hb.size, fun k hk _ => hb.block k hk⟩, fun k h => (by cases h)⟩, [], fun k hk => (by cases hk), h⟩
theorem Still.mid {o : Oper} {v : Value} {r : Result Next} (hw : Below w.heap.size w W) (h : Mix.Still P W v r) (hk : ∀ W'', Below W.heap.size W W'' → Mix.wpMid P ops w M K' us m (a.put o.dst v) W'') :
    Mix.Runs P (fun v W' => Below w.heap.size w W' ∧ (∃ row, W.grownBy W' row ∧ ∀ k, row = some k → k ∈ us) ∧
          ∃ new : List Nat, (∀ k ∈ new, W.heap.size ≤ k ∧ k < W'.heap.size) ∧ ∀ W'', Below W'.heap.size W' W'' → Mix.wpMid P ops w M K' (new ++ us) m (a.put o.dst v) W'') r :=
  (Mix.Still.runs h).mono fun u W' ⟨hu, hb⟩ => by subst hu; exact mid_below hw hb fun W2 h2 => hk W2 (hb.trans (h2.mono hb.size))
theorem mid_val (hb : Below w.heap.size w W) (ho : ops[i]? = some o) (hw : Region.wanted o (yielded ops a.tmps) = true)
    (h : ∃ v, Mix.Still P W v ((execOp a.eval o).run P W) ∧ ∀ W'', Below W.heap.size W W'' → Mix.wpMid P ops w M K' us m (a.put o.dst v) W'') :
    Mix.wpMid P ops w M K' us ((i, false) :: m) a W := mid_op ho hw (Still.mid hb h.choose_spec.1 h.choose_spec.2)
/-- a call that makes memory -/
theorem mid_call (hb : Below w.heap.size w W) (ho : ops[i]? = some o) (hw : Region.wanted o (yielded ops a.tmps) = true)
    (h : ∀ Kp : Value → World → Prop, (∀ v W', Below W.heap.size W W' → (∀ W'', Below W'.heap.size W' W'' → Mix.wpMid P ops w M K' us m (a.put o.dst v) W'') → Kp v W') → Mix.Runs P Kp ((execOp a.eval o).run P W)) :
    Mix.wpMid P ops w M K' us ((i, false) :: m) a W := mid_op ho hw (h _ fun v W' hb' hk => mid_below hb hb' hk)
theorem fl_made {f : Nat} (ho : ops[f]? = some o) (hw : Region.wanted o (yielded ops a.tmps) = true)
    (h : ∀ W, Below w.heap.size w W → (execOp a.eval o).run P W = .ok (.value ((M f).val W.heap.size)) (W.alloc (M f).obj)) (hr : Mix.flOk P ops w M a m) : Mix.flOk P ops w M a ((f, true) :: m) :=
  ⟨⟨o, ho, hw, h⟩, hr⟩
theorem fl_op {f : Nat} (hr : Mix.flOk P ops w M a m) : Mix.flOk P ops w M a ((f, false) :: m) := hr
theorem fl_nil : Mix.flOk P ops w M a [] := trivial
theorem pre_end {mids : List (Nat × Bool)} (h1 : Mix.flOk P ops w M a mids) (h2 : ∀ W, Below w.heap.size w W → Mix.wpMid P ops w M K' [] mids a W) :
    Mix.wpPre P ops w (fun ap => Mix.flOk P ops w M ap mids ∧ ∀ W, Below w.heap.size w W → Mix.wpMid P ops w M K' [] mids ap W) [] a := ⟨h1, h2⟩
variable {Q : Exit → Act → World → Prop}
theorem tail_nil (h : wpList P ops Q [] a W) : wpList P ops Q (([] : List Nat).filterMap fun i => ops[i]?) a W := h
theorem tail_1 {i0 : Nat} {o0 : Oper} (h0 : ops[i0]? = some o0) (h : wpList P ops Q [o0] a W) : wpList P ops Q ([i0].filterMap fun i => ops[i]?) a W := by
  rw [List.filterMap_cons_some h0, List.filterMap_nil]; exact h
theorem tail_2 {i0 i1 : Nat} {o0 o1 : Oper} (h0 : ops[i0]? = some o0) (h1 : ops[i1]? = some o1) (h : wpList P ops Q [o0, o1] a W) : wpList P ops Q ([i0, i1].filterMap fun i => ops[i]?) a W := by
  rw [List.filterMap_cons_some h0, List.filterMap_cons_some h1, List.filterMap_nil]; exact h
theorem tail_3 {i0 i1 i2 : Nat} {o0 o1 o2 : Oper} (h0 : ops[i0]? = some o0) (h1 : ops[i1]? = some o1) (h2 : ops[i2]? = some o2) (h : wpList P ops Q [o0, o1, o2] a W) : wpList P ops Q ([i0, i1, i2].filterMap fun i => ops[i]?) a W := by
  rw [List.filterMap_cons_some h0, List.filterMap_cons_some h1, List.filterMap_cons_some h2, List.filterMap_nil]; exact h
theorem tail_4 {i0 i1 i2 i3 : Nat} {o0 o1 o2 o3 : Oper} (h0 : ops[i0]? = some o0) (h1 : ops[i1]? = some o1) (h2 : ops[i2]? = some o2) (h3 : ops[i3]? = some o3) (h : wpList P ops Q [o0, o1, o2, o3] a W) : wpList P ops Q ([i0, i1, i2, i3].filterMap fun i => ops[i]?) a W := by
  rw [List.filterMap_cons_some h0, List.filterMap_cons_some h1, List.filterMap_cons_some h2, List.filterMap_cons_some h3, List.filterMap_nil]; exact h
theorem tail_5 {i0 i1 i2 i3 i4 : Nat} {o0 o1 o2 o3 o4 : Oper} (h0 : ops[i0]? = some o0) (h1 : ops[i1]? = some o1) (h2 : ops[i2]? = some o2) (h3 : ops[i3]? = some o3) (h4 : ops[i4]? = some o4) (h : wpList P ops Q [o0, o1, o2, o3, o4] a W) : wpList P ops Q ([i0, i1, i2, i3, i4].filterMap fun i => ops[i]?) a W := by
  rw [List.filterMap_cons_some h0, List.filterMap_cons_some h1, List.filterMap_cons_some h2, List.filterMap_cons_some h3, List.filterMap_cons_some h4, List.filterMap_nil]; exact h
theorem tail_6 {i0 i1 i2 i3 i4 i5 : Nat} {o0 o1 o2 o3 o4 o5 : Oper} (h0 : ops[i0]? = some o0) (h1 : ops[i1]? = some o1) (h2 : ops[i2]? = some o2) (h3 : ops[i3]? = some o3) (h4 : ops[i4]? = some o4) (h5 : ops[i5]? = some o5) (h : wpList P ops Q [o0, o1, o2, o3, o4, o5] a W) : wpList P ops Q ([i0, i1, i2, i3, i4, i5].filterMap fun i => ops[i]?) a W := by
  rw [List.filterMap_cons_some h0, List.filterMap_cons_some h1, List.filterMap_cons_some h2, List.filterMap_cons_some h3, List.filterMap_cons_some h4, List.filterMap_cons_some h5, List.filterMap_nil]; exact h
theorem tail_7 {i0 i1 i2 i3 i4 i5 i6 : Nat} {o0 o1 o2 o3 o4 o5 o6 : Oper} (h0 : ops[i0]? = some o0) (h1 : ops[i1]? = some o1) (h2 : ops[i2]? = some o2) (h3 : ops[i3]? = some o3) (h4 : ops[i4]? = some o4) (h5 : ops[i5]? = some o5) (h6 : ops[i6]? = some o6) (h : wpList P ops Q [o0, o1, o2, o3, o4, o5, o6] a W) : wpList P ops Q ([i0, i1, i2, i3, i4, i5, i6].filterMap fun i => ops[i]?) a W := by
  rw [List.filterMap_cons_some h0, List.filterMap_cons_some h1, List.filterMap_cons_some h2, List.filterMap_cons_some h3, List.filterMap_cons_some h4, List.filterMap_cons_some h5, List.filterMap_cons_some h6, List.filterMap_nil]; exact h
theorem tail_8 {i0 i1 i2 i3 i4 i5 i6 i7 : Nat} {o0 o1 o2 o3 o4 o5 o6 o7 : Oper} (h0 : ops[i0]? = some o0) (h1 : ops[i1]? = some o1) (h2 : ops[i2]? = some o2) (h3 : ops[i3]? = some o3) (h4 : ops[i4]? = some o4) (h5 : ops[i5]? = some o5) (h6 : ops[i6]? = some o6) (h7 : ops[i7]? = some o7) (h : wpList P ops Q [o0, o1, o2, o3, o4, o5, o6, o7] a W) : wpList P ops Q ([i0, i1, i2, i3, i4, i5, i6, i7].filterMap fun i => ops[i]?) a W := by
  rw [List.filterMap_cons_some h0, List.filterMap_cons_some h1, List.filterMap_cons_some h2, List.filterMap_cons_some h3, List.filterMap_cons_some h4, List.filterMap_cons_some h5, List.filterMap_cons_some h6, List.filterMap_cons_some h7, List.filterMap_nil]; exact h
theorem tail_9 {i0 i1 i2 i3 i4 i5 i6 i7 i8 : Nat} {o0 o1 o2 o3 o4 o5 o6 o7 o8 : Oper} (h0 : ops[i0]? = some o0) (h1 : ops[i1]? = some o1) (h2 : ops[i2]? = some o2) (h3 : ops[i3]? = some o3) (h4 : ops[i4]? = some o4) (h5 : ops[i5]? = some o5) (h6 : ops[i6]? = some o6) (h7 : ops[i7]? = some o7) (h8 : ops[i8]? = some o8) (h : wpList P ops Q [o0, o1, o2, o3, o4, o5, o6, o7, o8] a W) : wpList P ops Q ([i0, i1, i2, i3, i4, i5, i6, i7, i8].filterMap fun i => ops[i]?) a W := by
  rw [List.filterMap_cons_some h0, List.filterMap_cons_some h1, List.filterMap_cons_some h2, List.filterMap_cons_some h3, List.filterMap_cons_some h4, List.filterMap_cons_some h5, List.filterMap_cons_some h6, List.filterMap_cons_some h7, List.filterMap_cons_some h8, List.filterMap_nil]; exact h
theorem tail_10 {i0 i1 i2 i3 i4 i5 i6 i7 i8 i9 : Nat} {o0 o1 o2 o3 o4 o5 o6 o7 o8 o9 : Oper} (h0 : ops[i0]? = some o0) (h1 : ops[i1]? = some o1) (h2 : ops[i2]? = some o2) (h3 : ops[i3]? = some o3) (h4 : ops[i4]? = some o4) (h5 : ops[i5]? = some o5) (h6 : ops[i6]? = some o6) (h7 : ops[i7]? = some o7) (h8 : ops[i8]? = some o8) (h9 : ops[i9]? = some o9) (h : wpList P ops Q [o0, o1, o2, o3, o4, o5, o6, o7, o8, o9] a W) : wpList P ops Q ([i0, i1, i2, i3, i4, i5, i6, i7, i8, i9].filterMap fun i => ops[i]?) a W := by
  rw [List.filterMap_cons_some h0, List.filterMap_cons_some h1, List.filterMap_cons_some h2, List.filterMap_cons_some h3, List.filterMap_cons_some h4, List.filterMap_cons_some h5, List.filterMap_cons_some h6, List.filterMap_cons_some h7, List.filterMap_cons_some h8, List.filterMap_cons_some h9, List.filterMap_nil]; exact h
end
/-- memory as it was, over a call -/
theorem below_via {B : Nat} {w0 X w1 : World} (h1 : Below X.heap.size X w1) (h : Below B w0 X) (hB : B ≤ X.heap.size) : Below B w0 w1 := h.trans (h1.mono hB)
end Go.Proofs.YtnmjmipmamcgjaaDoor
