/- Stores into one cell, at the operation, and blocks that are known as a whole: laws for the walks. -/
import Derived.Test.YtkaelnfhohggeaaDoorBase
import Derived.Deep.MidRow
namespace Go.Proofs.YtkaelnfhohggeaaDoor
open Go.RowKit

/-- A cell that is stored what it holds. -/
theorem setCell_same {w : World} {b o : Nat} {v : Value} (h : w.cell? ⟨b, o, none⟩ = some v) : w.setCell ⟨b, o, none⟩ v = w := by
  obtain ⟨heap, tape, drawn, os, output⟩ := w
  unfold World.setCell
  congr 1
  apply Array.ext
  · simp
  · intro i h1 h2
    rw [Array.getElem_modify]
    split
    · rename_i e
      subst e
      simp only [World.cell?] at h
      have e1 : heap[b]? = some heap[b] := Array.getElem?_eq_getElem h2
      rw [e1] at h
      generalize heap[b] = x at h ⊢
      cases x with
      | cells c el fr =>
        simp only [Option.isSome_none, Bool.false_eq_true, if_false] at h ⊢
        congr 1
        apply Array.ext
        · simp
        · intro j j1 j2
          rw [Array.getElem_setIfInBounds]
          split
          · rename_i e2
            subst e2
            rw [Array.getElem?_eq_getElem j2] at h
            injection h with h
            exact h.symm
          · rfl
      | _ => rfl
    · rfl

section
variable {P : Program} {w : World} {ops : Array Oper} {rest : List Oper} {op : Oper} {a : Act} {Q : Exit → Act → World → Prop}

theorem run_storeVar_cell (w : World) (b o : Nat) (ty : TypeId) (v u : Value) (hi : (P.info? ty).map (·.size) = some 1) (h1 : v.oneCell' = true) (hc : w.cell? ⟨b, o, none⟩ = some u) (hz : w.frozen? ⟨b, o, none⟩ = false) :
    (storeVar ty ⟨b, o, none⟩ v).run P w = .ok () (w.setCell ⟨b, o, none⟩ v) := by
  have := run_storeCells_cells (P := P) b o [v] 0 w (fun j hj => by have : j = 0 := by simpa using hj
                                                                    subst this; simp [hc]) (fun j hj => by have : j = 0 := by simpa using hj
                                                                                                           subst this; simpa using hz) (fun x hx => by simp at hx; subst hx; exact h1)
  have hcl : v.cells = #[v] := by cases v <;> first | rfl | cases h1
  cases hq : P.info? ty with
  | none => simp [hq] at hi
  | some i =>
    have hs : i.size = 1 := by simpa [hq] using hi
    simp only [Nat.add_zero, World.setCells] at this
    simp [storeVar, sizeOf, typeInfo, hq, hcl, hs, this]

/-- A store into one cell: the world behind it stands behind an equation. -/
theorem wpList_store_cell (hgd : op.guard = none) (ty : TypeId) (x y : Operand) (ho : op.op = .store ty x y) (b o : Nat) (v u : Value) (hx : a.eval x = .pointer (some ⟨b, o, none⟩)) (hy : a.eval y = v)
    (hi : (P.info? ty).map (·.size) = some 1) (h1 : v.oneCell' = true) (hc : w.cell? ⟨b, o, none⟩ = some u) (hz : w.frozen? ⟨b, o, none⟩ = false)
    (h : ∀ w', w' = w.setCell ⟨b, o, none⟩ v → wpList P ops Q rest (a.put op.dst undef) w') : wpList P ops Q (op :: rest) a w :=
  wpList_plain hgd fun _ hK => by
    unfold Oper.wp execOp
    simp only [ho, hx, hy, Instr.storeAt, Instr.sureAddr, Sem.run_bind, Sem.run_pure, Result.andThen_ok, run_storeVar_cell w b o ty v u hi h1 hc hz]
    exact hK _ _ (h _ rfl)
/-- A store of a whole value of several cells: the world behind it stands behind an equation. -/
theorem wpList_store_row (hgd : op.guard = none) (ty : TypeId) (x y : Operand) (ho : op.op = .store ty x y) (b o : Nat) (cells : Array Value) (hx : a.eval x = .pointer (some ⟨b, o, none⟩)) (hy : a.eval y = .agg cells)
    (ht : w.there b o cells.size) (hi : (P.info? ty).map (·.size) = some cells.size) (h1 : cells.all (·.oneCell') = true)
    (h : ∀ w', w' = w.setCells b o cells.toList → wpList P ops Q rest (a.put op.dst undef) w') : wpList P ops Q (op :: rest) a w :=
  wpList_store_mid hgd ty x y ho b o cells hx hy ht hi h1 (h _ rfl)
/-- .. of what the cell holds: the world stays. -/
theorem wpList_store_held (hgd : op.guard = none) (ty : TypeId) (x y : Operand) (ho : op.op = .store ty x y) (b o : Nat) (v : Value) (hx : a.eval x = .pointer (some ⟨b, o, none⟩)) (hy : a.eval y = v)
    (hi : (P.info? ty).map (·.size) = some 1) (h1 : v.oneCell' = true) (hc : w.cell? ⟨b, o, none⟩ = some v) (hz : w.frozen? ⟨b, o, none⟩ = false)
    (h : wpList P ops Q rest (a.put op.dst undef) w) : wpList P ops Q (op :: rest) a w :=
  wpList_store_cell hgd ty x y ho b o v v hx hy hi h1 hc hz fun w' e => by rw [e, setCell_same hc]; exact h
end

/-- Block b holds these cells, none of which is frozen. -/
def Blk (w : World) (b : Nat) (cs : List Value) : Prop := ∃ t, w.heap[b]? = some (.cells cs.toArray t (0, 0))
section
variable {w w' : World} {b : Nat} {cs : List Value}
theorem Blk.lt (h : Blk w b cs) : b < w.heap.size := by
  obtain ⟨t, h⟩ := h
  by_cases hl : b < w.heap.size
  · exact hl
  · rw [Array.getElem?_eq_none (by omega)] at h; cases h
theorem Blk.cell (h : Blk w b cs) {j : Nat} {v : Value} (hj : cs[j]? = some v) : w.cell? ⟨b, j, none⟩ = some v := by
  obtain ⟨t, h⟩ := h
  simp only [World.cell?, h]
  simpa using hj
theorem Blk.frozen (h : Blk w b cs) (j : Nat) : w.frozen? ⟨b, j, none⟩ = false := by
  obtain ⟨t, h⟩ := h
  simp [World.frozen?, h]
theorem Blk.below (h : Blk w b cs) (hb : Below w.heap.size w w') : Blk w' b cs := by
  obtain ⟨t, h'⟩ := h
  exact ⟨t, grown_block (grown_of_below hb none) _ _ h' (by simp)⟩
theorem Blk.grown {row : Option Nat} (h : Blk w b cs) (hg : w.grownBy w' row) (hne : some b ≠ row) : Blk w' b cs := by
  obtain ⟨t, h'⟩ := h
  exact ⟨t, grown_block hg _ _ h' hne⟩
theorem Blk.alloc (h : Blk w b cs) (o : Obj) : Blk (w.alloc o) b cs := h.below ((Below.refl _ _).alloc (Nat.le_refl _) o)
theorem Blk.drew (h : Blk w b cs) : Blk w.drew b cs := h
theorem Blk.new (w : World) (cs : List Value) (t : TypeId) : Blk (w.alloc (.cells cs.toArray t)) w.heap.size cs := ⟨t, heap_alloc_new w _⟩
theorem Blk.set (h : Blk w b cs) (j : Nat) (v : Value) : Blk (w.setCell ⟨b, j, none⟩ v) b (cs.set j v) := by
  obtain ⟨t, h⟩ := h
  refine ⟨t, ?_⟩
  unfold World.setCell
  simp only [Array.getElem?_modify, if_true, h, Option.map_some, Option.isSome_none, Bool.false_eq_true, if_false]
  congr 2
  apply Array.toList_inj.1
  simp
theorem Blk.set_other (h : Blk w b cs) {a : Addr} (v : Value) (hne : b ≠ a.block) : Blk (w.setCell a v) b cs := by
  obtain ⟨t, h⟩ := h
  refine ⟨t, ?_⟩
  rw [← h]
  unfold World.setCell
  simp [Array.getElem?_modify, Ne.symm hne]
theorem Blk.range (h : Blk w b cs) : w.rangeAt b 0 cs := fun j v hj => by rw [Nat.zero_add]; exact h.cell hj
theorem Blk.there (h : Blk w b cs) : w.there b 0 cs.length := fun j hj => by
  rw [Nat.zero_add]
  exact ⟨by rw [h.cell (List.getElem?_eq_getElem hj)]; rfl, h.frozen j⟩
theorem Blk.sets : ∀ {vs : List Value} {o : Nat} {w : World} {cs : List Value}, Blk w b cs → o + vs.length ≤ cs.length → Blk (w.setCells b o vs) b (cs.take o ++ vs ++ cs.drop (o + vs.length))
  | [], o, w, cs, h, _ => by
    rw [World.setCells]
    simpa using h
  | v :: r, o, w, cs, h, hl => by
    rw [World.setCells]
    simp only [List.length_cons] at hl
    have := Blk.sets (vs := r) (o := o + 1) (h.set o v) (by simp; omega)
    have e : List.take (o + 1) (cs.set o v) ++ r ++ List.drop (o + 1 + r.length) (cs.set o v) = List.take o cs ++ (v :: r) ++ List.drop (o + (v :: r).length) cs := by
      rw [List.take_set, List.drop_set_of_lt (by omega)]
      have e1 : (List.take (o + 1) cs).set o v = List.take o cs ++ [v] := by
        rw [List.take_add_one, List.getElem?_eq_getElem (by omega)]
        rw [List.set_append_right _ _ (by simp; omega)]
        simp [Nat.min_eq_left (show o ≤ cs.length by omega)]
      rw [e1, show o + (v :: r).length = o + 1 + r.length by simp; omega]
      simp
    rw [e] at this
    exact this
theorem below_setCells {B : Nat} {a : World} (b : Nat) (hb : B ≤ b) : ∀ (vs : List Value) (o : Nat) {w : World}, Below B a w → Below B a (w.setCells b o vs)
  | [], _, _, h => h
  | v :: r, o, w, h => by
    rw [World.setCells]
    exact below_setCells b hb r (o + 1) (h.setCell hb v)
theorem setCells_other (b : Nat) : ∀ (vs : List Value) (o : Nat) (w : World) {p : Addr}, p.block ≠ b → (w.setCells b o vs).cell? p = w.cell? p
  | [], _, _, _, _ => rfl
  | v :: r, o, w, p, h => by
    rw [World.setCells, setCells_other b r (o + 1) _ h]
    exact World.cell?_setCell_other _ _ _ _ (fun e => h (by rw [← e]))
/-- The front of a new block. -/
theorem cell_front (W : World) (X Z : Array Value) (T : TypeId) (b j : Nat) (u : Value) (hb : b = W.heap.size) (h : X[j]? = some u) : (W.alloc (.cells (X ++ Z) T)).cell? ⟨b, j, none⟩ = some u := by
  subst hb
  have hj : j < X.size := by by_cases hl : j < X.size; exact hl; rw [Array.getElem?_eq_none (by omega)] at h; cases h
  have e := heap_alloc_new W (.cells (X ++ Z) T)
  simp only [World.cell?, e]
  rw [Array.getElem?_append_left hj]
  exact h
/-- The store of a whole value into a whole block. -/
theorem Blk.all (h : Blk w b cs) {vs : List Value} (hl : vs.length = cs.length) : Blk (w.setCells b 0 vs) b vs := by
  have := h.sets (vs := vs) (o := 0) (by omega)
  simpa [hl] using this
end
end Go.Proofs.YtkaelnfhohggeaaDoor
