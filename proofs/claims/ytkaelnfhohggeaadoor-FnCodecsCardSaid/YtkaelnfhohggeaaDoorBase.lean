/- Plain words for memory that all walks of this seat share: what is kept when a call only makes new blocks; slices that read as lists of strings or of keys with values. -/
import Derived.Test.YtkaelnfhohggeaaDoorRows
import Derived.WalkKit
import Derived.WalkSpells
import Derived.WalkLawsBesides
import Derived.Lib.Hide
import Derived.Maps.AppendAt
import Derived.Deep.AppendLies
namespace Go.Proofs.YtkaelnfhohggeaaDoor
open Go.RowKit

/-- Every cell of w reads in w' as it did. -/
def Kp (w w' : World) : Prop := ∀ p v, w.cell? p = some v → w'.cell? p = some v

theorem Kp.refl (w : World) : Kp w w := fun _ _ h => h
theorem Kp.trans {a b c : World} (h : Kp a b) (k : Kp b c) : Kp a c := fun p v hp => k p v (h p v hp)
theorem kp_of_below {w w' : World} (h : Below w.heap.size w w') : Kp w w' := fun _ _ hp => (h.cell (World.block_lt_of_cell? _ _ hp)).trans hp

theorem Kp.alloc (w : World) (o : Obj) : Kp w (w.alloc o) := fun _ _ hp => (World.cell?_alloc_lt _ _ _ (World.block_lt_of_cell? _ _ hp)).trans hp
theorem Kp.drew (w : World) : Kp w w.drew := fun _ _ hp => hp

/-- Two steps, each of which makes new blocks alone. -/
theorem below_step {B : Nat} {a b c : World} (h : Below B a b) (hB : B ≤ b.heap.size) (k : Below b.heap.size b c) : Below B a c := h.trans (k.mono hB)
theorem below_le {B : Nat} {a b : World} (h : Below B a b) (hB : B ≤ a.heap.size) : B ≤ b.heap.size := Nat.le_trans hB h.size

theorem grown_of_below {a w : World} (h : Below a.heap.size a w) (row : Option Nat) : a.grownBy w row := ⟨h.os, h.tape, h.output, h.size, fun i hi _ => h.block i hi⟩
/-- What a call owns it owns still behind a call that only makes new blocks. -/
theorem own_below {w w' : World} {base : Nat} {e : TypeId} {size : Nat} {v : Value} {n : Nat} {xs : List Value} (h : w.ownsRow base e size v n xs) (hb : Below w.heap.size w w') : w'.ownsRow base e size v n xs :=
  h.kept (grown_of_below hb none) (by cases v.ownBlock <;> simp)

theorem cell_al {w : World} {p : Addr} {v : Value} (h : w.cell? p = some v) (o : Obj) : (w.alloc o).cell? p = some v := Kp.alloc w o p v h
theorem frozen_al {w : World} {p : Addr} {v : Value} (h : w.cell? p = some v) (hz : w.frozen? p = false) (o : Obj) : (w.alloc o).frozen? p = false :=
  (((Below.refl _ w).alloc (Nat.le_refl _) o).frozen (World.block_lt_of_cell? _ _ h)).trans hz

theorem cell_drew (w : World) (p : Addr) : w.drew.cell? p = w.cell? p := rfl
theorem new_second (w : World) (X Y : Obj) : ((w.alloc X).alloc Y).heap[w.heap.size + 1]? = some Y := by
  have h := heap_alloc_new (w.alloc X) Y
  simpa using h

theorem new_first (w : World) (X Y : Obj) : ((w.alloc X).alloc Y).heap[w.heap.size]? = some X := (Below.heap_alloc (w.alloc X) Y _ (by simp)).trans (heap_alloc_new w X)
theorem grown_block {w w' : World} {row : Option Nat} (h : w.grownBy w' row) : ∀ (B : Nat) (o : Obj), w.heap[B]? = some o → some B ≠ row → w'.heap[B]? = some o := fun B o hb hne =>
  (h.block B (by by_cases hl : B < w.heap.size; exact hl; rw [Array.getElem?_eq_none (by omega)] at hb; cases hb) hne).trans hb

theorem own_shape {w : World} {base : Nat} {e : TypeId} {size : Nat} {v : Value} {n : Nat} {xs : List Value} (h : w.ownsRow base e size v n xs) : ∃ A c, v = .slice A n c := by
  rcases h.2 with ⟨rfl, rfl⟩ | ⟨g, cap, cur, rfl, _⟩
  · exact ⟨_, _, rfl⟩
  · exact ⟨_, _, rfl⟩

abbrev KV := ByteArray × ByteArray

/-- Every cell of w in a block of D reads in w' as it did. -/
def KpOn (D : Nat → Prop) (w w' : World) : Prop := ∀ p v, D p.block → w.cell? p = some v → w'.cell? p = some v
theorem Kp.on {w w' : World} (h : Kp w w') (D : Nat → Prop) : KpOn D w w' := fun p v _ hp => h p v hp

theorem KpOn.refl (D : Nat → Prop) (w : World) : KpOn D w w := fun _ _ _ h => h
theorem KpOn.trans {D : Nat → Prop} {a b c : World} (h : KpOn D a b) (k : KpOn D b c) : KpOn D a c := fun p v hd hp => k p v hd (h p v hd hp)
theorem KpOn.drew {D : Nat → Prop} {a w : World} (h : KpOn D a w) : KpOn D a w.drew := h
/-- A store into a block outside D. -/
theorem KpOn.setCell {D : Nat → Prop} {a w : World} (h : KpOn D a w) {p : Addr} (hp : ¬ D p.block) (u : Value) : KpOn D a (w.setCell p u) := fun q v hd hq => by
  rw [World.cell?_setCell_other w p q u (fun e => by subst e; exact hp hd)]
  exact h q v hd hq

/-- The slice at A reads as these strings; its cells lie in a block of D. -/
def Strs (D : Nat → Prop) (w : World) (A : Option Addr) (l : List ByteArray) : Prop :=
  ∀ k s, l[k]? = some s → ∃ b o, A = some ⟨b, o, none⟩ ∧ D b ∧ w.cell? ⟨b, o + k, none⟩ = some (.string s)
/-- The slice at A reads as these keys with values; its cells lie in a block of D. -/
def KVs (D : Nat → Prop) (w : World) (A : Option Addr) (l : List KV) : Prop :=
  ∀ k p, l[k]? = some p → ∃ b o, A = some ⟨b, o, none⟩ ∧ D b ∧ w.cell? ⟨b, o + k * 2, none⟩ = some (.string p.1) ∧ w.cell? ⟨b, o + k * 2 + 1, none⟩ = some (.string p.2)

section
variable {D D' : Nat → Prop} {w w' : World} {A : Option Addr}
theorem Strs.keepOn {l : List ByteArray} (h : Strs D w A l) (k : KpOn D w w') : Strs D w' A l := fun i s hs =>
  let ⟨b, o, e, hd, c⟩ := h i s hs; ⟨b, o, e, hd, k _ _ hd c⟩
theorem KVs.keepOn {l : List KV} (h : KVs D w A l) (k : KpOn D w w') : KVs D w' A l := fun i s hs =>
  let ⟨b, o, e, hd, c, d⟩ := h i s hs; ⟨b, o, e, hd, k _ _ hd c, k _ _ hd d⟩
theorem Strs.keep {l : List ByteArray} (h : Strs D w A l) (k : Kp w w') : Strs D w' A l := h.keepOn (k.on D)
theorem KVs.keep {l : List KV} (h : KVs D w A l) (k : Kp w w') : KVs D w' A l := h.keepOn (k.on D)
/-- A wider D; that the cells lie in w may be used. -/
theorem Strs.wide {l : List ByteArray} (h : Strs D w A l) (k : ∀ b, D b → b < w.heap.size → D' b) : Strs D' w A l := fun i s hs =>
  let ⟨b, o, e, hd, c⟩ := h i s hs; ⟨b, o, e, k b hd (World.block_lt_of_cell? _ _ c), c⟩
theorem KVs.wide {l : List KV} (h : KVs D w A l) (k : ∀ b, D b → b < w.heap.size → D' b) : KVs D' w A l := fun i s hs =>
  let ⟨b, o, e, hd, c, d⟩ := h i s hs; ⟨b, o, e, k b hd (World.block_lt_of_cell? _ _ c), c, d⟩
theorem Strs.nil (D : Nat → Prop) (w : World) (A : Option Addr) : Strs D w A [] := fun k s h => by simp at h
theorem KVs.nil (D : Nat → Prop) (w : World) (A : Option Addr) : KVs D w A [] := fun k s h => by simp at h
end

def kvCells (l : List KV) : List Value := l.flatMap fun p => [.string p.1, .string p.2]
theorem kvCells_length (l : List KV) : (kvCells l).length = l.length * 2 := by
  unfold kvCells
  induction l with
  | nil => rfl
  | cons a r ih => simp only [List.flatMap_cons, List.length_append, List.length_cons, List.length_nil, ih]; omega
theorem kvCells_snoc (l : List KV) (p : KV) : kvCells (l ++ [p]) = kvCells l ++ [.string p.1, .string p.2] := by simp [kvCells]
theorem kvCells_get0 : ∀ (l : List KV) (k : Nat) (p : KV), l[k]? = some p → (kvCells l)[k * 2]? = some (.string p.1)
  | [], k, p, h => by simp at h
  | a :: r, 0, p, h => by simp at h; subst h; rfl
  | a :: r, k + 1, p, h => by
    have := kvCells_get0 r k p (by simpa using h)
    rw [show (k + 1) * 2 = k * 2 + 2 from by omega]
    simpa [kvCells] using this
theorem kvCells_get1 : ∀ (l : List KV) (k : Nat) (p : KV), l[k]? = some p → (kvCells l)[k * 2 + 1]? = some (.string p.2)
  | [], k, p, h => by simp at h
  | a :: r, 0, p, h => by simp at h; subst h; rfl
  | a :: r, k + 1, p, h => by
    have := kvCells_get1 r k p (by simpa using h)
    rw [show (k + 1) * 2 + 1 = (k * 2 + 1) + 2 from by omega]
    simpa [kvCells] using this

theorem add_at (g j : Nat) : (⟨g, 0, none⟩ : Addr).add j = ⟨g, j, none⟩ := by
  unfold Addr.add
  split
  · subst_vars; rfl
  · simp

/-- A slice that the call itself made, read as a list. -/
theorem own_kvs {w : World} {base : Nat} {e : TypeId} {v : Value} {n : Nat} {l : List KV} (h : w.ownsRow base e 2 v n (kvCells l)) :
    ∃ A c, v = .slice A l.length c ∧ KVs (base ≤ ·) w A l := by
  have hn : n = l.length := by have h1 := h.1; rw [kvCells_length] at h1; omega
  subst hn
  have hc := @World.ownsRow.cells _ _ _ _ _ _ _ h
  rcases h.2 with ⟨rfl, hx⟩ | ⟨g, cap, cur, rfl, _⟩
  · have : l = [] := by
      cases l with
      | nil => rfl
      | cons a r => cases hx
    subst this
    exact ⟨none, 0, rfl, KVs.nil _ _ _⟩
  · refine ⟨_, _, rfl, fun k p hp => ⟨g, 0, rfl, (h.lt g rfl).1, ?_, ?_⟩⟩
    · have := hc (g := g) rfl _ _ (kvCells_get0 l k p hp)
      simpa [add_at] using this
    · have := hc (g := g) rfl _ _ (kvCells_get1 l k p hp)
      simpa [add_at, Nat.add_assoc] using this

theorem own_strs {w : World} {base : Nat} {e : TypeId} {v : Value} {n : Nat} {l : List ByteArray} (h : w.ownsRow base e 1 v n (l.map Value.string)) :
    ∃ A c, v = .slice A l.length c ∧ Strs (base ≤ ·) w A l := by
  have hn : n = l.length := by have h1 := h.1; simp at h1; omega
  subst hn
  have hc := @World.ownsRow.cells _ _ _ _ _ _ _ h
  rcases h.2 with ⟨rfl, hx⟩ | ⟨g, cap, cur, rfl, _⟩
  · have : l = [] := by simpa using hx
    subst this
    exact ⟨none, 0, rfl, Strs.nil _ _ _⟩
  · refine ⟨_, _, rfl, fun k s hs => ⟨g, 0, rfl, (h.lt g rfl).1, ?_⟩⟩
    have := hc (g := g) rfl k (.string s) (by simp [hs])
    simpa [add_at] using this

end Go.Proofs.YtkaelnfhohggeaaDoor
