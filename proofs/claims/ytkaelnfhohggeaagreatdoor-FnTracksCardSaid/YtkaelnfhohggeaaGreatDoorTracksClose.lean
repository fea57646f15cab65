/- What lies behind the last store of the thin package's reader of tracks. -/
import Derived.Test.YtkaelnfhohggeaaGreatDoorZZTracks
import Derived.Test.YtkaelnfhohggeaaGreatDoorCells
namespace Go.Proofs.YtkaelnfhohggeaaGreatDoor
open Go.RowKit Go.WideMaps Go.Maps

theorem frozen_drew {w : World} {p : Addr} (h : w.frozen? p = false) : w.drew.frozen? p = false := h
theorem lt_al {w : World} {b : Nat} (h : b < w.heap.size) (o : Obj) : b < (w.alloc o).heap.size := by rw [World.size_alloc]; omega
theorem lt_drew {w : World} {b : Nat} (h : b < w.heap.size) : b < w.drew.heap.size := h
theorem grown_drew {w x : World} {row : Option Nat} (h : w.grownBy x row) : w.grownBy x.drew row := ⟨h.os, h.tape, h.output, h.size, h.block⟩
theorem grown_set {w x : World} {b o : Nat} (h : w.grownBy x (some b)) (v : Value) : w.grownBy (x.setCell ⟨b, o, none⟩ v) (some b) := by
  refine ⟨h.os, h.tape, h.output, by have := h.size; simpa [World.setCell] using this, fun i hi hne => ?_⟩
  rw [← h.block i hi hne]
  have : b ≠ i := fun e => hne (by rw [e])
  unfold World.setCell
  simp [Array.getElem?_modify, this]
/-- What lies behind the last store of the thin package's reader. -/
theorem tracks_close {w w3 : World} (ob b3 k3 kk n : Nat) (mid s t : ByteArray) (u : Value) (hb : Below w.heap.size w w3) (lo : ob < w.heap.size) (co : w3.cell? ⟨ob, 0, none⟩ = some u) (zo : w3.frozen? ⟨ob, 0, none⟩ = false)
    (hl : w.heap.size ≤ b3) (c3 : w3.cell? ⟨b3, 0, none⟩ = some (.int .u32 n)) (X Z : Array Value) (hX : X = #[.string mid, .string ⟨#[97, 117, 100, 105, 111]⟩, .string s, .string t, .slice (some ⟨b3, 0, none⟩) 1 k3, .int .u32 0, .int .u32 0, .slice none 0 0]) (T1 T2 : TypeId) :
    let v : Value := .slice (some ⟨w3.heap.size + 1, 0, none⟩) 1 kk
    let Wf := (((w3.setCell ⟨ob, 0, none⟩ v).alloc (.cells X T1)).alloc (.cells (X ++ Z) T2)).drew
    Wf.cell? ⟨ob, 0, none⟩ = some v ∧ Wf.frozen? ⟨ob, 0, none⟩ = false ∧ ZTrack (w.heap.size ≤ ·) Wf (w3.heap.size + 1) mid s t n ∧ w.grownBy Wf (some ob) := by
  intro v Wf
  subst hX
  have sz := hb.size
  have e1 : w3.heap.size + 1 = ((w3.setCell ⟨ob, 0, none⟩ v).alloc (.cells #[.string mid, .string ⟨#[97, 117, 100, 105, 111]⟩, .string s, .string t, .slice (some ⟨b3, 0, none⟩) 1 k3, .int .u32 0, .int .u32 0, .slice none 0 0] T1)).heap.size := by simp
  have c1 := World.cell?_setCell_same w3 ⟨ob, 0, none⟩ v co
  have z1 : (w3.setCell ⟨ob, 0, none⟩ v).frozen? ⟨ob, 0, none⟩ = false := by rw [World.frozen?_setCell]; exact zo
  have cb : (w3.setCell ⟨ob, 0, none⟩ v).cell? ⟨b3, 0, none⟩ = some (.int .u32 n) := (World.cell?_setCell_other _ _ _ _ (fun e => by injection e with e _ _; omega)).trans c3
  refine ⟨cell_al (cell_al c1 _) _, frozen_drew (frozen_al (cell_al c1 _) (frozen_al c1 z1 _) _), ⟨by omega, cell_app _ _ _ _ _ _ _ e1 rfl, cell_app _ _ _ _ _ _ _ e1 rfl, cell_app _ _ _ _ _ _ _ e1 rfl, cell_app _ _ _ _ _ _ _ e1 rfl, ⟨b3, k3, hl, cell_al (cell_al cb _) _, cell_app _ _ _ _ _ _ _ e1 rfl⟩, cell_app _ _ _ _ _ _ _ e1 rfl, cell_app _ _ _ _ _ _ _ e1 rfl, cell_app _ _ _ _ _ _ _ e1 rfl⟩, ?_⟩
  have g0 : w.grownBy (w3.setCell ⟨ob, 0, none⟩ v) (some ob) := grown_set (grown_of_below hb _) v
  have g1 := g0.andThen (World.grownBy_alloc (w3.setCell ⟨ob, 0, none⟩ v) (.cells #[.string mid, .string ⟨#[97, 117, 100, 105, 111]⟩, .string s, .string t, .slice (some ⟨b3, 0, none⟩) 1 k3, .int .u32 0, .int .u32 0, .slice none 0 0] T1) none) (fun j hj => by cases hj)
  exact grown_drew (g1.andThen (row' := none) (World.grownBy_alloc _ _ _) (fun j hj => by cases hj))

end Go.Proofs.YtkaelnfhohggeaaGreatDoor
