/- The thin package's reader of tracks. -/
import Derived.Test.YtkaelnfhohggeaaGreatDoorTracksFn
import Derived.Test.YtkaelnfhohggeaaGreatDoorTry
namespace Go.Proofs.YtkaelnfhohggeaaGreatDoor
open Go.RowKit Go.WideMaps Go.Maps

theorem ZTrack.keepOn {D : Nat → Prop} {w w' : World} {g n : Nat} {mid s t : ByteArray} (h : ZTrack D w g mid s t n) (k : KpOn D w w') : ZTrack D w' g mid s t n :=
  let ⟨hg, t0, t1, t2, t3, ⟨b, c, hb, tb, t4⟩, t5, t6, t7⟩ := h
  ⟨hg, k _ _ hg t0, k _ _ hg t1, k _ _ hg t2, k _ _ hg t3, ⟨b, c, hb, k _ _ hb tb, k _ _ hg t4⟩, k _ _ hg t5, k _ _ hg t6, k _ _ hg t7⟩
theorem ZTrack.wide {D D' : Nat → Prop} {w : World} {g n : Nat} {mid s t : ByteArray} (h : ZTrack D w g mid s t n) (k : ∀ b, D b → D' b) : ZTrack D' w g mid s t n :=
  let ⟨hg, t0, t1, t2, t3, ⟨b, c, hb, tb, t4⟩, t5, t6, t7⟩ := h
  ⟨k _ hg, t0, t1, t2, t3, ⟨b, c, k _ hb, tb, t4⟩, t5, t6, t7⟩
theorem grown_cell {w w' : World} {b : Nat} (h : w.grownBy w' (some b)) {p : Addr} {v : Value} (hne : p.block ≠ b) (hc : w.cell? p = some v) : w'.cell? p = some v := by
  have := h.block p.block (World.block_lt_of_cell? _ _ hc) (fun e => hne (by injection e))
  simp only [World.cell?] at hc ⊢
  rw [this]; exact hc
theorem grown_frozen {w w' : World} {b : Nat} (h : w.grownBy w' (some b)) {p : Addr} {v : Value} (hne : p.block ≠ b) (hc : w.cell? p = some v) : w'.frozen? p = w.frozen? p := by
  have := h.block p.block (World.block_lt_of_cell? _ _ hc) (fun e => hne (by injection e))
  simp only [World.frozen?]
  rw [this]

theorem Tryz.enterTracks1 (cap : Array Value) (w : World) : Sem.run Tryz.prog (callFunc 11 cap) w = .ok (.enter 11 cap) w := by kernel_rfl

/-- What Tracks' function leaves. -/
def TracksDone (W : World) (ob : Nat) (mid s t : ByteArray) (n : Nat) (r : Bool) (w' : World) : Prop := r = true ∧ ∃ g k, w'.cell? ⟨ob, 0, none⟩ = some (.slice (some ⟨g, 0, none⟩) 1 k) ∧ w'.frozen? ⟨ob, 0, none⟩ = false ∧ ZTrack (W.heap.size ≤ ·) w' g mid s t n ∧ W.grownBy w' (some ob)

set_option maxHeartbeats 1000000 in
theorem tracks_any (aA mA : Option Addr) (ac mc : Nat) (mid s t : ByteArray) (n : Nat) (w : World) (hm : wordB mid = true) (hs : wordB s = true) (ht : wordB t = true) (hn : n ≤ 4294967295) (hmm : Meds w mA [trackMed mid s t n]) :
    Calls Tryz.prog 7 #[.agg #[.slice aA 0 ac, .slice mA 1 mc]] w fun e w' => ∃ g k, e = .returned (.slice (some ⟨g, 0, none⟩) 1 k) ∧ ZTrack (w.heap.size ≤ ·) w' g mid s t n ∧ Below w.heap.size w w' := by
  have hmf : ∀ (fn : Fn) (first cap : Array Value) (w : World), (Instr.makeFunc fn first cap).run Tryz.prog w = .ok (.func fn first cap) w := fun _ _ _ _ => rfl
  have hg : Calls Tryz.prog 11 #[.pointer (some ⟨w.heap.size, 0, none⟩), .pointer (some ⟨w.heap.size + 1, 0, none⟩)] (((w.alloc (.cells #[.slice aA 0 ac, .slice mA 1 mc] 35)).alloc (.cells #[.slice none 0 0] 36)).alloc (.cells #[.bool false] 4)) fun e w' => ∃ b, e = .returned (.bool b) ∧
      TracksDone (((w.alloc (.cells #[.slice aA 0 ac, .slice mA 1 mc] 35)).alloc (.cells #[.slice none 0 0] 36)).alloc (.cells #[.bool false] 4)) (w.heap.size + 1) mid s t n b w' ∧ w'.cell? ⟨((w.alloc (.cells #[.slice aA 0 ac, .slice mA 1 mc] 35)).alloc (.cells #[.slice none 0 0] 36)).heap.size, 0, none⟩ = some (.bool false) ∧ w'.frozen? ⟨((w.alloc (.cells #[.slice aA 0 ac, .slice mA 1 mc] 35)).alloc (.cells #[.slice none 0 0] 36)).heap.size, 0, none⟩ = false := by
    have k3 : Kp w (((w.alloc (.cells #[.slice aA 0 ac, .slice mA 1 mc] 35)).alloc (.cells #[.slice none 0 0] 36)).alloc (.cells #[.bool false] 4)) := ((Kp.alloc _ _).trans (Kp.alloc _ _)).trans (Kp.alloc _ _)
    refine (tracks1_any w.heap.size (w.heap.size + 1) aA mA ac mc mid s t n _ hm hs ht hn (hmm.keep k3) (by simp [go_sem]) (by simp [go_sem]) (by simp [go_sem]) (by simp [go_sem])).mono ?_
    rintro e w' ⟨rfl, g, k, hc, hz, hzt, hgr⟩
    have c2 : (((w.alloc (.cells #[.slice aA 0 ac, .slice mA 1 mc] 35)).alloc (.cells #[.slice none 0 0] 36)).alloc (.cells #[.bool false] 4)).cell? ⟨((w.alloc (.cells #[.slice aA 0 ac, .slice mA 1 mc] 35)).alloc (.cells #[.slice none 0 0] 36)).heap.size, 0, none⟩ = some (.bool false) := by simp [go_sem]
    refine ⟨true, rfl, ⟨rfl, g, k, hc, hz, hzt, hgr⟩, grown_cell hgr (by simp) c2, ?_⟩
    rw [grown_frozen hgr (by simp) c2]
    simp [go_sem]
  have HG := Lib.hid hg
  clear hg hmm
  go_enter Tryz.func7, Tryz.ntmps7
  go_wp2_with (go_at_call 10; refine (try_any _ _ _ _ (Tryz.enterTracks1 _) HG).mono ?_; rintro e w' ⟨b, w1, rfl, ⟨rfl, g, k, hc1, hz1, hzt, hgr⟩, rfl⟩)
  have hb0 : Below w.heap.size w w1 := ((((Below.refl w.heap.size w).alloc (Nat.le_refl _) _).alloc (by simp) _).alloc (by simp; omega) _).grown hgr (by simp; omega) (fun j hj => by cases hj; omega)
  have r1 := hzt.wide (D' := fun b => w.heap.size + 3 ≤ b) fun b hb => by have hb : _ ≤ b := hb; simp at hb; omega
  have kk : KpOn (fun b => w.heap.size + 3 ≤ b) w1 ((w1.setCell ⟨w.heap.size + 1 + 1, 0, none⟩ (.bool true)).setCell ⟨w.heap.size + 1, 0, none⟩ (.slice (some ⟨g, 0, none⟩) 1 k)) := ((KpOn.refl _ w1).setCell (by simp; try omega) _).setCell (by simp; try omega) _
  have f1 : ((w1.setCell ⟨w.heap.size + 1 + 1, 0, none⟩ (.bool true)).setCell ⟨w.heap.size + 1, 0, none⟩ (.slice (some ⟨g, 0, none⟩) 1 k)).cell? ⟨w.heap.size + 1, 0, none⟩ = some (.slice (some ⟨g, 0, none⟩) 1 k) := World.cell?_setCell_same _ _ _ ((World.cell?_setCell_other _ _ _ _ (fun e => by simp at e)).trans hc1)
  have bel : Below w.heap.size w ((w1.setCell ⟨w.heap.size + 1 + 1, 0, none⟩ (.bool true)).setCell ⟨w.heap.size + 1, 0, none⟩ (.slice (some ⟨g, 0, none⟩) 1 k)) := (hb0.setCell (by simp; try omega) _).setCell (by simp; try omega) _
  refine bodyPost_ret (v := .slice (some ⟨g, 0, none⟩) 1 k) (by simp [results, Tryz.results7, go_sem, f1]) rfl ⟨g, k, rfl, ?_, bel⟩
  exact (r1.keepOn kk).wide fun b hb => by have hb : _ ≤ b := hb; show _ ≤ b; omega
end Go.Proofs.YtkaelnfhohggeaaGreatDoor
