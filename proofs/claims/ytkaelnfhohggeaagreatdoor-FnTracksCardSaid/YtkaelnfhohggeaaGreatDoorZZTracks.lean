/- ZZTracks on the description of FnTracks: one track. -/
import Derived.Test.YtkaelnfhohggeaaGreatDoorTrackTop
namespace Go.Proofs.YtkaelnfhohggeaaGreatDoor
open Go.RowKit Go.WideMaps Go.Maps

/-- Block g's first element is the law's track, as the thin package gets it. -/
def ZTrack (D : Nat → Prop) (w : World) (g : Nat) (mid s t : ByteArray) (n : Nat) : Prop :=
  D g ∧ w.cell? ⟨g, 0, none⟩ = some (.string mid) ∧ w.cell? ⟨g, 1, none⟩ = some (.string ⟨#[97, 117, 100, 105, 111]⟩) ∧ w.cell? ⟨g, 2, none⟩ = some (.string s) ∧ w.cell? ⟨g, 3, none⟩ = some (.string t) ∧
    (∃ b k, D b ∧ w.cell? ⟨b, 0, none⟩ = some (.int .u32 n) ∧ w.cell? ⟨g, 4, none⟩ = some (.slice (some ⟨b, 0, none⟩) 1 k)) ∧
    w.cell? ⟨g, 5, none⟩ = some (.int .u32 0) ∧ w.cell? ⟨g, 6, none⟩ = some (.int .u32 0) ∧ w.cell? ⟨g, 7, none⟩ = some (.slice none 0 0)

theorem cell_app (W : World) (X Z : Array Value) (T : TypeId) (b j : Nat) (u : Value) (hb : b = W.heap.size) (h : X[j]? = some u) : (W.alloc (.cells (X ++ Z) T)).cell? ⟨b, j, none⟩ = some u := by
  subst hb
  have hj : j < X.size := by by_cases hl : j < X.size; exact hl; rw [Array.getElem?_eq_none (by omega)] at h; cases h
  have e := heap_alloc_new W (.cells (X ++ Z) T)
  simp only [World.cell?, e]
  rw [Array.getElem?_append_left hj]
  exact h

set_option maxHeartbeats 4000000 in
set_option maxRecDepth 1000000 in
theorem zzTracks_any {D : Nat → Prop} (q : Nat) (mid s t : ByteArray) (n : Nat) (fs : List ByteArray) (w : World) (hm : wordB mid = true) (hs : wordB s = true) (ht : wordB t = true) (hn : n ≤ 4294967295)
    (hsd : SD D w q [] [⟨⟨#[97, 117, 100, 105, 111]⟩, fs, trackAttrs mid s t n⟩]) :
    Calls Tryz.prog 12 #[.pointer (some ⟨q, 0, none⟩)] w fun e w' => ∃ g c, e = .returned (.slice (some ⟨g, 0, none⟩) 1 c) ∧ ZTrack (w.heap.size ≤ ·) w' g mid s t n ∧ Below w.heap.size w w' := by
  have H := Lib.hid (trackDetails_any q mid s t n fs w hm hs ht hn hsd)
  have hwr : IntKind.u32.wrap (n : Int) = n := IntWalk.u32_in _ (by omega)
  clear hsd
  go_enter Tryz.func12, Tryz.ntmps12
  go_wp2_with (go_at_call 20; refine H.out.mono ?_; rintro e w1 ⟨g, c, rfl, ⟨hg, t0, t1, t2, t3, ⟨sb, hsb, hsg, tsb, t4⟩, t5, t6, t7, tz⟩, hb⟩; clear tz; have lsb : sb < w1.heap.size := World.block_lt_of_cell? _ _ tsb; have ne1 : sb ≠ w1.heap.size := (by omega); have ne2 : sb ≠ w1.heap.size + 1 := (by omega))
  refine wp_loop_rounds 2 ?_
  rw [rounds_succ]
  go_wp2_with fail
  refine wp_loop_rounds 2 ?_
  rw [rounds_succ]
  go_wp2_with fail
  rw [rounds_succ]
  go_wp2_with fail
  rw [rounds_succ]
  go_wp2_with fail
  go_ret
  have sz := hb.size
  refine ⟨w1.heap.size + 1 + 1 + 1 + 1 + 1, _, rfl, ⟨by omega, ?_, ?_, ?_, ?_, ⟨w1.heap.size + 1 + 1 + 1, (Question.appendCap 1 0 24).cut (w1.tape w1.drawn (Question.appendCap 1 0 24)), by omega, ?_, ?_⟩, ?_, ?_, ?_⟩, ?_⟩
  case refine_10 =>
    refine Below.drew (Below.drew ?_)
    refine ((((((hb.alloc (by omega) _).alloc (by simp; omega) _).alloc (by simp; omega) _).alloc (by simp; omega) _).alloc (by simp; omega) _).alloc (by simp; omega) _)
  case refine_5 => exact cell_al (cell_al (cell_app _ _ _ _ _ _ _ (by simp) rfl) _) _
  all_goals exact cell_app _ _ _ _ _ _ _ (by simp) rfl
end Go.Proofs.YtkaelnfhohggeaaGreatDoor
