/- trackDetailsFromSDP on the description of FnTracks: one track. -/
import Derived.Test.YtkaelnfhohggeaaGreatDoorTrackOuter
namespace Go.Proofs.YtkaelnfhohggeaaGreatDoor
open Go.RowKit Go.WideMaps Go.Maps

set_option maxHeartbeats 4000000 in
set_option maxRecDepth 1000000 in
theorem trackDetails_any {D : Nat → Prop} (q : Nat) (mid s t : ByteArray) (n : Nat) (fs : List ByteArray) (w : World) (hm : wordB mid = true) (hs : wordB s = true) (ht : wordB t = true) (hn : n ≤ 4294967295)
    (hsd : SD D w q [] [⟨⟨#[97, 117, 100, 105, 111]⟩, fs, trackAttrs mid s t n⟩]) :
    Calls Tryz.prog 20 #[.pointer (some ⟨q, 0, none⟩)] w fun e w' => ∃ g c, e = .returned (.slice (some ⟨g, 0, none⟩) 1 c) ∧ TrackRow (w.heap.size ≤ ·) w' g mid s t n ∧ Below w.heap.size w w' := by
  have SDH := Lib.hid hsd
  obtain ⟨_, _, A, c0, ps, c18, hptr, hlen, hmds⟩ := hsd
  obtain ⟨p, rfl⟩ : ∃ p, ps = [p] := by cases ps with | nil => cases hlen | cons p r => cases r with | nil => exact ⟨p, rfl⟩ | cons _ _ => simp at hlen
  obtain ⟨b, o, rfl, _, cp⟩ := hptr 0 p rfl
  have hmd := hmds 0 p _ rfl rfl
  simp only [Nat.add_zero] at cp
  have HM := Lib.hid hmd
  clear hptr hmds hlen hmd
  go_enter Tryz.func20, Tryz.ntmps20
  go_wp2
  refine wp_loop_rounds 2 ?_
  rw [rounds_succ]
  apply round_outer q b o c0 n p mid s t fs w hm hs ht hn SDH.out cp HM.out
  intro a1 w1 g c x4 x5 x6 x7 x8 x9 x11 x12 x86 x87 x88 hf hb tr
  obtain ⟨f, rfl⟩ := frame_fn hf
  have TR := Lib.hid tr
  clear hf tr
  rw [rounds_succ]
  go_wp2_with fail
  go_ret
  exact ⟨g, c, rfl, TR.out, hb⟩
end Go.Proofs.YtkaelnfhohggeaaGreatDoor
