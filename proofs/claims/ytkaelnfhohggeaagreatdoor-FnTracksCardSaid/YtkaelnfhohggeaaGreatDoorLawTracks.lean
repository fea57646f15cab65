/- FnTracks: the walk of the law. -/
import Derived.Test.YtkaelnfhohggeaaGreatDoorTracksAll
import Derived.Test.YtkaelnfhohggeaaGreatDoorMid
import Derived.Test.YtkaelnfhohggeaaGreatDoorLater
import Derived.Test.YtkaelnfhohggeaaGreatDoorOpenU32
namespace Go.Proofs.YtkaelnfhohggeaaGreatDoor
open Go.RowKit

theorem track_meds (mid s t : ByteArray) (n : Nat) (w : World) : Meds ((((w.alloc (.cells #[.string ⟨#[57, 54]⟩] 9)).alloc (.cells #[.string ⟨#[109, 105, 100]⟩, .string mid, .string ⟨#[115, 101, 110, 100, 114, 101, 99, 118]⟩, .string ⟨#[]⟩, .string ⟨#[109, 115, 105, 100]⟩, .string (s ++ ⟨#[32]⟩ ++ t), .string ⟨#[115, 115, 114, 99]⟩, .string (dec n ++ ⟨#[32, 99, 110, 97, 109, 101, 58, 120]⟩), .string ⟨#[115, 115, 114, 99]⟩, .string (dec n ++ ⟨#[32, 109, 115, 105, 100, 58]⟩ ++ s ++ ⟨#[32]⟩ ++ t)] 29)).alloc (.cells #[.string ⟨#[97, 117, 100, 105, 111]⟩, .slice (some ⟨w.heap.size, 0, none⟩) 1 1, .slice (some ⟨w.heap.size + 1, 0, none⟩) 5 5] 32)).alloc (.cells #[.slice none 0 0, .slice (some ⟨w.heap.size + 1 + 1, 0, none⟩) 1 1] 35)) (some ⟨w.heap.size + 1 + 1, 0, none⟩) [trackMed mid s t n] := by
  have s1 : (w.alloc (.cells #[.string ⟨#[57, 54]⟩] 9)).heap.size = w.heap.size + 1 := World.size_alloc _ _
  have s2 : ((w.alloc (.cells #[.string ⟨#[57, 54]⟩] 9)).alloc (.cells #[.string ⟨#[109, 105, 100]⟩, .string mid, .string ⟨#[115, 101, 110, 100, 114, 101, 99, 118]⟩, .string ⟨#[]⟩, .string ⟨#[109, 115, 105, 100]⟩, .string (s ++ ⟨#[32]⟩ ++ t), .string ⟨#[115, 115, 114, 99]⟩, .string (dec n ++ ⟨#[32, 99, 110, 97, 109, 101, 58, 120]⟩), .string ⟨#[115, 115, 114, 99]⟩, .string (dec n ++ ⟨#[32, 109, 115, 105, 100, 58]⟩ ++ s ++ ⟨#[32]⟩ ++ t)] 29)).heap.size = w.heap.size + 1 + 1 := by rw [World.size_alloc, s1]
  have b1 : Blk ((((w.alloc (.cells #[.string ⟨#[57, 54]⟩] 9)).alloc (.cells #[.string ⟨#[109, 105, 100]⟩, .string mid, .string ⟨#[115, 101, 110, 100, 114, 101, 99, 118]⟩, .string ⟨#[]⟩, .string ⟨#[109, 115, 105, 100]⟩, .string (s ++ ⟨#[32]⟩ ++ t), .string ⟨#[115, 115, 114, 99]⟩, .string (dec n ++ ⟨#[32, 99, 110, 97, 109, 101, 58, 120]⟩), .string ⟨#[115, 115, 114, 99]⟩, .string (dec n ++ ⟨#[32, 109, 115, 105, 100, 58]⟩ ++ s ++ ⟨#[32]⟩ ++ t)] 29)).alloc (.cells #[.string ⟨#[97, 117, 100, 105, 111]⟩, .slice (some ⟨w.heap.size, 0, none⟩) 1 1, .slice (some ⟨w.heap.size + 1, 0, none⟩) 5 5] 32)).alloc (.cells #[.slice none 0 0, .slice (some ⟨w.heap.size + 1 + 1, 0, none⟩) 1 1] 35)) w.heap.size [.string ⟨#[57, 54]⟩] := (((Blk.new w _ _).alloc _).alloc _).alloc _
  have b2 : Blk ((((w.alloc (.cells #[.string ⟨#[57, 54]⟩] 9)).alloc (.cells #[.string ⟨#[109, 105, 100]⟩, .string mid, .string ⟨#[115, 101, 110, 100, 114, 101, 99, 118]⟩, .string ⟨#[]⟩, .string ⟨#[109, 115, 105, 100]⟩, .string (s ++ ⟨#[32]⟩ ++ t), .string ⟨#[115, 115, 114, 99]⟩, .string (dec n ++ ⟨#[32, 99, 110, 97, 109, 101, 58, 120]⟩), .string ⟨#[115, 115, 114, 99]⟩, .string (dec n ++ ⟨#[32, 109, 115, 105, 100, 58]⟩ ++ s ++ ⟨#[32]⟩ ++ t)] 29)).alloc (.cells #[.string ⟨#[97, 117, 100, 105, 111]⟩, .slice (some ⟨w.heap.size, 0, none⟩) 1 1, .slice (some ⟨w.heap.size + 1, 0, none⟩) 5 5] 32)).alloc (.cells #[.slice none 0 0, .slice (some ⟨w.heap.size + 1 + 1, 0, none⟩) 1 1] 35)) (w.heap.size + 1) (#[.string ⟨#[109, 105, 100]⟩, .string mid, .string ⟨#[115, 101, 110, 100, 114, 101, 99, 118]⟩, .string ⟨#[]⟩, .string ⟨#[109, 115, 105, 100]⟩, .string (s ++ ⟨#[32]⟩ ++ t), .string ⟨#[115, 115, 114, 99]⟩, .string (dec n ++ ⟨#[32, 99, 110, 97, 109, 101, 58, 120]⟩), .string ⟨#[115, 115, 114, 99]⟩, .string (dec n ++ ⟨#[32, 109, 115, 105, 100, 58]⟩ ++ s ++ ⟨#[32]⟩ ++ t)]).toList := by
    have h := ((Blk.new (w.alloc (.cells #[.string ⟨#[57, 54]⟩] 9)) (#[.string ⟨#[109, 105, 100]⟩, .string mid, .string ⟨#[115, 101, 110, 100, 114, 101, 99, 118]⟩, .string ⟨#[]⟩, .string ⟨#[109, 115, 105, 100]⟩, .string (s ++ ⟨#[32]⟩ ++ t), .string ⟨#[115, 115, 114, 99]⟩, .string (dec n ++ ⟨#[32, 99, 110, 97, 109, 101, 58, 120]⟩), .string ⟨#[115, 115, 114, 99]⟩, .string (dec n ++ ⟨#[32, 109, 115, 105, 100, 58]⟩ ++ s ++ ⟨#[32]⟩ ++ t)]).toList 29).alloc (.cells #[.string ⟨#[97, 117, 100, 105, 111]⟩, .slice (some ⟨w.heap.size, 0, none⟩) 1 1, .slice (some ⟨w.heap.size + 1, 0, none⟩) 5 5] 32)).alloc (.cells #[.slice none 0 0, .slice (some ⟨w.heap.size + 1 + 1, 0, none⟩) 1 1] 35)
    rw [s1] at h
    exact h
  have b3 : Blk ((((w.alloc (.cells #[.string ⟨#[57, 54]⟩] 9)).alloc (.cells #[.string ⟨#[109, 105, 100]⟩, .string mid, .string ⟨#[115, 101, 110, 100, 114, 101, 99, 118]⟩, .string ⟨#[]⟩, .string ⟨#[109, 115, 105, 100]⟩, .string (s ++ ⟨#[32]⟩ ++ t), .string ⟨#[115, 115, 114, 99]⟩, .string (dec n ++ ⟨#[32, 99, 110, 97, 109, 101, 58, 120]⟩), .string ⟨#[115, 115, 114, 99]⟩, .string (dec n ++ ⟨#[32, 109, 115, 105, 100, 58]⟩ ++ s ++ ⟨#[32]⟩ ++ t)] 29)).alloc (.cells #[.string ⟨#[97, 117, 100, 105, 111]⟩, .slice (some ⟨w.heap.size, 0, none⟩) 1 1, .slice (some ⟨w.heap.size + 1, 0, none⟩) 5 5] 32)).alloc (.cells #[.slice none 0 0, .slice (some ⟨w.heap.size + 1 + 1, 0, none⟩) 1 1] 35)) (w.heap.size + 1 + 1) (#[.string ⟨#[97, 117, 100, 105, 111]⟩, .slice (some ⟨w.heap.size, 0, none⟩) 1 1, .slice (some ⟨w.heap.size + 1, 0, none⟩) 5 5]).toList := by
    have h := (Blk.new ((w.alloc (.cells #[.string ⟨#[57, 54]⟩] 9)).alloc (.cells #[.string ⟨#[109, 105, 100]⟩, .string mid, .string ⟨#[115, 101, 110, 100, 114, 101, 99, 118]⟩, .string ⟨#[]⟩, .string ⟨#[109, 115, 105, 100]⟩, .string (s ++ ⟨#[32]⟩ ++ t), .string ⟨#[115, 115, 114, 99]⟩, .string (dec n ++ ⟨#[32, 99, 110, 97, 109, 101, 58, 120]⟩), .string ⟨#[115, 115, 114, 99]⟩, .string (dec n ++ ⟨#[32, 109, 115, 105, 100, 58]⟩ ++ s ++ ⟨#[32]⟩ ++ t)] 29)) (#[.string ⟨#[97, 117, 100, 105, 111]⟩, .slice (some ⟨w.heap.size, 0, none⟩) 1 1, .slice (some ⟨w.heap.size + 1, 0, none⟩) 5 5]).toList 32).alloc (.cells #[.slice none 0 0, .slice (some ⟨w.heap.size + 1 + 1, 0, none⟩) 1 1] 35)
    rw [s2] at h
    exact h
  intro k m hk
  match k, hk with
  | 0, hk =>
    cases hk
    refine ⟨w.heap.size + 1 + 1, 0, some ⟨w.heap.size, 0, none⟩, 1, some ⟨w.heap.size + 1, 0, none⟩, 5, rfl, b3.cell (j := 0) rfl, b3.cell (j := 1) rfl, fun j x hj => ?_, b3.cell (j := 2) rfl, fun j x hj => ?_⟩
    · match j, hj with
      | 0, hj => cases hj; exact ⟨_, _, rfl, trivial, b1.cell (j := 0) rfl⟩
    · refine ⟨_, _, rfl, trivial, ?_, ?_⟩
      · match j, hj with
        | 0, hj => cases hj; exact b2.cell (j := 0) rfl
        | 1, hj => cases hj; exact b2.cell (j := 2) rfl
        | 2, hj => cases hj; exact b2.cell (j := 4) rfl
        | 3, hj => cases hj; exact b2.cell (j := 6) rfl
        | 4, hj => cases hj; exact b2.cell (j := 8) rfl
      · match j, hj with
        | 0, hj => cases hj; exact b2.cell (j := 1) rfl
        | 1, hj => cases hj; exact b2.cell (j := 3) rfl
        | 2, hj => cases hj; exact b2.cell (j := 5) rfl
        | 3, hj => cases hj; exact b2.cell (j := 7) rfl
        | 4, hj => cases hj; exact b2.cell (j := 9) rfl
  | k + 1, hk => simp at hk

set_option maxHeartbeats 8000000 in
set_option maxRecDepth 1000000 in
/-- The law where its guards let it through. -/
theorem fnTracks_main (mid s t : ByteArray) (b o c n : Nat) (w : World) (hm : wordB mid = true) (hs : wordB s = true) (ht : wordB t = true) (hn0 : 0 < n) (hn : n ≤ 4294967295) (hc : w.cell? ⟨b, o, none⟩ = some (.int .u32 (n : Int))) :
    Calls Tryz.prog 3 #[.string mid, .string s, .string t, .slice (some ⟨b, o, none⟩) 1 c] w fun e w' => e = .returned (.bool true) ∧ Below w.heap.size w w' := by
  have z1 := (word_size hm).2
  have z2 := (word_size hs).2
  have z3 := (word_size ht).2
  have zn := dec_short hn
  have d1 : decide (2147483647 < mid.size) = false := by simp; omega
  have d2 : decide (2147483647 < s.size) = false := by simp; omega
  have d3 : decide (2147483647 < t.size) = false := by simp; omega
  have e1 : decide ((2147483647 : Int) < (mid.size : Int)) = false := by simp; omega
  have e2 : decide ((2147483647 : Int) < (s.size : Int)) = false := by simp; omega
  have e3 : decide ((2147483647 : Int) < (t.size : Int)) = false := by simp; omega
  have q0 : decide ((n : Int) = 0) = false := by simp; omega
  have q1 : ((n : Int) == 0) = false := by simp; omega
  have q2 : ¬ n = 0 := by omega
  have hwr : IntKind.i64.wrap (n : Int) = n := IntWalk.i64_in _ (by omega)
  have HW1 := Lib.hid (fun w => hm ▸ Word_any mid w (by omega))
  have HW2 := Lib.hid (fun w => hs ▸ Word_any s w (by omega))
  have HW3 := Lib.hid (fun w => ht ▸ Word_any t w (by omega))
  have HD := Lib.hid (fun w => decimal_any n w hn)
  go_enter Tryz.func3, Tryz.ntmps3
  go_wp2_with (first
    | (go_at_call_of 4 mid; refine (HW1.out _).mono ?_; rintro e w1 ⟨rfl, rfl⟩)
    | (go_at_call_of 4 s; refine (HW2.out _).mono ?_; rintro e w2 ⟨rfl, rfl⟩)
    | (go_at_call_of 4 t; refine (HW3.out _).mono ?_; rintro e w3 ⟨rfl, rfl⟩)
    | (go_at_call 6; refine (HD.out _).mono ?_; rintro e w4 ⟨rfl, hb4⟩)
    | (go_at_call 7; refine (tracks_any none (some ⟨w4.heap.size + 1 + 1, 0, none⟩) 0 1 mid s t n _ hm hs ht hn (track_meds mid s t n w4)).mono ?_; rintro e w5 ⟨g, k, rfl, ⟨_, t0, t1, t2, t3, ⟨sb, sk, _, tsb, t4⟩, _⟩, hb5⟩; have b5 : Below w.heap.size w w5 := (((((hb4.alloc (by have := hb4.size; omega) _).alloc (by have := hb4.size; simp; omega) _).alloc (by have := hb4.size; simp; omega) _).alloc (by have := hb4.size; simp; omega) _).trans (hb5.mono (by have := hb4.size; simp; omega))); have hc5 := kp_of_below b5 _ _ hc; have B5 := Lib.hid b5; clear b5 hb5 hb4))
  have m0 : ∀ x : Later w5, x.W.cell? ⟨g, 0, none⟩ = some (.string mid) := fun x => x.cell t0
  have m1 : ∀ x : Later w5, x.W.cell? ⟨g, 1, none⟩ = some (.string ⟨#[97, 117, 100, 105, 111]⟩) := fun x => x.cell t1
  have m2 : ∀ x : Later w5, x.W.cell? ⟨g, 2, none⟩ = some (.string s) := fun x => x.cell t2
  have m3 : ∀ x : Later w5, x.W.cell? ⟨g, 3, none⟩ = some (.string t) := fun x => x.cell t3
  have m4 : ∀ x : Later w5, x.W.cell? ⟨g, 4, none⟩ = some (.slice (some ⟨sb, 0, none⟩) 1 sk) := fun x => x.cell t4
  have m5 : ∀ x : Later w5, x.W.cell? ⟨sb, 0, none⟩ = some (.int .u32 (n : Int)) := fun x => x.cell tsb
  have m6 : ∀ x : Later w5, x.W.cell? ⟨b, o, none⟩ = some (.int .u32 (n : Int)) := fun x => x.cell hc5
  refine wp_region_later (by kernel_rfl) (by kernel_rfl) ?_
  repeat (go_big_quiet_step (first | (go_at_call 5; exact Calls.later (works_any _))))
  trace_state
  refine wpQuiet_nil ?_
  rintro _ ⟨x, rfl⟩
  have bel := B5.out.trans (x.h.mono B5.out.size)
  have BL := Lib.hid bel
  clear bel
  go_wp2
  go_ret
  exact ⟨rfl, BL.out⟩
set_option maxHeartbeats 8000000 in
set_option maxRecDepth 1000000 in
/-- The law where its texts and lists are small enough. -/
theorem fnTracks_small (mid s t : ByteArray) (A : Option Addr) (c : Nat) (zs : List Int) (w : World) (h1 : mid.size ≤ 2147483647) (h2 : s.size ≤ 2147483647) (h3 : t.size ≤ 2147483647) (h4 : zs.length ≤ 2147483647) (hS : U32s w A zs) :
    Calls Tryz.prog 3 #[.string mid, .string s, .string t, .slice A zs.length c] w fun e w' => e = .returned (.bool true) ∧ Below w.heap.size w w' := by
  have d1 : decide (2147483647 < mid.size) = false := by simp; omega
  have d2 : decide (2147483647 < s.size) = false := by simp; omega
  have d3 : decide (2147483647 < t.size) = false := by simp; omega
  have d4 : decide (2147483647 < zs.length) = false := by simp; omega
  have e1 : decide ((2147483647 : Int) < (mid.size : Int)) = false := by simp; omega
  have e2 : decide ((2147483647 : Int) < (s.size : Int)) = false := by simp; omega
  have e3 : decide ((2147483647 : Int) < (t.size : Int)) = false := by simp; omega
  have e4 : decide ((2147483647 : Int) < (zs.length : Int)) = false := by simp; omega
  have HW1 := Lib.hid (fun w => Word_any mid w (by omega))
  have HW2 := Lib.hid (fun w => Word_any s w (by omega))
  have HW3 := Lib.hid (fun w => Word_any t w (by omega))
  have HS := Lib.hid hS
  clear hS
  cases hm : wordB mid with
  | false =>
    rw [hm] at HW1
    go_enter Tryz.func3, Tryz.ntmps3
    go_wp2_with (first
      | (go_at_call_of 4 mid; refine (HW1.out _).mono ?_; rintro e w1 ⟨rfl, rfl⟩)
      | (go_at_call 5; refine (works_any _).mono ?_; rintro e w6 ⟨rfl, hb6⟩))
    go_ret
    exact ⟨rfl, hb6⟩
  | true =>
  cases hs : wordB s with
  | false =>
    rw [hm] at HW1
    rw [hs] at HW2
    go_enter Tryz.func3, Tryz.ntmps3
    go_wp2_with (first
      | (go_at_call_of 4 mid; refine (HW1.out _).mono ?_; rintro e w1 ⟨rfl, rfl⟩)
      | (go_at_call_of 4 s; refine (HW2.out _).mono ?_; rintro e w2 ⟨rfl, rfl⟩)
      | (go_at_call 5; refine (works_any _).mono ?_; rintro e w6 ⟨rfl, hb6⟩))
    go_ret
    exact ⟨rfl, hb6⟩
  | true =>
  cases ht : wordB t with
  | false =>
    rw [hm] at HW1
    rw [hs] at HW2
    rw [ht] at HW3
    go_enter Tryz.func3, Tryz.ntmps3
    go_wp2_with (first
      | (go_at_call_of 4 mid; refine (HW1.out _).mono ?_; rintro e w1 ⟨rfl, rfl⟩)
      | (go_at_call_of 4 s; refine (HW2.out _).mono ?_; rintro e w2 ⟨rfl, rfl⟩)
      | (go_at_call_of 4 t; refine (HW3.out _).mono ?_; rintro e w3 ⟨rfl, rfl⟩)
      | (go_at_call 5; refine (works_any _).mono ?_; rintro e w6 ⟨rfl, hb6⟩))
    go_ret
    exact ⟨rfl, hb6⟩
  | true =>
  by_cases hl : zs.length = 1
  · obtain ⟨z, rfl⟩ : ∃ z, zs = [z] := by cases zs with | nil => cases hl | cons z r => cases r with | nil => exact ⟨z, rfl⟩ | cons _ _ => simp at hl
    obtain ⟨b, o, rfl, hc, hz0, hz1⟩ := HS.out 0 z rfl
    simp only [Nat.add_zero] at hc
    obtain ⟨n, rfl⟩ : ∃ n : Nat, z = (n : Int) := ⟨z.toNat, by omega⟩
    by_cases hn : n = 0
    · subst hn
      rw [hm] at HW1
      rw [hs] at HW2
      rw [ht] at HW3
      go_enter Tryz.func3, Tryz.ntmps3
      go_wp2_with (first
        | (go_at_call_of 4 mid; refine (HW1.out _).mono ?_; rintro e w1 ⟨rfl, rfl⟩)
        | (go_at_call_of 4 s; refine (HW2.out _).mono ?_; rintro e w2 ⟨rfl, rfl⟩)
        | (go_at_call_of 4 t; refine (HW3.out _).mono ?_; rintro e w3 ⟨rfl, rfl⟩)
        | (go_at_call 5; refine (works_any _).mono ?_; rintro e w6 ⟨rfl, hb6⟩))
      go_ret
      exact ⟨rfl, hb6⟩
    · exact fnTracks_main mid s t b o c n w hm hs ht (by omega) (by omega) hc
  · have q1 : decide ((zs.length : Int) = 1) = false := by simp; omega
    have q2 : ((zs.length : Int) == 1) = false := by simp; omega
    rw [hm] at HW1
    rw [hs] at HW2
    rw [ht] at HW3
    go_enter Tryz.func3, Tryz.ntmps3
    go_wp2_with (first
      | (go_at_call_of 4 mid; refine (HW1.out _).mono ?_; rintro e w1 ⟨rfl, rfl⟩)
      | (go_at_call_of 4 s; refine (HW2.out _).mono ?_; rintro e w2 ⟨rfl, rfl⟩)
      | (go_at_call_of 4 t; refine (HW3.out _).mono ?_; rintro e w3 ⟨rfl, rfl⟩)
      | (go_at_call 5; refine (works_any _).mono ?_; rintro e w6 ⟨rfl, hb6⟩))
    go_ret
    exact ⟨rfl, hb6⟩

set_option maxHeartbeats 8000000 in
set_option maxRecDepth 1000000 in
theorem fnTracks_walk (mid s t : ByteArray) (A : Option Addr) (c : Nat) (zs : List Int) (w : World) (hS : U32s w A zs) :
    Calls Tryz.prog 3 #[.string mid, .string s, .string t, .slice A zs.length c] w fun e w' => e = .returned (.bool true) ∧ Below w.heap.size w w' := by
  by_cases h1 : mid.size ≤ 2147483647
  · have d1 : decide (2147483647 < mid.size) = false := by simp; omega
    have e1 : decide ((2147483647 : Int) < (mid.size : Int)) = false := by simp; omega
    by_cases h2 : s.size ≤ 2147483647
    · have d2 : decide (2147483647 < s.size) = false := by simp; omega
      have e2 : decide ((2147483647 : Int) < (s.size : Int)) = false := by simp; omega
      by_cases h3 : t.size ≤ 2147483647
      · have d3 : decide (2147483647 < t.size) = false := by simp; omega
        have e3 : decide ((2147483647 : Int) < (t.size : Int)) = false := by simp; omega
        by_cases h4 : zs.length ≤ 2147483647
        · exact fnTracks_small mid s t A c zs w h1 h2 h3 h4 hS
        · have d4 : decide (2147483647 < zs.length) = true := by simp; omega
          have e4 : decide ((2147483647 : Int) < (zs.length : Int)) = true := by simp; omega
          go_enter Tryz.func3, Tryz.ntmps3
          go_wp2
          go_ret
          exact ⟨rfl, Below.refl _ _⟩
      · have d3 : decide (2147483647 < t.size) = true := by simp; omega
        have e3 : decide ((2147483647 : Int) < (t.size : Int)) = true := by simp; omega
        go_enter Tryz.func3, Tryz.ntmps3
        go_wp2
        go_ret
        exact ⟨rfl, Below.refl _ _⟩
    · have d2 : decide (2147483647 < s.size) = true := by simp; omega
      have e2 : decide ((2147483647 : Int) < (s.size : Int)) = true := by simp; omega
      go_enter Tryz.func3, Tryz.ntmps3
      go_wp2
      go_ret
      exact ⟨rfl, Below.refl _ _⟩
  · have d1 : decide (2147483647 < mid.size) = true := by simp; omega
    have e1 : decide ((2147483647 : Int) < (mid.size : Int)) = true := by simp; omega
    go_enter Tryz.func3, Tryz.ntmps3
    go_wp2
    go_ret
    exact ⟨rfl, Below.refl _ _⟩
end Go.Proofs.YtkaelnfhohggeaaGreatDoor
