/- FnSame: rates and channels that are the same are equal, others are not: the walk. -/
import Derived.Test.YtlbmjfjmbgbpeaaDoorMid
namespace Go.Proofs.YtlbmjfjmbgbpeaaDoor
open Go.RowKit

set_option maxHeartbeats 1000000 in
theorem within_any (K x y : Int) (b : Nat) (w : World) (hx0 : 0 ≤ x) (hxK : x ≤ K) (hy0 : 0 ≤ y) (hyK : y ≤ K) (c0 : w.cell? ⟨b, 0, none⟩ = some (.int .i64 x)) (c1 : w.cell? ⟨b, 1, none⟩ = some (.int .i64 y)) :
    Calls Tryd.prog 32 #[.int .i64 K, .slice (some ⟨b, 0, none⟩) 2 2] w fun e w' => e = .returned (.bool true) ∧ w = w' := by
  have x1 : decide (x < 0) = false := by simp; omega
  have x2 : decide (K < x) = false := by simp; omega
  have y1 : decide (y < 0) = false := by simp; omega
  have y2 : decide (K < y) = false := by simp; omega
  go_enter Tryd.func32, Tryd.ntmps32
  go_wp2
  go_loop [9] (fun i => ∃ k : Nat, i = .int .i64 k ∧ k ≤ 2) (fun i => 2 - (intOf i).toNat)
  case atStart => exact ⟨0, rfl, by omega⟩
  case round =>
    obtain ⟨k, rfl, hk⟩ := hrel
    rcases (show k = 0 ∨ k = 1 ∨ k = 2 by omega) with rfl | rfl | rfl
    · go_wp2
      go_round
      case rel => exact ⟨1, rfl, by omega⟩
      case measure => simp [intOf]
    · go_wp2
      go_round
      case rel => exact ⟨2, rfl, by omega⟩
      case measure => simp [intOf]
    · go_wp2
      go_ret
      exact ⟨rfl, rfl⟩

set_option maxHeartbeats 400000 in
theorem rateEq_any (mime : ByteArray) (a b : Int) (w : World) (ha : 1 ≤ a) (hb : 1 ≤ b) :
    Calls Tryd.prog 33 #[.string mime, .int .u32 a, .int .u32 b] w fun e w' => e = .returned (.bool (a == b)) ∧ w = w' := by
  have a1 : (a == 0) = false := by simp; omega
  have b1 : (b == 0) = false := by simp; omega
  have a2 : ¬ a = 0 := by omega
  have b2 : ¬ b = 0 := by omega
  go_enter Tryd.func33, Tryd.ntmps33
  go_wp2
  go_ret
  exact ⟨rfl, rfl⟩

set_option maxHeartbeats 400000 in
theorem chanEq_any (mime : ByteArray) (a b : Int) (w : World) (ha : 1 ≤ a) (hb : 1 ≤ b) :
    Calls Tryd.prog 34 #[.string mime, .int .u16 a, .int .u16 b] w fun e w' => e = .returned (.bool (a == b)) ∧ w = w' := by
  have a1 : (a == 0) = false := by simp; omega
  have b1 : (b == 0) = false := by simp; omega
  have a2 : ¬ a = 0 := by omega
  have b2 : ¬ b = 0 := by omega
  go_enter Tryd.func34, Tryd.ntmps34
  go_wp2
  go_ret
  exact ⟨rfl, rfl⟩

set_option maxHeartbeats 1000000 in
set_option maxRecDepth 100000 in
theorem same_any (mime : ByteArray) (a b c d : Int) (w : World) (ha : 1 ≤ a) (hb : 1 ≤ b) (hc : 1 ≤ c) (hd : 1 ≤ d) (ha2 : a ≤ 200000) (hb2 : b ≤ 200000) (hc2 : c ≤ 100) (hd2 : d ≤ 100) :
    Calls Tryd.prog 10 #[.string mime, .int .i64 a, .int .i64 b, .int .i64 c, .int .i64 d] w fun e w' => e = .returned (.tuple #[.bool (a == b), .bool (c == d)]) ∧ Below w.heap.size w w' := by
  have h1 : Hid (∀ x w, w.cell? ⟨x, 0, none⟩ = some (.int .i64 a) → w.cell? ⟨x, 1, none⟩ = some (.int .i64 b) → Calls Tryd.prog 32 #[.int .i64 4294967295, .slice (some ⟨x, 0, none⟩) 2 2] w fun e w' => e = .returned (.bool true) ∧ w = w') :=
    Lib.hid fun x w c0 c1 => within_any 4294967295 a b x w (by omega) (by omega) (by omega) (by omega) c0 c1
  have h2 : Hid (∀ x w, w.cell? ⟨x, 0, none⟩ = some (.int .i64 c) → w.cell? ⟨x, 1, none⟩ = some (.int .i64 d) → Calls Tryd.prog 32 #[.int .i64 65535, .slice (some ⟨x, 0, none⟩) 2 2] w fun e w' => e = .returned (.bool true) ∧ w = w') :=
    Lib.hid fun x w c0 c1 => within_any 65535 c d x w (by omega) (by omega) (by omega) (by omega) c0 c1
  go_enter Tryd.func10, Tryd.ntmps10
  go_wp2_with fail
  refine (h1.out w.heap.size _ (by simp [go_sem]) (by simp [go_sem])).mono ?_; rintro e w1 ⟨rfl, rfl⟩
  go_wp2_with fail
  refine (h2.out (w.heap.size + 1) _ (by simp [go_sem]) (by simp [go_sem])).mono ?_; rintro e w1 ⟨rfl, rfl⟩
  go_wp2_with (first
    | (go_at_call 33; refine (rateEq_any mime a b _ ha hb).mono ?_; rintro e w1 ⟨rfl, rfl⟩)
    | (go_at_call 34; refine (chanEq_any mime c d _ hc hd).mono ?_; rintro e w1 ⟨rfl, rfl⟩))
  go_ret2
  exact ⟨rfl, ((Below.refl _ _).alloc (Nat.le_refl _) _).alloc (by simp) _⟩

set_option maxHeartbeats 2000000 in
set_option maxRecDepth 100000 in
theorem fnSame_walk (a b c d : Int) (w : World) : Calls Tryd.prog 3 #[.int .i64 a, .int .i64 b, .int .i64 c, .int .i64 d] w fun e w' => e = .returned (.bool true) ∧ Below w.heap.size w w' := by
  by_cases ha1 : a < 1
  · have g : decide (a < 1) = true := by simp; omega
    go_enter Tryd.func3, Tryd.ntmps3
    go_wp2_with (go_at_call 9; refine (works_any _).mono ?_; rintro e w2 ⟨rfl, hb2⟩)
    go_ret
    exact ⟨rfl, hb2⟩
  have gha1 : decide (a < 1) = false := by simp; omega
  by_cases hb1 : b < 1
  · have g : decide (b < 1) = true := by simp; omega
    go_enter Tryd.func3, Tryd.ntmps3
    go_wp2_with (go_at_call 9; refine (works_any _).mono ?_; rintro e w2 ⟨rfl, hb2⟩)
    go_ret
    exact ⟨rfl, hb2⟩
  have ghb1 : decide (b < 1) = false := by simp; omega
  by_cases hc1 : c < 1
  · have g : decide (c < 1) = true := by simp; omega
    go_enter Tryd.func3, Tryd.ntmps3
    go_wp2_with (go_at_call 9; refine (works_any _).mono ?_; rintro e w2 ⟨rfl, hb2⟩)
    go_ret
    exact ⟨rfl, hb2⟩
  have ghc1 : decide (c < 1) = false := by simp; omega
  by_cases hd1 : d < 1
  · have g : decide (d < 1) = true := by simp; omega
    go_enter Tryd.func3, Tryd.ntmps3
    go_wp2_with (go_at_call 9; refine (works_any _).mono ?_; rintro e w2 ⟨rfl, hb2⟩)
    go_ret
    exact ⟨rfl, hb2⟩
  have ghd1 : decide (d < 1) = false := by simp; omega
  by_cases h200000a : 200000 < a
  · have g : decide (200000 < a) = true := by simp; omega
    go_enter Tryd.func3, Tryd.ntmps3
    go_wp2_with (go_at_call 9; refine (works_any _).mono ?_; rintro e w2 ⟨rfl, hb2⟩)
    go_ret
    exact ⟨rfl, hb2⟩
  have gh200000a : decide (200000 < a) = false := by simp; omega
  by_cases h200000b : 200000 < b
  · have g : decide (200000 < b) = true := by simp; omega
    go_enter Tryd.func3, Tryd.ntmps3
    go_wp2_with (go_at_call 9; refine (works_any _).mono ?_; rintro e w2 ⟨rfl, hb2⟩)
    go_ret
    exact ⟨rfl, hb2⟩
  have gh200000b : decide (200000 < b) = false := by simp; omega
  by_cases h100c : 100 < c
  · have g : decide (100 < c) = true := by simp; omega
    go_enter Tryd.func3, Tryd.ntmps3
    go_wp2_with (go_at_call 9; refine (works_any _).mono ?_; rintro e w2 ⟨rfl, hb2⟩)
    go_ret
    exact ⟨rfl, hb2⟩
  have gh100c : decide (100 < c) = false := by simp; omega
  by_cases h100d : 100 < d
  · have g : decide (100 < d) = true := by simp; omega
    go_enter Tryd.func3, Tryd.ntmps3
    go_wp2_with (go_at_call 9; refine (works_any _).mono ?_; rintro e w2 ⟨rfl, hb2⟩)
    go_ret
    exact ⟨rfl, hb2⟩
  have gh100d : decide (100 < d) = false := by simp; omega
  go_enter Tryd.func3, Tryd.ntmps3
  go_wp2_with (first
    | (go_at_call 10; refine (same_any _ a b c d _ (by omega) (by omega) (by omega) (by omega) (by omega) (by omega) (by omega) (by omega)).mono ?_; rintro e w1 ⟨rfl, hbel⟩)
    | (go_at_call 9; refine (works_any _).mono ?_; rintro e w2 ⟨rfl, hb2⟩))
  go_ret
  exact ⟨rfl, below_step hbel hbel.size hb2⟩
end Go.Proofs.YtlbmjfjmbgbpeaaDoor
