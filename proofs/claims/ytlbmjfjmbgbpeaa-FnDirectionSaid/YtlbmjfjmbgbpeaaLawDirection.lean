/- FnDirection: for every number the law returns true: a medium's direction is the one of its attribute. -/
import Derived.Test.YtlbmjfjmbgbpeaaDirFn
namespace Go.Proofs.Ytlbmjfjmbgbpeaa
open Go.RowKit

theorem meds_one {w : World} {b o : Nat} {m : MediaD} {A1 A2 : Option Addr} {c1 c2 : Nat} (h0 : w.cell? ⟨b, o, none⟩ = some (.string m.kind)) (h1 : w.cell? ⟨b, o + 1, none⟩ = some (.slice A1 m.formats.length c1)) (hf : Strs (fun _ => True) w A1 m.formats)
    (h2 : w.cell? ⟨b, o + 2, none⟩ = some (.slice A2 m.attrs.length c2)) (ha : KVs (fun _ => True) w A2 m.attrs) : Meds w (some ⟨b, o, none⟩) [m] := fun i p hp => by
  match i, hp with
  | 0, hp => simp at hp; subst hp; exact ⟨b, o, A1, c1, A2, c2, rfl, by simpa using h0, by simpa using h1, hf, by simpa using h2, ha⟩
  | i + 1, hp => simp at hp

/-- A medium with one attribute that names a direction, in a session of that medium alone. -/
theorem direction_one (s : ByteArray) (n : Int) (w : World) (b c : Nat) (hn : peerDir [(s, ⟨#[]⟩)] [] = n) (h0 : w.cell? ⟨b, 0, none⟩ = some (.string s)) (h1 : w.cell? ⟨b, 1, none⟩ = some (.string ⟨#[]⟩))
    (m0 : w.cell? ⟨c, 0, none⟩ = some (.string ⟨#[118, 105, 100, 101, 111]⟩)) (m1 : w.cell? ⟨c, 1, none⟩ = some (.slice none 0 0)) (m2 : w.cell? ⟨c, 2, none⟩ = some (.slice (some ⟨b, 0, none⟩) 1 1)) :
    Calls Try.prog 9 #[.agg #[.string ⟨#[118, 105, 100, 101, 111]⟩, .slice none 0 0, .slice (some ⟨b, 0, none⟩) 1 1], .agg #[.slice none 0 0, .slice (some ⟨c, 0, none⟩) 1 1]] w fun e w' => e = .returned (.int .i64 n) ∧ Below w.heap.size w w' := by
  have h := direction_any (D := fun _ => True) (D' := fun _ => True) (E := fun _ => True) ⟨#[118, 105, 100, 101, 111]⟩ none (some ⟨b, 0, none⟩) none (some ⟨c, 0, none⟩) 0 1 0 1 [] [(s, ⟨#[]⟩)] [] [⟨⟨#[118, 105, 100, 101, 111]⟩, [], [(s, ⟨#[]⟩)]⟩] w
    (by simp) (by simp) (by simp) (by simp) (by simp) (Strs.nil _ _ _) (kvs_one h0 (by simpa using h1)) (KVs.nil _ _ _) (meds_one m0 (by simpa using m1) (Strs.nil _ _ _) (by simpa using m2) (kvs_one h0 (by simpa using h1)))
  rw [hn] at h
  exact h

theorem dir_1 : peerDir [(⟨#[115, 101, 110, 100, 114, 101, 99, 118]⟩, ⟨#[]⟩)] [] = 1 := by decide +kernel
theorem dir_2 : peerDir [(⟨#[115, 101, 110, 100, 111, 110, 108, 121]⟩, ⟨#[]⟩)] [] = 2 := by decide +kernel
theorem dir_3 : peerDir [(⟨#[114, 101, 99, 118, 111, 110, 108, 121]⟩, ⟨#[]⟩)] [] = 3 := by decide +kernel
theorem dir_4 : peerDir [(⟨#[105, 110, 97, 99, 116, 105, 118, 101]⟩, ⟨#[]⟩)] [] = 4 := by decide +kernel

set_option maxHeartbeats 1000000 in
theorem fnDirection_walk (n : Int) (w : World) : Calls Try.prog 3 #[.int .i64 n] w fun e w' => e = .returned (.bool true) ∧ Below w.heap.size w w' := by
  by_cases h1 : n < 1
  · go_enter Try.func3, Try.ntmps3
    go_wp2_with (go_at_call 7; refine (works_any _).mono ?_; rintro e w1 ⟨rfl, hb⟩)
    go_ret
    exact ⟨rfl, hb⟩
  · by_cases h4 : 4 < n
    · go_enter Try.func3, Try.ntmps3
      go_wp2_with (go_at_call 7; refine (works_any _).mono ?_; rintro e w1 ⟨rfl, hb⟩)
      go_ret
      exact ⟨rfl, hb⟩
    · rcases (show n = 1 ∨ n = 2 ∨ n = 3 ∨ n = 4 by omega) with rfl | rfl | rfl | rfl
      · go_enter Try.func3, Try.ntmps3
        go_wp2_with (first
          | (go_at_call 8; go_in)
          | (go_at_call 9; refine (direction_one _ 1 _ (w.heap.size + 1) (w.heap.size + 1 + 1 + 1) dir_1 (by simp [go_sem]) (by simp [go_sem]) (by simp [go_sem]) (by simp [go_sem]) (by simp [go_sem])).mono ?_; rintro e w1 ⟨rfl, hb1⟩)
          | (go_at_call 7; refine (works_any _).mono ?_; rintro e w2 ⟨rfl, hb2⟩))
        go_ret
        exact ⟨rfl, (((((Below.refl w.heap.size w).alloc (Nat.le_refl _) _).alloc (by simp) _).alloc (by simp; omega) _).alloc (by simp; omega) _).trans (hb1.mono (by simp; omega)) |>.trans (hb2.mono (by have := hb1.size; simp at this; omega))⟩
      · go_enter Try.func3, Try.ntmps3
        go_wp2_with (first
          | (go_at_call 8; go_in)
          | (go_at_call 9; refine (direction_one _ 2 _ (w.heap.size + 1) (w.heap.size + 1 + 1 + 1) dir_2 (by simp [go_sem]) (by simp [go_sem]) (by simp [go_sem]) (by simp [go_sem]) (by simp [go_sem])).mono ?_; rintro e w1 ⟨rfl, hb1⟩)
          | (go_at_call 7; refine (works_any _).mono ?_; rintro e w2 ⟨rfl, hb2⟩))
        go_ret
        exact ⟨rfl, (((((Below.refl w.heap.size w).alloc (Nat.le_refl _) _).alloc (by simp) _).alloc (by simp; omega) _).alloc (by simp; omega) _).trans (hb1.mono (by simp; omega)) |>.trans (hb2.mono (by have := hb1.size; simp at this; omega))⟩
      · go_enter Try.func3, Try.ntmps3
        go_wp2_with (first
          | (go_at_call 8; go_in)
          | (go_at_call 9; refine (direction_one _ 3 _ (w.heap.size + 1) (w.heap.size + 1 + 1 + 1) dir_3 (by simp [go_sem]) (by simp [go_sem]) (by simp [go_sem]) (by simp [go_sem]) (by simp [go_sem])).mono ?_; rintro e w1 ⟨rfl, hb1⟩)
          | (go_at_call 7; refine (works_any _).mono ?_; rintro e w2 ⟨rfl, hb2⟩))
        go_ret
        exact ⟨rfl, (((((Below.refl w.heap.size w).alloc (Nat.le_refl _) _).alloc (by simp) _).alloc (by simp; omega) _).alloc (by simp; omega) _).trans (hb1.mono (by simp; omega)) |>.trans (hb2.mono (by have := hb1.size; simp at this; omega))⟩
      · go_enter Try.func3, Try.ntmps3
        go_wp2_with (first
          | (go_at_call 8; go_in)
          | (go_at_call 9; refine (direction_one _ 4 _ (w.heap.size + 1) (w.heap.size + 1 + 1 + 1) dir_4 (by simp [go_sem]) (by simp [go_sem]) (by simp [go_sem]) (by simp [go_sem]) (by simp [go_sem])).mono ?_; rintro e w1 ⟨rfl, hb1⟩)
          | (go_at_call 7; refine (works_any _).mono ?_; rintro e w2 ⟨rfl, hb2⟩))
        go_ret
        exact ⟨rfl, (((((Below.refl w.heap.size w).alloc (Nat.le_refl _) _).alloc (by simp) _).alloc (by simp; omega) _).alloc (by simp; omega) _).trans (hb1.mono (by simp; omega)) |>.trans (hb2.mono (by have := hb1.size; simp at this; omega))⟩
end Go.Proofs.Ytlbmjfjmbgbpeaa
