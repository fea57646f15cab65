/- The thin package's decimal text of a number. -/
import Derived.Test.YtlbmjfjmbgbpeaaDoorDecimal
import Derived.Laws.IdiomStrings
import Derived.Deep.RegionWith
namespace Go.Proofs.YtlbmjfjmbgbpeaaDoor
open Go.RowKit

theorem conv_one (w : World) (a : Nat) (x : UInt8) (h : w.cell? ⟨a, 0, none⟩ = some (.int .u8 (x.toNat : Int))) : (convert 76 9 (.slice (some ⟨a, 0, none⟩) 1 1)).run Tryd.prog w = .ok (.string ⟨#[x]⟩) w :=
  run_convert_bytes_back (P := Tryd.prog) w 76 9 5 ⟨a, 0, none⟩ 1 [x] Tryd.underlying76 Tryd.underlying5 Tryd.underlying9 (fun j hj => by
    obtain rfl : j = 0 := by simpa using hj
    exact h)

set_option maxHeartbeats 2000000 in
set_option maxRecDepth 100000 in
theorem decI_any (n : Nat) (w : World) (hn : n ≤ 4294967295) :
    Calls Tryd.prog 57 #[.int .i64 n] w fun e w' => e = .returned (.string (dec n)) ∧ Below w.heap.size w w' := by
  induction n using Nat.strongRecOn generalizing w with
  | _ n ih =>
    have h0 : decide ((n : Int) < 0) = false := by simp
    have IH := Lib.hid ih
    clear ih
    by_cases h : n < 10
    · have hd : decide ((n : Int) < 10) = true := by simp; omega
      have hb : (UInt8.ofNat (48 + n)).toNat = 48 + n := by rw [UInt8.toNat_ofNat']; omega
      have hcv : (convert 76 9 (.slice (some ⟨w.heap.size, 0, none⟩) 1 1)).run Tryd.prog (w.alloc (.cells #[.int .u8 (48 + n)] 5)) = .ok (.string (dec n)) (w.alloc (.cells #[.int .u8 (48 + n)] 5)) := by
        have := conv_one (w.alloc (.cells #[.int .u8 (48 + n)] 5)) w.heap.size (UInt8.ofNat (48 + n)) (by rw [hb]; simp [go_sem])
        have e : (⟨#[UInt8.ofNat (48 + n)]⟩ : ByteArray) = dec n := by unfold dec; rw [decL_small h]
        rw [e] at this
        exact this
      go_enter Tryd.func57, Tryd.ntmps57
      go_wp2
      go_ret
      exact ⟨rfl, (Below.refl _ _).alloc (Nat.le_refl _) _⟩
    · have hd : decide ((n : Int) < 10) = false := by simp; omega
      have t1 : ((n : Int)).tdiv 10 = ((n / 10 : Nat) : Int) := by rw [Int.tdiv_eq_ediv_of_nonneg (by omega)]; rfl
      have t2 : ((n : Int)).tmod 10 = ((n % 10 : Nat) : Int) := by rw [Int.tmod_eq_emod_of_nonneg (by omega)]; rfl
      have z1 := dec_size (n / 10)
      have hx : (UInt8.ofNat (48 + n % 10)).toNat = 48 + n % 10 := by rw [UInt8.toNat_ofNat']; omega
      have fin : dec n = dec (n / 10) ++ ⟨#[UInt8.ofNat (48 + n % 10)]⟩ := by
        have e : dec (n % 10) = ⟨#[UInt8.ofNat (48 + n % 10)]⟩ := by unfold dec; rw [decL_small (by omega)]
        rw [dec_big h, e]
      have FIN := Lib.hid fin
      have hq : n / 10 < n := by omega
      have HQ := Lib.hid (fun w => IH.out (n / 10) hq w (by omega))
      have hm : n % 10 < 10 := by omega
      have hqn : n / 10 ≤ 4294967295 := by omega
      have hy : (⟨#[UInt8.ofNat (48 + n % 10)]⟩ : ByteArray).size = 1 := rfl
      clear fin hq IH
      generalize n / 10 = q at t1 HQ FIN z1 hqn
      generalize n % 10 = m at t2 hx FIN hm hy
      generalize UInt8.ofNat (48 + m) = x at hx FIN hy
      have hcell : ∀ w : World, (w.alloc (.cells #[.int .u8 (48 + m)] 5)).cell? ⟨w.heap.size, 0, none⟩ = some (.int .u8 (x.toNat : Int)) := fun w => by rw [hx]; simp [go_sem]
      have hcv0 : ∀ w : World, (convert 76 9 (.slice (some ⟨w.heap.size, 0, none⟩) 1 1)).run Tryd.prog (w.alloc (.cells #[.int .u8 (48 + m)] 5)) = .ok (.string ⟨#[x]⟩) (w.alloc (.cells #[.int .u8 (48 + m)] 5)) := fun w => conv_one _ _ _ (hcell w)
      have hcv := hcv0 w
      have hcvd : (convert 76 9 (.slice (some ⟨w.heap.size, 0, none⟩) 1 1)).run Tryd.prog (w.alloc (.cells #[.int .u8 (48 + m)] 5)).drew = .ok (.string ⟨#[x]⟩) (w.alloc (.cells #[.int .u8 (48 + m)] 5)).drew := conv_one _ _ _ (hcell w)
      have wq : IntKind.i64.wrap (q : Int) = (q : Int) := by rw [IntKind.wrap_i64]; omega
      have wm : IntKind.i64.wrap (48 + (m : Int)) = 48 + (m : Int) := by rw [IntKind.wrap_i64]; omega
      have wu : IntKind.u8.wrap (48 + (m : Int)) = 48 + (m : Int) := by rw [IntKind.wrap_u8]; omega
      go_enter Tryd.func57, Tryd.ntmps57
      go_wp2_with fail
      go_region_with (go_at_call 57; refine (HQ.out _).mono ?_; rintro e w1 ⟨rfl, hb1⟩; have hcv1 := hcv0 w1; (try have hcw := conv_one w1 w.heap.size x ((hb1.cell (by simp)).trans (hcell w))))
      all_goals (go_wp2; go_ret; refine ⟨congrArg (fun s => Ending.returned (.string s)) FIN.out.symm, ?_⟩; first | exact ((((Below.refl w.heap.size w).alloc (Nat.le_refl _) _).drew).trans (hb1.mono (by simp))) | exact (((Below.refl w.heap.size w).drew).trans (hb1.mono (Nat.le_refl _))).alloc (by have := hb1.size; simpa using this) _)
end Go.Proofs.YtlbmjfjmbgbpeaaDoor
