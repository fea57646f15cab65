/- The size guard of the laws over a list of texts. -/
import Derived.Test.YtlbmjfjmbgbpeaaDoorBase
namespace Go.Proofs.YtlbmjfjmbgbpeaaDoor
open Go.RowKit

/-- The list and its texts are no longer than the laws speak of. -/
def fitsS (l : List ByteArray) : Bool := decide (l.length ≤ 2147483647) && l.all fun s => decide (s.size ≤ 2147483647)
theorem fitsS_drop {l : List ByteArray} {k : Nat} (hk : k < l.length) : (l.drop k).all (fun s => decide (s.size ≤ 2147483647)) = (decide (l[k].size ≤ 2147483647) && (l.drop (k + 1)).all fun s => decide (s.size ≤ 2147483647)) := by
  rw [List.drop_eq_getElem_cons hk, List.all_cons]

set_option maxHeartbeats 1000000 in
theorem fits3_any {D : Nat → Prop} (A : Option Addr) (c : Nat) (l : List ByteArray) (w : World) (hl : l.length * 16 ≤ 140737488351232) (h : Strs D w A l) (hz : ∀ s ∈ l, s.size ≤ 9223372036854775807) :
    Calls Tryd.prog 28 #[.slice A l.length c] w fun e w' => e = .returned (.bool (fitsS l)) ∧ w = w' := by
  have H := Lib.hid h
  have HZ := Lib.hid hz
  clear h hz
  by_cases hb : 2147483647 < l.length
  · have fin : fitsS l = false := by unfold fitsS; rw [decide_eq_false (by omega)]; rfl
    have FIN := Lib.hid fin
    clear fin
    go_enter Tryd.func28, Tryd.ntmps28
    go_wp2
    go_ret
    exact ⟨congrArg (fun b => Ending.returned (.bool b)) FIN.out.symm, rfl⟩
  · have fin : (l.drop 0).all (fun s => decide (s.size ≤ 2147483647)) = fitsS l := by unfold fitsS; rw [decide_eq_true (by omega)]; rfl
    have FIN := Lib.hid fin
    clear fin
    go_enter Tryd.func28, Tryd.ntmps28
    go_wp2
    go_loop [10] (fun i => ∃ k : Nat, i = .int .i64 k ∧ k ≤ l.length ∧ (l.drop k).all (fun s => decide (s.size ≤ 2147483647)) = fitsS l) (fun i => l.length - (intOf i).toNat)
    case atStart => exact ⟨0, rfl, by omega, FIN.out⟩
    case round =>
      obtain ⟨k, rfl, hk, hall⟩ := hrel
      have HALL := Lib.hid hall
      clear hall
      by_cases hlt : k < l.length
      · obtain ⟨b, o, rfl, _, c0⟩ := H.out k l[k] (by simp [hlt])
        have hsz := HZ.out l[k] (List.getElem_mem _)
        by_cases hs : 2147483647 < l[k].size
        · have fin : fitsS l = false := by rw [← HALL.out, fitsS_drop hlt, decide_eq_false (by omega)]; rfl
          have FIN2 := Lib.hid fin
          clear fin
          go_wp2
          go_ret
          exact ⟨congrArg (fun b => Ending.returned (.bool b)) FIN2.out.symm, rfl⟩
        · have nx : (l.drop (k + 1)).all (fun s => decide (s.size ≤ 2147483647)) = fitsS l := by rw [← HALL.out, fitsS_drop hlt, decide_eq_true (by omega)]; rfl
          have NX := Lib.hid nx
          clear nx
          go_wp2
          go_round
          case rel => exact ⟨k + 1, by go_num, by omega, NX.out⟩
          case measure => simp [intOf]; omega
      · obtain rfl : k = l.length := by omega
        have fin : fitsS l = true := by rw [← HALL.out, List.drop_length]; rfl
        have FIN2 := Lib.hid fin
        clear fin
        go_wp2
        go_ret
        exact ⟨congrArg (fun b => Ending.returned (.bool b)) FIN2.out.symm, rfl⟩
theorem fitsS_mem {l : List ByteArray} (h : fitsS l = true) : l.length ≤ 2147483647 ∧ ∀ s ∈ l, s.size ≤ 2147483647 := by
  unfold fitsS at h
  simp only [Bool.and_eq_true, decide_eq_true_eq, List.all_eq_true] at h
  exact h
end Go.Proofs.YtlbmjfjmbgbpeaaDoor
