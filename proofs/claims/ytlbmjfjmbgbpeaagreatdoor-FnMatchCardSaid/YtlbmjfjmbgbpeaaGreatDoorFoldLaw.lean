/- Texts that are equal whatever the size of their letters have the same small letters: a plain law. -/
import Derived.Test.YtlbmjfjmbgbpeaaGreatDoorSmall
import Derived.Lib.Fold
namespace Go.Proofs.YtlbmjfjmbgbpeaaGreatDoor
open Go.RowKit

theorem smallU_toNat (b : UInt8) : (smallU b).toNat = if 65 ≤ b.toNat ∧ b.toNat ≤ 90 then b.toNat + 32 else b.toNat := by
  have := b.toNat_lt
  unfold smallU
  split
  · rw [UInt8.toNat_ofNat']; omega
  · rfl
theorem foldEq_small (x y : UInt8) : Lib.foldEq x y = (smallU x == smallU y) := by
  have e : (smallU x == smallU y) = decide ((smallU x).toNat = (smallU y).toNat) := by
    rw [Bool.eq_iff_iff]
    simp only [beq_iff_eq, decide_eq_true_eq]
    exact ⟨fun h => by rw [h], fun h => UInt8.toNat_inj.1 h⟩
  rw [e, smallU_toNat, smallU_toNat]
  unfold Lib.foldEq
  rw [decide_eq_decide]
  split <;> split <;> omega
theorem fold_small : ∀ s t : List UInt8, Lib.equalFold s t = (s.map smallU == t.map smallU)
  | [], [] => rfl
  | [], y :: t => rfl
  | x :: s, [] => rfl
  | x :: s, y :: t => by
    rw [Lib.equalFold, foldEq_small, fold_small s t]
    simp only [List.map_cons]
    rfl
theorem small_data (s : ByteArray) : (small s).data.toList = s.data.toList.map smallU := by simp [small]
end Go.Proofs.YtlbmjfjmbgbpeaaGreatDoor
