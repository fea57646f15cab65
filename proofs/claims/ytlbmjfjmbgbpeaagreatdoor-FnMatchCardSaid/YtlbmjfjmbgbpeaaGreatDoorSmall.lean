/- The reference's small letters. -/
import Derived.Test.YtlbmjfjmbgbpeaaGreatDoorBase
import Derived.Lib.ConvBytes
import Derived.Lib.IndexBytes
import Derived.Laws.IdiomStrings
namespace Go.Proofs.YtlbmjfjmbgbpeaaGreatDoor
open Go.RowKit

/-- A byte in small letters. -/
def smallU (b : UInt8) : UInt8 := if 65 ≤ b.toNat ∧ b.toNat ≤ 90 then UInt8.ofNat (b.toNat + 32) else b
def small (s : ByteArray) : ByteArray := ⟨(s.data.toList.map smallU).toArray⟩
theorem small_size (s : ByteArray) : (small s).size = s.size := by
  show (s.data.toList.map smallU).toArray.size = _
  rw [List.size_toArray, List.length_map, Lib.size_eq s]
/-- The cells while the first k bytes are small. -/
def smallAt (s : ByteArray) (k j : Nat) : UInt8 := if j < k then smallU (s.data.toList.getD j 0) else s.data.toList.getD j 0

set_option maxHeartbeats 2000000 in
set_option maxRecDepth 100000 in
theorem small_any (s : ByteArray) (w : World) (hs : s.size ≤ 4294967296) :
    Calls Tryz.prog 17 #[.string s] w fun e w' => e = .returned (.string (small s)) ∧ Below w.heap.size w w' := by
  obtain ⟨c, hcs⟩ : ∃ c, (convert 9 62 (.string s)).run Tryz.prog w = .ok (.slice (some ⟨w.heap.size, 0, none⟩) s.size c) (Lib.bytesWorld w 5 s) :=
    ⟨_, Lib.run_convert_string_bytes w 9 62 5 s Tryz.underlying9 Tryz.underlying62 Tryz.underlying5⟩
  have hb0 : Below w.heap.size w (Lib.bytesWorld w 5 s) := ⟨rfl, rfl, rfl, by rw [Lib.bytesWorld_size]; omega, fun j hj => Lib.bytesWorld_at_old w _ s j hj⟩
  have hcell0 : ∀ j, j < s.size → (Lib.bytesWorld w 5 s).cell? ⟨w.heap.size, j, none⟩ = some (.int .u8 (smallAt s 0 j).toNat) := fun j hj => by
    rw [Lib.bytesWorld_cell w _ s j hj]; rfl
  have hz0 : ∀ j, j < s.size → (Lib.bytesWorld w 5 s).frozen? ⟨w.heap.size, j, none⟩ = false := fun j hj => by
    have h1 := Lib.bytesWorld_at_new w 5 s
    have h2 : s.size ≤ (Lib.bytesCells w 5 s).size := by
      have h3 := Lib.bytesWorld_cell w 5 s (s.size - 1) (by omega)
      simp only [World.cell?, h1] at h3
      by_cases h4 : s.size - 1 < (Lib.bytesCells w 5 s).size
      · omega
      · simp [Array.getElem?_eq_none (by omega : (Lib.bytesCells w 5 s).size ≤ s.size - 1)] at h3
    simp only [World.frozen?, h1]
    simp; omega
  have HC0 := Lib.hid hcell0
  have HZ0 := Lib.hid hz0
  have hsz0 : (Lib.bytesWorld w 5 s).heap.size = w.heap.size + 1 := Lib.bytesWorld_size w _ s
  clear hcell0 hz0
  generalize Lib.bytesWorld w 5 s = W0 at hcs hb0 HC0 HZ0 hsz0
  go_enter Tryz.func17, Tryz.ntmps17
  go_wp2
  go_loopw [10] (fun i wr => ∃ k : Nat, i = .int .i64 k ∧ k ≤ s.size ∧ (∀ j, j < s.size → wr.cell? ⟨w.heap.size, j, none⟩ = some (.int .u8 (smallAt s k j).toNat)) ∧ (∀ j, j < s.size → wr.frozen? ⟨w.heap.size, j, none⟩ = false) ∧ Below w.heap.size w wr) (fun i _ => s.size - (intOf i).toNat)
  case atStart => exact ⟨0, rfl, Nat.zero_le _, HC0.out, HZ0.out, hb0⟩
  case round =>
    obtain ⟨k, rfl, hk, hc, hz, hb⟩ := hrel
    have HC := Lib.hid hc
    have HZ := Lib.hid hz
    clear hc hz
    by_cases hlt : k < s.size
    · have c0 := HC.out k hlt
      have z0 := HZ.out k hlt
      have e0 : smallAt s k k = s.data.toList.getD k 0 := by unfold smallAt; rw [if_neg (by omega)]
      rw [e0] at c0
      have nx : ∀ j, j < s.size → j ≠ k → smallAt s (k + 1) j = smallAt s k j := fun j _ hj => by
        unfold smallAt
        by_cases h : j < k
        · rw [if_pos h, if_pos (by omega)]
        · rw [if_neg h, if_neg (by omega)]
      have nk : smallAt s (k + 1) k = smallU (s.data.toList.getD k 0) := by unfold smallAt; rw [if_pos (by omega)]
      have NX := Lib.hid nx
      have hlt256 := (s.data.toList.getD k 0).toNat_lt
      clear nx e0
      generalize s.data.toList.getD k 0 = b at c0 nk hlt256
      by_cases h1 : 65 ≤ b.toNat ∧ b.toNat ≤ 90
      · have g1 : decide ((65 : Int) ≤ (b.toNat : Int)) = true := by simp; omega
        have g2 : decide ((b.toNat : Int) ≤ 90) = true := by simp; omega
        have eb : (smallU b).toNat = b.toNat + 32 := by unfold smallU; rw [if_pos h1, UInt8.toNat_ofNat']; omega
        rw [← nk] at eb
        have EB := Lib.hid eb
        clear eb nk
        go_wp2
        go_roundw
        case rel =>
          refine ⟨k + 1, by go_num, by omega, fun j hj => ?_, fun j hj => by rw [World.frozen?_setCell]; exact HZ.out j hj, hb.setCell (Nat.le_refl _) _⟩
          by_cases hjk : j = k
          · subst hjk
            rw [World.cell?_setCell_same _ _ _ c0, EB.out]
            congr 2
            omega
          · rw [World.cell?_setCell_other _ _ _ _ (fun e => by simp at e; try omega), NX.out j hj hjk]
            exact HC.out j hj
        case measure => simp [intOf]; omega
      · have nb : smallAt s (k + 1) k = b := by rw [nk]; unfold smallU; rw [if_neg h1]
        have fin : ∀ j, j < s.size → wr.cell? ⟨w.heap.size, j, none⟩ = some (.int .u8 (smallAt s (k + 1) j).toNat) := fun j hj => by
          by_cases hjk : j = k
          · subst hjk; rw [nb]; exact c0
          · rw [NX.out j hj hjk]; exact HC.out j hj
        have FIN := Lib.hid fin
        clear fin nb nk
        by_cases h2 : b.toNat < 65
        · have g1 : decide ((65 : Int) ≤ (b.toNat : Int)) = false := by simp; omega
          go_wp2
          go_roundw
          case rel => exact ⟨k + 1, by go_num, by omega, FIN.out, HZ.out, hb⟩
          case measure => simp [intOf]; omega
        · have g1 : decide ((65 : Int) ≤ (b.toNat : Int)) = true := by simp; omega
          have g2 : decide ((b.toNat : Int) ≤ 90) = false := by simp; omega
          go_wp2
          go_roundw
          case rel => exact ⟨k + 1, by go_num, by omega, FIN.out, HZ.out, hb⟩
          case measure => simp [intOf]; omega
    · obtain rfl : k = s.size := by omega
      have hcv : (convert 62 9 (.slice (some ⟨w.heap.size, 0, none⟩) s.size c)).run Tryz.prog wr = .ok (.string (small s)) wr := by
        have := run_convert_bytes_back (P := Tryz.prog) wr 62 9 5 ⟨w.heap.size, 0, none⟩ c (s.data.toList.map smallU) Tryz.underlying62 Tryz.underlying5 Tryz.underlying9 (fun j hj => by
          have hj' : j < s.size := by rw [List.length_map] at hj; rw [Lib.size_eq s]; exact hj
          rw [add_at, HC.out j hj']
          have : smallAt s s.size j = (s.data.toList.map smallU)[j] := by
            unfold smallAt; rw [if_pos hj', List.getElem_map, List.getD_eq_getElem?_getD, List.getElem?_eq_getElem (by rw [← Lib.size_eq s]; exact hj')]; rfl
          rw [this])
        rw [show (s.data.toList.map smallU).length = s.size by rw [List.length_map, Lib.size_eq s]] at this
        exact this
      go_wp2
      go_ret
      exact ⟨rfl, hb⟩
end Go.Proofs.YtlbmjfjmbgbpeaaGreatDoor
