/- The reference's value of a key. -/
import Derived.Test.YtlbmjfjmbgbpeaaGreatDoorSmall
namespace Go.Proofs.YtlbmjfjmbgbpeaaGreatDoor
open Go.RowKit

/-- The value of the first parameter whose key in small letters is this text. -/
def valOf (key : List UInt8) : List KV → ByteArray × Bool
  | [] => (⟨#[]⟩, false)
  | p :: r => if (small p.1).toList == key then (p.2, true) else valOf key r
theorem valOf_hit {key : List UInt8} {l : List KV} {k : Nat} (hk : k < l.length) (hp : ((small l[k].1).toList == key) = true) : valOf key (l.drop k) = (l[k].2, true) := by
  rw [List.drop_eq_getElem_cons hk, valOf, if_pos hp]
theorem valOf_miss {key : List UInt8} {l : List KV} {k : Nat} (hk : k < l.length) (hp : ((small l[k].1).toList == key) = false) : valOf key (l.drop k) = valOf key (l.drop (k + 1)) := by
  rw [List.drop_eq_getElem_cons hk, valOf, if_neg (by simp [hp])]
theorem val_eq {a : ByteArray × Bool} {x : ByteArray} {b : Bool} (h : a = (x, b)) : (Ending.returned (.tuple #[.string x, .bool b]) : Ending) = .returned (.tuple #[.string a.1, .bool a.2]) := by rw [h]

set_option maxHeartbeats 2000000 in
set_option maxRecDepth 100000 in
theorem value_any {D : Nat → Prop} (A : Option Addr) (c : Nat) (l : List KV) (key : ByteArray) (w : World) (hl : l.length * 32 ≤ 140737488355328) (hz : ∀ p ∈ l, p.1.size ≤ 4294967296) (hkz : key.size ≤ 4294967296) (h : KVs D w A l) :
    Calls Tryz.prog 22 #[.slice A l.length c, .string key] w fun e w' => e = .returned (.tuple #[.string (valOf (small key).toList l).1, .bool (valOf (small key).toList l).2]) ∧ Below w.heap.size w w' := by
  have H := Lib.hid h
  have HZ := Lib.hid hz
  clear h hz
  go_enter Tryz.func22, Tryz.ntmps22
  go_wp2
  go_loopw [10] (fun i wr => ∃ k : Nat, i = .int .i64 k ∧ k ≤ l.length ∧ valOf (small key).toList (l.drop k) = valOf (small key).toList l ∧ Below w.heap.size w wr) (fun i _ => l.length - (intOf i).toNat)
  case atStart => exact ⟨0, rfl, Nat.zero_le _, rfl, Below.refl _ _⟩
  case round =>
    obtain ⟨k, rfl, hk, hat, hb⟩ := hrel
    have HAT := Lib.hid hat
    clear hat
    have hsz := hb.size
    by_cases hlt : k < l.length
    · obtain ⟨b, o, rfl, _, c0, c1⟩ := H.out k l[k] (by simp [hlt])
      have d0 := (hb.cell (p := ⟨b, o + k * 2, none⟩) (World.block_lt_of_cell? _ _ c0)).trans c0
      have d1 := (hb.cell (p := ⟨b, o + k * 2 + 1, none⟩) (World.block_lt_of_cell? _ _ c1)).trans c1
      clear c0 c1
      have hzk := HZ.out _ (List.getElem_mem hlt)
      have HC1 := Lib.hid (fun w => small_any l[k].1 w hzk)
      have HC2 := Lib.hid (fun w => small_any key w hkz)
      cases ht : ((small l[k].1).toList == (small key).toList) with
      | true =>
        have e1 := HAT.out
        rw [valOf_hit hlt ht] at e1
        have E1 := Lib.hid e1
        clear e1
        go_wp2_with fail
        refine (HC1.out _).mono ?_
        rintro e w1 ⟨rfl, hb1⟩
        have k1 : w1.cell? ⟨wr.heap.size, 1, none⟩ = some (.string l[k].2) := (hb1.cell (by simp)).trans (by simp [go_sem])
        go_wp2_with fail
        refine (HC2.out _).mono ?_
        rintro e w2 ⟨rfl, hb2⟩
        have k2 : w2.cell? ⟨wr.heap.size, 1, none⟩ = some (.string l[k].2) := kp_of_below hb2 _ _ k1
        go_wp2
        go_ret2
        exact ⟨val_eq E1.out.symm, ((hb.alloc hsz _).trans (hb1.mono (by simp; omega))).trans (hb2.mono (by have := hb1.size; simp at this; omega))⟩
      | false =>
        have e1 := HAT.out
        rw [valOf_miss hlt ht] at e1
        have E1 := Lib.hid e1
        clear e1
        go_wp2_with fail
        refine (HC1.out _).mono ?_
        rintro e w1 ⟨rfl, hb1⟩
        go_wp2_with fail
        refine (HC2.out _).mono ?_
        rintro e w2 ⟨rfl, hb2⟩
        go_wp2
        go_roundw
        case rel => exact ⟨k + 1, by go_num, by omega, E1.out, ((hb.alloc hsz _).trans (hb1.mono (by simp; omega))).trans (hb2.mono (by have := hb1.size; simp at this; omega))⟩
        case measure => simp [intOf]; omega
    · obtain rfl : k = l.length := by omega
      have e1 := HAT.out
      rw [List.drop_length] at e1
      have E1 := Lib.hid e1
      clear e1
      go_wp2
      go_ret2
      exact ⟨val_eq E1.out.symm, hb⟩
end Go.Proofs.YtlbmjfjmbgbpeaaGreatDoor
