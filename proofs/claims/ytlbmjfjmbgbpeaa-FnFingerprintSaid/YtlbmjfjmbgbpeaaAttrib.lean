/- The first attribute of a key, of a session and of a medium. -/
import Derived.Test.YtlbmjfjmbgbpeaaDescr
import Derived.Test.YtlbmjfjmbgbpeaaMid
namespace Go.Proofs.Ytlbmjfjmbgbpeaa
open Go.RowKit

/-- Is there an attribute of this key? -/
def attrHas (key : List UInt8) (l : List KV) : Bool := l.any fun p => p.1.toList == key
theorem attrHas_hit {key : List UInt8} {l : List KV} {k : Nat} (hk : k < l.length) (hp : (l[k].1.toList == key) = true) : attrHas key (l.drop k) = true := by
  rw [List.drop_eq_getElem_cons hk, attrHas, List.any_cons, hp]; rfl
theorem attrHas_miss {key : List UInt8} {l : List KV} {k : Nat} (hk : k < l.length) (hp : (l[k].1.toList == key) = false) : attrHas key (l.drop k) = attrHas key (l.drop (k + 1)) := by
  rw [List.drop_eq_getElem_cons hk, attrHas, List.any_cons, hp]; rfl

theorem pair_eq {a b : ByteArray} {x y : Bool} (h1 : a = b) (h2 : x = y) : (Ending.returned (.tuple #[.string a, .bool x]) : Ending) = .returned (.tuple #[.string b, .bool y]) := by rw [h1, h2]

set_option maxHeartbeats 1000000 in
theorem sdAttr_any {D : Nat → Prop} (p : Nat) (key : ByteArray) (l : List KV) (ms : List MediaD) (w : World) (hl : l.length * 32 ≤ 140737488355328) (h : SD D w p l ms) :
    Calls Try.prog 48 #[.pointer (some ⟨p, 0, none⟩), .string key] w fun e w' => e = .returned (.tuple #[.string (attrOf key.toList l), .bool (attrHas key.toList l)]) ∧ Below w.heap.size w w' := by
  obtain ⟨_, ⟨A, c, h9, hkv⟩, _⟩ := h
  have H := Lib.hid hkv
  clear hkv
  go_enter Try.func48, Try.ntmps48
  go_wp2
  go_loopw [13] (fun i wr => ∃ k : Nat, k ≤ l.length ∧ i = .int .i64 k ∧ attrOf key.toList (l.drop k) = attrOf key.toList l ∧ attrHas key.toList (l.drop k) = attrHas key.toList l ∧ Below w.heap.size w wr) (fun i _ => l.length - (intOf i).toNat)
  case atStart => exact ⟨0, Nat.zero_le _, rfl, rfl, rfl, Below.refl _ _⟩
  case round =>
    obtain ⟨k, hk, rfl, hat, hah, hb⟩ := hrel
    have HAT := Lib.hid hat
    have HAH := Lib.hid hah
    clear hat hah
    have hsz := hb.size
    by_cases hlt : k < l.length
    · obtain ⟨b, o, rfl, _, c0, c1⟩ := H.out k l[k] (by simp [hlt])
      have d0 := (hb.cell (p := ⟨b, o + k * 2, none⟩) (World.block_lt_of_cell? _ _ c0)).trans c0
      have d1 := (hb.cell (p := ⟨b, o + k * 2 + 1, none⟩) (World.block_lt_of_cell? _ _ c1)).trans c1
      clear c0 c1
      have gk : l[k]? = some l[k] := by simp [hlt]
      have GK := Lib.hid gk
      clear gk
      cases ht : (l[k].1.toList == key.toList) with
      | true =>
        have e1 : attrOf key.toList l = l[k].2 := by rw [← HAT.out]; exact attrOf_hit GK.out ht
        have e2 : attrHas key.toList l = true := by rw [← HAH.out]; exact attrHas_hit hlt ht
        have E1 := Lib.hid e1
        have E2 := Lib.hid e2
        clear e1 e2
        go_wp2
        go_ret2
        exact ⟨pair_eq E1.out.symm E2.out.symm, hb.alloc hsz _⟩
      | false =>
        have e1 : attrOf key.toList (l.drop (k + 1)) = attrOf key.toList l := by rw [← HAT.out]; exact (attrOf_miss GK.out ht).symm
        have e2 : attrHas key.toList (l.drop (k + 1)) = attrHas key.toList l := by rw [← HAH.out]; exact (attrHas_miss hlt ht).symm
        have E1 := Lib.hid e1
        have E2 := Lib.hid e2
        clear e1 e2
        go_wp2
        go_roundw
        case rel => exact ⟨k + 1, by omega, by go_num, E1.out, E2.out, hb.alloc hsz _⟩
        case measure => simp [intOf]; omega
    · obtain rfl : k = l.length := by omega
      have e1 : attrOf key.toList l = ⟨#[]⟩ := by rw [← HAT.out, List.drop_length]; rfl
      have e2 : attrHas key.toList l = false := by rw [← HAH.out, List.drop_length]; rfl
      have E1 := Lib.hid e1
      have E2 := Lib.hid e2
      clear e1 e2
      go_wp2
      go_ret2
      exact ⟨pair_eq E1.out.symm E2.out.symm, hb⟩

set_option maxHeartbeats 1000000 in
theorem mdAttr_any {D : Nat → Prop} (p : Nat) (kind : ByteArray) (fs : List ByteArray) (key : ByteArray) (l : List KV) (w : World) (hl : l.length * 32 ≤ 140737488355328) (h : MD D w p kind fs l) :
    Calls Try.prog 53 #[.pointer (some ⟨p, 0, none⟩), .string key] w fun e w' => e = .returned (.tuple #[.string (attrOf key.toList l), .bool (attrHas key.toList l)]) ∧ Below w.heap.size w w' := by
  obtain ⟨_, _, _, A, c, h9, hkv⟩ := h
  have H := Lib.hid hkv
  clear hkv
  go_enter Try.func53, Try.ntmps53
  go_wp2
  go_loopw [13] (fun i wr => ∃ k : Nat, k ≤ l.length ∧ i = .int .i64 k ∧ attrOf key.toList (l.drop k) = attrOf key.toList l ∧ attrHas key.toList (l.drop k) = attrHas key.toList l ∧ Below w.heap.size w wr) (fun i _ => l.length - (intOf i).toNat)
  case atStart => exact ⟨0, Nat.zero_le _, rfl, rfl, rfl, Below.refl _ _⟩
  case round =>
    obtain ⟨k, hk, rfl, hat, hah, hb⟩ := hrel
    have HAT := Lib.hid hat
    have HAH := Lib.hid hah
    clear hat hah
    have hsz := hb.size
    by_cases hlt : k < l.length
    · obtain ⟨b, o, rfl, _, c0, c1⟩ := H.out k l[k] (by simp [hlt])
      have d0 := (hb.cell (p := ⟨b, o + k * 2, none⟩) (World.block_lt_of_cell? _ _ c0)).trans c0
      have d1 := (hb.cell (p := ⟨b, o + k * 2 + 1, none⟩) (World.block_lt_of_cell? _ _ c1)).trans c1
      clear c0 c1
      have gk : l[k]? = some l[k] := by simp [hlt]
      have GK := Lib.hid gk
      clear gk
      cases ht : (l[k].1.toList == key.toList) with
      | true =>
        have e1 : attrOf key.toList l = l[k].2 := by rw [← HAT.out]; exact attrOf_hit GK.out ht
        have e2 : attrHas key.toList l = true := by rw [← HAH.out]; exact attrHas_hit hlt ht
        have E1 := Lib.hid e1
        have E2 := Lib.hid e2
        clear e1 e2
        go_wp2
        go_ret2
        exact ⟨pair_eq E1.out.symm E2.out.symm, hb.alloc hsz _⟩
      | false =>
        have e1 : attrOf key.toList (l.drop (k + 1)) = attrOf key.toList l := by rw [← HAT.out]; exact (attrOf_miss GK.out ht).symm
        have e2 : attrHas key.toList (l.drop (k + 1)) = attrHas key.toList l := by rw [← HAH.out]; exact (attrHas_miss hlt ht).symm
        have E1 := Lib.hid e1
        have E2 := Lib.hid e2
        clear e1 e2
        go_wp2
        go_roundw
        case rel => exact ⟨k + 1, by omega, by go_num, E1.out, E2.out, hb.alloc hsz _⟩
        case measure => simp [intOf]; omega
    · obtain rfl : k = l.length := by omega
      have e1 : attrOf key.toList l = ⟨#[]⟩ := by rw [← HAT.out, List.drop_length]; rfl
      have e2 : attrHas key.toList l = false := by rw [← HAH.out, List.drop_length]; rfl
      have E1 := Lib.hid e1
      have E2 := Lib.hid e2
      clear e1 e2
      go_wp2
      go_ret2
      exact ⟨pair_eq E1.out.symm E2.out.symm, hb⟩
end Go.Proofs.Ytlbmjfjmbgbpeaa
