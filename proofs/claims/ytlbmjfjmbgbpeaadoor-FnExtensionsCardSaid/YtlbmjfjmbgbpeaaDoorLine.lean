/- The reference's line of parameters, and its pieces. -/
import Derived.Test.YtlbmjfjmbgbpeaaDoorBase
import Derived.Lib.IndexBytes
namespace Go.Proofs.YtlbmjfjmbgbpeaaDoor
open Go.RowKit

/-- The parameters of l behind acc; k of them were before. -/
def lineGo (blank : Bool) : Nat → ByteArray → List KV → ByteArray
  | _, acc, [] => acc
  | k, acc, p :: r => lineGo blank (k + 1) ((if 0 < k then (if blank = true then (acc ++ ⟨#[59]⟩) ++ ⟨#[32]⟩ else acc ++ ⟨#[59]⟩) else acc) ++ ((p.1 ++ ⟨#[61]⟩) ++ p.2)) r
def lineOf (blank : Bool) (l : List KV) : ByteArray := lineGo blank 0 ⟨#[]⟩ l

set_option maxHeartbeats 2000000 in
set_option maxRecDepth 100000 in
theorem line_any {D : Nat → Prop} (A : Option Addr) (c : Nat) (l : List KV) (blank : Bool) (w : World) (hl : l.length ≤ 1000) (hz : ∀ p ∈ l, p.1.size ≤ 20 ∧ p.2.size ≤ 20) (h : KVs D w A l) :
    Calls Tryd.prog 21 #[.slice A l.length c, .bool blank] w fun e w' => e = .returned (.string (lineOf blank l)) ∧ (lineOf blank l).size ≤ l.length * 43 ∧ Below w.heap.size w w' := by
  have H := Lib.hid h
  have HZ := Lib.hid hz
  clear h hz
  go_enter Tryd.func21, Tryd.ntmps21
  go_wp2
  go_loopw [5, 10] (fun a i wr => ∃ (k : Nat) (acc : ByteArray), a = .string acc ∧ i = .int .i64 k ∧ k ≤ l.length ∧ acc.size ≤ k * 43 ∧ lineGo blank k acc (l.drop k) = lineOf blank l ∧ Below w.heap.size w wr) (fun _ i _ => l.length - (intOf i).toNat)
  case atStart => exact ⟨0, ⟨#[]⟩, rfl, rfl, Nat.zero_le _, Nat.zero_le _, rfl, Below.refl _ _⟩
  case round =>
    obtain ⟨k, acc, rfl, rfl, hk, hsz, hat, hb⟩ := hrel
    have HAT := Lib.hid hat
    clear hat
    have hs0 := hb.size
    by_cases hlt : k < l.length
    · obtain ⟨b, o, rfl, _, c0, c1⟩ := H.out k l[k] (by simp [hlt])
      have d0 := (hb.cell (p := ⟨b, o + k * 2, none⟩) (World.block_lt_of_cell? _ _ c0)).trans c0
      have d1 := (hb.cell (p := ⟨b, o + k * 2 + 1, none⟩) (World.block_lt_of_cell? _ _ c1)).trans c1
      clear c0 c1
      obtain ⟨z1, z2⟩ := HZ.out _ (List.getElem_mem hlt)
      have y1 : (⟨#[59]⟩ : ByteArray).size = 1 := rfl
      have y2 : (⟨#[32]⟩ : ByteArray).size = 1 := rfl
      have y3 : (⟨#[61]⟩ : ByteArray).size = 1 := rfl
      have e1 := HAT.out
      rw [List.drop_eq_getElem_cons hlt, lineGo] at e1
      by_cases h0 : 0 < k
      · rw [if_pos h0] at e1
        have g0 : decide ((0 : Int) < (k : Int)) = true := by simp; omega
        cases blank with
        | true =>
          rw [if_pos rfl] at e1
          have E1 := Lib.hid e1
          clear e1
          go_wp2
          go_roundw
          case rel => exact ⟨k + 1, _, rfl, by go_num, by omega, by simp only [ByteArray.size_append, y1, y2, y3]; omega, E1.out, hb.alloc hs0 _⟩
          case measure => simp [intOf]; omega
        | false =>
          rw [if_neg (by decide)] at e1
          have E1 := Lib.hid e1
          clear e1
          go_wp2
          go_roundw
          case rel => exact ⟨k + 1, _, rfl, by go_num, by omega, by simp only [ByteArray.size_append, y1, y3]; omega, E1.out, hb.alloc hs0 _⟩
          case measure => simp [intOf]; omega
      · rw [if_neg h0] at e1
        have g0 : decide ((0 : Int) < (k : Int)) = false := by simp; omega
        have E1 := Lib.hid e1
        clear e1
        go_wp2
        go_roundw
        case rel => exact ⟨k + 1, _, rfl, by go_num, by omega, by simp only [ByteArray.size_append, y3]; omega, E1.out, hb.alloc hs0 _⟩
        case measure => simp [intOf]; omega
    · obtain rfl : k = l.length := by omega
      have e1 : acc = lineOf blank l := by rw [← HAT.out, List.drop_length]; rfl
      have hsz2 : (lineOf blank l).size ≤ l.length * 43 := e1 ▸ hsz
      have E1 := Lib.hid e1
      have HS := Lib.hid hsz2
      clear e1 hsz2
      go_wp2
      go_ret
      exact ⟨congrArg (fun s => Ending.returned (.string s)) E1.out, HS.out, hb⟩
end Go.Proofs.YtlbmjfjmbgbpeaaDoor
