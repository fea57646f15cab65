/- The thin package's converter of attributes hands back the same keys with the same values, in new memory. -/
import Derived.Test.YtkaelnfhohggeaaDoorBase
namespace Go.Proofs.YtkaelnfhohggeaaDoor
open Go.RowKit

theorem Tryd.infoAttr : (Tryd.prog.info? 105).map (fun i => (i.zero, i.size, i.bytes)) = some (some (.agg #[.string ByteArray.empty, .string ByteArray.empty]), 2, 32) := by kernel_rfl

set_option maxHeartbeats 400000 in
theorem attributes_any {D : Nat → Prop} (A : Option Addr) (c : Nat) (l : List KV) (w : World) (hl : l.length * 32 ≤ 140737488355328) (h : KVs D w A l) :
    Calls Tryd.prog 25 #[.slice A l.length c] w fun e w' => ∃ A' c', e = .returned (.slice A' l.length c') ∧ KVs (w.heap.size ≤ ·) w' A' l ∧ Below w.heap.size w w' := by
  obtain ⟨i0, hi, hz0, hz1, hz2⟩ := info_parts Tryd.infoAttr
  have H := Lib.hid h
  clear h
  go_enter Tryd.func25, Tryd.ntmps25
  go_wp2
  go_loopw [3, 8] (fun v i wr => ∃ k : Nat, k ≤ l.length ∧ i = .int .i64 k ∧ wr.ownsRow w.heap.size 105 2 v k (kvCells (l.take k)) ∧ Below w.heap.size w wr) (fun _ i _ => l.length - (intOf i).toNat)
  case atStart => exact ⟨0, Nat.zero_le _, rfl, World.ownsRow_nil _ _ _ _, Below.refl _ _⟩
  case round =>
    obtain ⟨k, hk, rfl, hown, hb⟩ := hrel
    by_cases hlt : k < l.length
    · obtain ⟨b, o, rfl, _, c0, c1⟩ := H.out k l[k] (by simp [hlt])
      have d0 := (hb.cell (p := ⟨b, o + k * 2, none⟩) (World.block_lt_of_cell? _ _ c0)).trans c0
      have d1 := (hb.cell (p := ⟨b, o + k * 2 + 1, none⟩) (World.block_lt_of_cell? _ _ c1)).trans c1
      have hsz := hb.size
      clear c0 c1
      go_wp2_with (at_builtin; refine wpList_append_own _ rfl _ _ 73 rfl w.heap.size 105 i0 _ 2 32 Tryd.underlying73 hi hz0 hz1 hz2 rfl (by decide) _ _ _ rfl ((hown.alloc _).alloc _) ⟨wr.heap.size + 1, 0, none⟩ 1 1 [.string l[k].1, .string l[k].2] rfl rfl ?c1 ?c2 ?c3 ?c4 ?c5 ?_)
      case c1 => exact World.news_of_block (cs := #[.string l[k].1, .string l[k].2]) (t := 105) (fr := (0, 0)) (by simpa using heap_alloc_new (wr.alloc (Obj.cells #[Value.string l[k].fst, Value.string l[k].snd] 42)) _)
      case c2 => intro u hu; simp at hu; rcases hu with rfl | rfl <;> rfl
      case c3 => unfold maxLen; omega
      case c4 => omega
      case c5 => simp; omega
      intro v' w1 hown' hgrow _
      have e1 : kvCells (l.take (k + 1)) = kvCells (l.take k) ++ [.string l[k].1, .string l[k].2] := by
        rw [List.take_succ_eq_append_getElem hlt, kvCells_snoc]
      rw [← e1] at hown'
      have hb' : Below w.heap.size w w1 := ((hb.alloc hsz _).alloc (by simp; omega) _).grown hgrow (by simp; omega) (fun j hj => (hown.lt j hj).1)
      clear hgrow hown hb e1 d0 d1
      go_wp2
      go_roundw
      case rel => exact ⟨k + 1, by omega, by go_num, hown', hb'⟩
      case measure => simp [intOf]; omega
    · obtain rfl : k = l.length := by omega
      rw [List.take_length] at hown
      obtain ⟨A', c', rfl, hr⟩ := own_kvs hown
      clear hown
      go_wp2
      go_ret
      exact ⟨A', c', rfl, hr, hb⟩
end Go.Proofs.YtkaelnfhohggeaaDoor
