/- The law's own pairs: the reference's as the package's. -/
import Derived.Test.YtkaelnfhohggeaaDoorFitsC
namespace Go.Proofs.YtkaelnfhohggeaaDoor
open Go.RowKit

theorem Tryd.infoIKVp : (Tryd.prog.info? 42).map (fun i => (i.zero, i.size, i.bytes)) = some (some (.agg #[.string ByteArray.empty, .string ByteArray.empty]), 2, 32) := by kernel_rfl
set_option maxHeartbeats 1000000 in
theorem plain_any {D : Nat → Prop} (A : Option Addr) (c : Nat) (l : List KV) (w : World) (hl : l.length * 32 ≤ 140737488355328) (h : KVs D w A l) :
    Calls Tryd.prog 8 #[.slice A l.length c] w fun e w' => ∃ A' c', e = .returned (.slice A' l.length c') ∧ KVs (w.heap.size ≤ ·) w' A' l ∧ Below w.heap.size w w' := by
  obtain ⟨i0, hi, hz0, hz1, hz2⟩ := info_parts Tryd.infoIKVp
  have H := Lib.hid h
  clear h
  go_enter Tryd.func8, Tryd.ntmps8
  go_wp2
  go_loopw [3, 8] (fun u i wr => ∃ k : Nat, k ≤ l.length ∧ i = .int .i64 k ∧ wr.ownsRow w.heap.size 42 2 u k (kvCells (l.take k)) ∧ Below w.heap.size w wr) (fun _ i _ => l.length - (intOf i).toNat)
  case atStart => exact ⟨0, Nat.zero_le _, rfl, World.ownsRow_nil _ _ _ _, Below.refl _ _⟩
  case round =>
    obtain ⟨wo, rfl⟩ : ∃ wo : World, wo = wr := ⟨_, rfl⟩
    obtain ⟨k, hk, rfl, hown, hb⟩ := hrel
    have HOWN := Lib.hid hown
    clear hown
    have hsz := hb.size
    by_cases hlt : k < l.length
    · obtain ⟨b, o, rfl, _, c0, c1⟩ := H.out k l[k] (by simp [hlt])
      have d0 := (hb.cell (p := ⟨b, o + k * 2, none⟩) (World.block_lt_of_cell? _ _ c0)).trans c0
      have d1 := (hb.cell (p := ⟨b, o + k * 2 + 1, none⟩) (World.block_lt_of_cell? _ _ c1)).trans c1
      clear c0 c1
      go_wp2_with (at_builtin; refine wpList_append_own _ rfl _ _ 26 rfl w.heap.size 42 i0 _ 2 32 Tryd.underlying26 hi hz0 hz1 hz2 rfl (by decide) _ k (kvCells (l.take k)) rfl ((HOWN.out.alloc _).alloc _) ⟨wo.heap.size + 1, 0, none⟩ 1 1 [.string l[k].1, .string l[k].2] rfl rfl ?c1 ?c2 ?c3 ?c4 ?c5 ?_)
      case c1 => exact World.news_of_block (cs := #[.string l[k].1, .string l[k].2]) (t := 42) (fr := (0, 0)) (new_second wo _ _)
      case c2 => intro u hu; simp at hu; rcases hu with rfl | rfl <;> rfl
      case c3 => unfold maxLen; omega
      case c4 => omega
      case c5 => simp; omega
      intro v' w1 hown' hgrow _
      have e1 : kvCells (l.take (k + 1)) = kvCells (l.take k) ++ [.string l[k].1, .string l[k].2] := by
        rw [List.take_succ_eq_append_getElem hlt]; exact kvCells_snoc _ _
      rw [← e1] at hown'
      have bel : Below w.heap.size w w1 := ((hb.alloc hsz _).alloc (by simp; omega) _).grown hgrow (by simp; omega) (fun j hj => (HOWN.out.lt _ hj).1)
      have OWN := Lib.hid hown'
      have BEL := Lib.hid bel
      clear hown' hgrow e1 bel d0 d1
      go_wp2
      go_roundw
      case rel => exact ⟨k + 1, by omega, by go_num, OWN.out, BEL.out⟩
      case measure => simp [intOf]; omega
    · obtain rfl : k = l.length := by omega
      have hown := HOWN.out
      rw [List.take_length] at hown
      obtain ⟨A', c', rfl, hr⟩ := own_kvs hown
      clear hown
      go_wp2
      go_ret
      exact ⟨A', c', rfl, hr, hb⟩
end Go.Proofs.YtkaelnfhohggeaaDoor
