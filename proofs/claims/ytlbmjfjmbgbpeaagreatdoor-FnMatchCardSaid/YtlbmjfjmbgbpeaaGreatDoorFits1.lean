/- The size guard of the laws over a list of pairs, and the copy of the pairs. -/
import Derived.Test.YtlbmjfjmbgbpeaaGreatDoorBase
namespace Go.Proofs.YtlbmjfjmbgbpeaaGreatDoor
open Go.RowKit

def fitP (p : KV) : Bool := decide (p.1.size ≤ 2147483647) && decide (p.2.size ≤ 2147483647)
/-- The list and its texts are no longer than the laws speak of. -/
def fitsP (l : List KV) : Bool := decide (l.length ≤ 2147483647) && l.all fitP
theorem fitsP_drop {l : List KV} {k : Nat} (hk : k < l.length) : (l.drop k).all fitP = (fitP l[k] && (l.drop (k + 1)).all fitP) := by
  rw [List.drop_eq_getElem_cons hk, List.all_cons]
theorem fitsP_mem {l : List KV} (h : fitsP l = true) : l.length ≤ 2147483647 ∧ ∀ p ∈ l, p.1.size ≤ 2147483647 ∧ p.2.size ≤ 2147483647 := by
  unfold fitsP at h
  rw [Bool.and_eq_true] at h
  refine ⟨of_decide_eq_true h.1, fun p hp => ?_⟩
  have := List.all_eq_true.1 h.2 p hp
  unfold fitP at this
  simpa using this

set_option maxHeartbeats 1000000 in
theorem fits2_any (p : KV) (w : World) (h1 : p.1.size ≤ 9223372036854775807) (h2 : p.2.size ≤ 9223372036854775807) :
    Calls Tryz.prog 15 #[.agg #[.string p.1, .string p.2]] w fun e w' => e = .returned (.bool (fitP p)) ∧ Below w.heap.size w w' := by
  have bel : ∀ o, Below w.heap.size w (w.alloc o) := fun o => (Below.refl _ _).alloc (Nat.le_refl _) _
  have BEL := Lib.hid bel
  clear bel
  by_cases g1 : 2147483647 < p.1.size
  · have fin : fitP p = false := by unfold fitP; rw [decide_eq_false (by omega)]; rfl
    have FIN := Lib.hid fin
    clear fin
    go_enter Tryz.func15, Tryz.ntmps15
    go_wp2
    go_ret
    exact ⟨congrArg (fun b => Ending.returned (.bool b)) FIN.out.symm, BEL.out _⟩
  · by_cases g2 : 2147483647 < p.2.size
    · have fin : fitP p = false := by unfold fitP; rw [decide_eq_true (by omega), decide_eq_false (by omega)]; rfl
      have FIN := Lib.hid fin
      clear fin
      go_enter Tryz.func15, Tryz.ntmps15
      go_wp2
      go_ret
      exact ⟨congrArg (fun b => Ending.returned (.bool b)) FIN.out.symm, BEL.out _⟩
    · have fin : fitP p = true := by unfold fitP; rw [decide_eq_true (by omega), decide_eq_true (by omega)]; rfl
      have FIN := Lib.hid fin
      clear fin
      go_enter Tryz.func15, Tryz.ntmps15
      go_wp2
      go_ret
      exact ⟨congrArg (fun b => Ending.returned (.bool b)) FIN.out.symm, BEL.out _⟩

set_option maxHeartbeats 1000000 in
theorem fits1_any {D : Nat → Prop} (A : Option Addr) (c : Nat) (l : List KV) (w : World) (hl : l.length * 32 ≤ 140737488351232) (h : KVs D w A l) (hz : ∀ p ∈ l, p.1.size ≤ 9223372036854775807 ∧ p.2.size ≤ 9223372036854775807) :
    Calls Tryz.prog 5 #[.slice A l.length c] w fun e w' => e = .returned (.bool (fitsP l)) ∧ Below w.heap.size w w' := by
  have H := Lib.hid h
  have HZ := Lib.hid hz
  clear h hz
  by_cases hb : 2147483647 < l.length
  · have fin : fitsP l = false := by unfold fitsP; rw [decide_eq_false (by omega)]; rfl
    have FIN := Lib.hid fin
    clear fin
    go_enter Tryz.func5, Tryz.ntmps5
    go_wp2
    go_ret
    exact ⟨congrArg (fun b => Ending.returned (.bool b)) FIN.out.symm, Below.refl _ _⟩
  · have fin : (l.drop 0).all fitP = fitsP l := by unfold fitsP; rw [decide_eq_true (by omega)]; rfl
    have FIN := Lib.hid fin
    clear fin
    go_enter Tryz.func5, Tryz.ntmps5
    go_wp2
    go_loopw [10] (fun i wr => ∃ k : Nat, i = .int .i64 k ∧ k ≤ l.length ∧ (l.drop k).all fitP = fitsP l ∧ Below w.heap.size w wr) (fun i _ => l.length - (intOf i).toNat)
    case atStart => exact ⟨0, rfl, by omega, FIN.out, Below.refl _ _⟩
    case round =>
      obtain ⟨k, rfl, hk, hall, hbw⟩ := hrel
      have HALL := Lib.hid hall
      clear hall
      have hs0 := hbw.size
      by_cases hlt : k < l.length
      · obtain ⟨b, o, rfl, _, c0, c1⟩ := H.out k l[k] (by simp [hlt])
        have d0 := (hbw.cell (p := ⟨b, o + k * 2, none⟩) (World.block_lt_of_cell? _ _ c0)).trans c0
        have d1 := (hbw.cell (p := ⟨b, o + k * 2 + 1, none⟩) (World.block_lt_of_cell? _ _ c1)).trans c1
        clear c0 c1
        have hsz := HZ.out l[k] (List.getElem_mem _)
        cases hf : fitP l[k] with
        | false =>
          have fin : fitsP l = false := by rw [← HALL.out, fitsP_drop hlt, hf]; rfl
          have FIN2 := Lib.hid fin
          have hc : ∀ w, Calls Tryz.prog 15 #[.agg #[.string l[k].1, .string l[k].2]] w fun e w' => e = .returned (.bool false) ∧ Below w.heap.size w w' := fun w => by
            have := fits2_any l[k] w hsz.1 hsz.2
            rw [hf] at this
            exact this
          have HC := Lib.hid hc
          clear fin hc hf
          go_wp2_with (go_at_call 15; refine (HC.out _).mono ?_; rintro e w1 ⟨rfl, hb1⟩)
          go_ret
          exact ⟨congrArg (fun b => Ending.returned (.bool b)) FIN2.out.symm, (hbw.alloc hs0 _).trans (hb1.mono (by simp; omega))⟩
        | true =>
          have nx : (l.drop (k + 1)).all fitP = fitsP l := by rw [← HALL.out, fitsP_drop hlt, hf]; rfl
          have NX := Lib.hid nx
          have hc : ∀ w, Calls Tryz.prog 15 #[.agg #[.string l[k].1, .string l[k].2]] w fun e w' => e = .returned (.bool true) ∧ Below w.heap.size w w' := fun w => by
            have := fits2_any l[k] w hsz.1 hsz.2
            rw [hf] at this
            exact this
          have HC := Lib.hid hc
          clear nx hc hf
          go_wp2_with (go_at_call 15; refine (HC.out _).mono ?_; rintro e w1 ⟨rfl, hb1⟩)
          go_roundw
          case rel => exact ⟨k + 1, by go_num, by omega, NX.out, (hbw.alloc hs0 _).trans (hb1.mono (by simp; omega))⟩
          case measure => simp [intOf]; omega
      · obtain rfl : k = l.length := by omega
        have fin : fitsP l = true := by rw [← HALL.out, List.drop_length]; rfl
        have FIN2 := Lib.hid fin
        clear fin
        go_wp2
        go_ret
        exact ⟨congrArg (fun b => Ending.returned (.bool b)) FIN2.out.symm, hbw⟩

theorem Tryz.infoKVs : (Tryz.prog.info? 52).map (fun i => (i.zero, i.size, i.bytes)) = some (some (.agg #[.string ByteArray.empty, .string ByteArray.empty]), 2, 32) := by kernel_rfl

set_option maxHeartbeats 2000000 in
set_option maxRecDepth 100000 in
theorem pairs_any {D : Nat → Prop} (A : Option Addr) (c : Nat) (l : List KV) (w : World) (hl : l.length * 32 ≤ 140737488355328) (h : KVs D w A l) :
    Calls Tryz.prog 6 #[.slice A l.length c] w fun e w' => ∃ A' c', e = .returned (.slice A' l.length c') ∧ KVs (w.heap.size ≤ ·) w' A' l ∧ Below w.heap.size w w' := by
  obtain ⟨i0, hi, hz0, hz1, hz2⟩ := info_parts Tryz.infoKVs
  have H := Lib.hid h
  clear h
  go_enter Tryz.func6, Tryz.ntmps6
  go_wp2
  go_loopw [3, 8] (fun u i wr => ∃ k : Nat, k ≤ l.length ∧ i = .int .i64 k ∧ wr.ownsRow w.heap.size 52 2 u k (kvCells (l.take k)) ∧ Below w.heap.size w wr) (fun _ i _ => l.length - (intOf i).toNat)
  case atStart => exact ⟨0, Nat.zero_le _, rfl, World.ownsRow_nil _ _ _ _, Below.refl _ _⟩
  case round =>
    obtain ⟨wo, rfl⟩ : ∃ wo : World, wo = wr := ⟨_, rfl⟩
    obtain ⟨k, hk, rfl, hown, hb⟩ := hrel
    have HOWN := Lib.hid hown
    clear hown
    have hsz := hb.size
    by_cases hlt : k < l.length
    · obtain ⟨b, o, rfl, _, c0, c1⟩ := H.out k l[k] (by simp [hlt])
      have d0 := (hb.cell (p := ⟨b, o + k * 2, none⟩) (World.block_lt_of_cell? _ _ c0)).trans c0
      have d1 := (hb.cell (p := ⟨b, o + k * 2 + 1, none⟩) (World.block_lt_of_cell? _ _ c1)).trans c1
      clear c0 c1
      go_wp2_with (at_builtin; refine wpList_append_own _ rfl _ _ 24 rfl w.heap.size 52 i0 _ 2 32 Tryz.underlying24 hi hz0 hz1 hz2 rfl (by decide) _ k (kvCells (l.take k)) rfl ((HOWN.out.alloc _).alloc _) ⟨wo.heap.size + 1, 0, none⟩ 1 1 [.string l[k].1, .string l[k].2] rfl rfl ?c1 ?c2 ?c3 ?c4 ?c5 ?_)
      case c1 => exact World.news_of_block (cs := #[.string l[k].1, .string l[k].2]) (t := 52) (fr := (0, 0)) (new_second wo _ _)
      case c2 => intro u hu; simp at hu; rcases hu with rfl | rfl <;> rfl
      case c3 => unfold maxLen; omega
      case c4 => omega
      case c5 => simp; omega
      intro v' w1 hown' hgrow _
      have e1 : kvCells (l.take (k + 1)) = kvCells (l.take k) ++ [.string l[k].1, .string l[k].2] := by
        rw [List.take_succ_eq_append_getElem hlt]; exact kvCells_snoc _ _
      rw [← e1] at hown'
      have bel : Below w.heap.size w w1 := ((hb.alloc hsz _).alloc (by simp; omega) _).grown hgrow (by simp; omega) (fun j hj => (HOWN.out.lt _ hj).1)
      have OWN := Lib.hid hown'
      have BEL := Lib.hid bel
      clear hown' hgrow e1 bel d0 d1
      go_wp2
      go_roundw
      case rel => exact ⟨k + 1, by omega, by go_num, OWN.out, BEL.out⟩
      case measure => simp [intOf]; omega
    · obtain rfl : k = l.length := by omega
      have hown := HOWN.out
      rw [List.take_length] at hown
      obtain ⟨A', c', rfl, hr⟩ := own_kvs hown
      clear hown
      go_wp2
      go_ret
      exact ⟨A', c', rfl, hr, hb⟩
end Go.Proofs.YtlbmjfjmbgbpeaaGreatDoor
