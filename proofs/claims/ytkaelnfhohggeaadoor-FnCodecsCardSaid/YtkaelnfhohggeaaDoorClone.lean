/- slices.Clone at strings hands back the same elements, in new memory. -/
import Derived.Test.YtkaelnfhohggeaaDoorBase
namespace Go.Proofs.YtkaelnfhohggeaaDoor
open Go.RowKit

theorem Tryd.infoStr : (Tryd.prog.info? 9).map (fun i => (i.zero, i.size, i.bytes)) = some (some (.string ByteArray.empty), 1, 16) := by kernel_rfl

theorem map_str_get (l : List ByteArray) (j : Nat) (u : Value) (h : (l.map Value.string)[j]? = some u) : ∃ s, l[j]? = some s ∧ u = .string s := by
  simp only [List.getElem?_map, Option.map_eq_some_iff] at h
  obtain ⟨s, hs, rfl⟩ := h
  exact ⟨s, hs, rfl⟩

set_option maxHeartbeats 1000000 in
set_option maxRecDepth 100000 in
theorem clone_strs_some {D : Nat → Prop} (a : Addr) (c : Nat) (l : List ByteArray) (w : World) (hl : l.length * 16 ≤ 140737488355328) (h : Strs D w (some a) l) :
    Calls Tryd.prog 24 #[.slice (some a) l.length c] w fun e w' => ∃ A' c', e = .returned (.slice A' l.length c') ∧ Strs (w.heap.size ≤ ·) w' A' l ∧ Below w.heap.size w w' := by
  obtain ⟨i0, hi, hz0, hz1, hz2⟩ := info_parts Tryd.infoStr
  have qT : ∀ (w : World) (a : Option Addr) (n c n' c' : Nat), (binOp .eql 25 (.slice a n c) (.slice none n' c')).run Tryd.prog w = .ok (.bool a.isNone) w := fun w a n c n' c' => Lib.run_eql_slice_nil w _ _ a n c n' c' Tryd.underlying25
  have H := Lib.hid h
  clear h
  go_enter Tryd.func24, Tryd.ntmps24
  go_wp2_with (at_builtin; refine wpList_append_own _ rfl _ _ 25 rfl w.heap.size 9 i0 _ 1 16 Tryd.underlying25 hi hz0 hz1 hz2 rfl (by decide) _ _ _ rfl (World.ownsRow_made w #[] 0 (Nat.le_refl _) (Nat.zero_le _) rfl) a l.length c (l.map Value.string) rfl ?qc1 ?qc2 ?qc3 ?qc4 ?qc5 ?qc6 ?_)
  case qc1 => simp
  case qc2 =>
    intro j u hj
    obtain ⟨s, hs, rfl⟩ := map_str_get l j u hj
    obtain ⟨b, o, e, _, hc⟩ := H.out j s hs
    cases e
    rw [Addr.add_lit]
    exact (World.cell?_alloc_lt _ _ _ (World.block_lt_of_cell? _ _ hc)).trans hc
  case qc3 => intro u hu; obtain ⟨x, _, rfl⟩ := List.mem_map.1 hu; rfl
  case qc4 => unfold maxLen; omega
  case qc5 => omega
  case qc6 => simp
  intro v' w1 hown hgrow _

  obtain ⟨A', c', rfl, hr⟩ := own_strs hown
  clear hown
  have hb : Below w.heap.size w w1 := ((Below.refl _ w).alloc (Nat.le_refl _) _).grown hgrow (by simp) (by intro k hk; simp [Value.ownBlock] at hk; omega)
  clear hgrow
  go_wp2
  go_ret
  exact ⟨A', c', rfl, hr, hb⟩

set_option maxHeartbeats 1000000 in
theorem clone_strs_none (c n : Nat) (w : World) :
    Calls Tryd.prog 24 #[.slice none n c] w fun e w' => e = .returned (.slice none 0 0) ∧ w = w' := by
  have qT : ∀ (w : World) (a : Option Addr) (n c n' c' : Nat), (binOp .eql 25 (.slice a n c) (.slice none n' c')).run Tryd.prog w = .ok (.bool a.isNone) w := fun w a n c n' c' => Lib.run_eql_slice_nil w _ _ a n c n' c' Tryd.underlying25
  go_enter Tryd.func24, Tryd.ntmps24
  go_wp2
  go_ret
  exact ⟨rfl, rfl⟩

theorem clone_strs {D : Nat → Prop} (A : Option Addr) (c : Nat) (l : List ByteArray) (w : World) (hl : l.length * 16 ≤ 140737488355328) (h : Strs D w A l) :
    Calls Tryd.prog 24 #[.slice A l.length c] w fun e w' => ∃ A' c', e = .returned (.slice A' l.length c') ∧ Strs (w.heap.size ≤ ·) w' A' l ∧ Below w.heap.size w w' := by
  cases A with
  | some a => exact clone_strs_some a c l w hl h
  | none =>
    have : l = [] := by
      cases l with
      | nil => rfl
      | cons s r => obtain ⟨b, o, e, _⟩ := h 0 s rfl; cases e
    subst this
    exact (clone_strs_none c 0 w).mono fun e w' ⟨he, hw⟩ => ⟨none, 0, he, Strs.nil _ _ _, hw ▸ Below.refl _ _⟩
end Go.Proofs.YtkaelnfhohggeaaDoor
