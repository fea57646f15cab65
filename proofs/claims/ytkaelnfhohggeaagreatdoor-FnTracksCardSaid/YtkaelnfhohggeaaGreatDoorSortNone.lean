/- The sorting of an empty list of numbers, and the keys of an empty map of numbers. -/
import Derived.Test.YtkaelnfhohggeaaGreatDoorBase
import Derived.Maps.RangeWalk
import Derived.Maps.OwnSet
namespace Go.Proofs.YtkaelnfhohggeaaGreatDoor
open Go.RowKit Go.WideMaps Go.Maps

set_option maxHeartbeats 400000 in
set_option maxRecDepth 100000 in
theorem len64_zero (w : World) : Calls Tryz.prog 62 #[.int .u64 0] w fun e w' => e = .returned (.int .i64 0) ∧ w = w' := by
  go_enter Tryz.func62, Tryz.ntmps62
  go_wp2
  go_ret
  exact ⟨by kernel_rfl, rfl⟩

set_option maxHeartbeats 400000 in
theorem len_zero (w : World) : Calls Tryz.prog 48 #[.int .u64 0] w fun e w' => e = .returned (.int .i64 0) ∧ w = w' := by
  go_enter Tryz.func48, Tryz.ntmps48
  go_wp2_with (go_at_call 62; refine (len64_zero _).mono ?_; rintro e w1 ⟨rfl, rfl⟩)
  go_ret
  exact ⟨rfl, rfl⟩

set_option maxHeartbeats 400000 in
theorem insert_none (w : World) : Calls Tryz.prog 52 #[.slice none 0 0, .int .i64 0, .int .i64 0] w fun e w' => e = .returned (.tuple #[]) ∧ w = w' := by
  go_enter Tryz.func52, Tryz.ntmps52
  go_wp2
  go_loop [6] (fun i => i = .int .i64 1) (fun _ => 0)
  case atStart => rfl
  case round =>
    obtain rfl := hrel
    go_wp2
    (try simp only [Exit.inBlock, Exit.then]); first | refine bodyPost_end (results_none rfl _ _ _) rfl ?_ | refine bodyPost_ret (results_none rfl _ _ _) rfl ?_
    exact ⟨rfl, rfl⟩

set_option maxHeartbeats 400000 in
set_option maxRecDepth 100000 in
theorem pdq_none (w : World) : Calls Tryz.prog 47 #[.slice none 0 0, .int .i64 0, .int .i64 0, .int .i64 0] w fun e w' => e = .returned (.tuple #[]) ∧ w = w' := by
  go_enter Tryz.func47, Tryz.ntmps47
  go_wp2
  go_loop [1, 2] (fun i j => i = .int .i64 0 ∧ j = .int .i64 0) (fun _ _ => 0)
  case atStart => exact ⟨rfl, rfl⟩
  case round =>
    obtain ⟨rfl, rfl⟩ := hrel
    go_wp2_with (go_at_call 52; refine (insert_none _).mono ?_; rintro e w1 ⟨rfl, rfl⟩)
    (try simp only [Exit.inBlock, Exit.then]); first | refine bodyPost_end (results_none rfl _ _ _) rfl ?_ | refine bodyPost_ret (results_none rfl _ _ _) rfl ?_
    exact ⟨rfl, rfl⟩

set_option maxHeartbeats 400000 in
theorem sort_none (w : World) : Calls Tryz.prog 38 #[.slice none 0 0] w fun e w' => e = .returned (.tuple #[]) ∧ w = w' := by
  go_enter Tryz.func38, Tryz.ntmps38
  go_wp2_with (first
    | (go_at_call 48; refine (len_zero _).mono ?_; rintro e w1 ⟨rfl, rfl⟩)
    | (go_at_call 47; refine (pdq_none _).mono ?_; rintro e w1 ⟨rfl, rfl⟩))
  (try simp only [Exit.inBlock, Exit.then]); first | refine bodyPost_end (results_none rfl _ _ _) rfl ?_ | refine bodyPost_ret (results_none rfl _ _ _) rfl ?_
  exact ⟨rfl, rfl⟩

theorem Tryz.keyedU : Keyed Tryz.prog 65 := int_keyed Tryz.underlying65

set_option maxHeartbeats 1000000 in
set_option maxRecDepth 100000 in
theorem sortedKeys_none (b : Nat) (w : World) (hown : w.ownsMap Tryz.prog 65 (plainElem (H := Unit) Tryz.prog 65) b 0 (.map [])) :
    Calls Tryz.prog 29 #[.map (some b)] w fun e w' => e = .returned (.slice none 0 0) ∧ Below w.heap.size w w' := by
  go_enter Tryz.func29, Tryz.ntmps29
  go_wp2_with (at_range; refine wpList_range_own _ rfl _ 88 rfl 65 65 Tryz.keyedU Tryz.underlying88 _ b 0 (.map []) rfl hown ?_; intro w1 hrg hg hs)
  go_frame
  have bel : Below w.heap.size w w1 := (Below.refl _ _).grown hg (Nat.le_refl _) (fun j hj => by cases hj)
  clear hown hg
  go_loopw [3] (fun v wr => v = .slice none 0 0 ∧ (∃ cnt, wr.ranges Tryz.prog 65 (plainElem (H := Unit) Tryz.prog 65) b w.heap.size 0 (.map []) (has (.map [] : DataW Unit)) cnt) ∧ Below w.heap.size w wr) (fun _ _ => 0)
  case atStart => exact ⟨rfl, ⟨_, hrg⟩, bel⟩
  case round =>
    obtain ⟨rfl, ⟨cnt, hrg1⟩, hb1⟩ := hrel
    go_wp2_with (at_next; refine wpList_next_ranges_ii _ rfl _ rfl 65 65 .u64 .u64 Tryz.keyedU Tryz.underlying65 Tryz.underlying65 b w.heap.size 0 _ _ _ rfl hrg1 ?_ ?_)
    · intro _ _
      clear hrg1 hrg
      go_wp2_with (go_at_call 38; refine (sort_none _).mono ?_; rintro e w2 ⟨rfl, rfl⟩)
      go_ret
      exact ⟨rfl, hb1⟩
    · intro x c w2 cnt2 _ _ _ hat _ _ _ _ _
      have := hat (.map [])
      cases this

/-- Block m is an empty map. -/
def NoKeys (w : World) (m : Nat) : Prop := w.heap[m]? = some (.map #[] 0)
theorem NoKeys.below {w w' : World} {m : Nat} (h : NoKeys w m) (hb : Below w.heap.size w w') : NoKeys w' m := grown_block (grown_of_below hb none) _ _ h (by simp)
theorem NoKeys.alloc {w : World} {m : Nat} (h : NoKeys w m) (o : Obj) : NoKeys (w.alloc o) m := h.below ((Below.refl _ _).alloc (Nat.le_refl _) o)
theorem NoKeys.set {w : World} {m : Nat} (h : NoKeys w m) {a : Addr} (v : Value) (hne : m ≠ a.block) : NoKeys (w.setCell a v) m := by
  unfold NoKeys at h ⊢
  rw [← h]
  unfold World.setCell
  simp [Array.getElem?_modify, Ne.symm hne]
theorem NoKeys.grown {w w' : World} {m : Nat} {row : Option Nat} (h : NoKeys w m) (hg : w.grownBy w' row) (hne : some m ≠ row) : NoKeys w' m := grown_block hg _ _ h hne
theorem NoKeys.owns {H : Type} {P : Program} {k : TypeId} {R : Value → Option (DataW H × List MemPlace)} {w : World} {m : Nat} (h : NoKeys w m) : w.ownsMap P k R m 0 (.map []) :=
  ⟨#[], 0, h, ⟨by simp, Go.MapKept.stamped_empty 0, by simp⟩, Nat.le_refl _, rfl⟩
theorem NoKeys.lt {w : World} {m : Nat} (h : NoKeys w m) : m < w.heap.size := by
  unfold NoKeys at h
  by_cases hl : m < w.heap.size
  · exact hl
  · rw [Array.getElem?_eq_none (by omega)] at h; cases h
theorem Tryz.zeroU (w : World) : (zeroValue 65).run Tryz.prog w = .ok (.int .u64 0) w := by kernel_rfl
/-- 'v, ok := m[k]' of an empty map. -/
theorem wpList_look_none (w : World) {ops : Array Oper} {rest : List Oper} {o : Oper} {a : Act} {Q : Exit → Act → World → Prop} (hg : o.guard = none) (m x : Operand) (hop : o.op = Op.lookup 88 m x true)
    (b : Nat) (hm : a.eval m = .map (some b)) (h : NoKeys w b) (c : Int) (hx : a.eval x = .int .u64 c) (hw : (Lit.int .u64 c).wf = true)
    (hK : wpList Tryz.prog ops Q rest (a.put o.dst (.tuple #[.int .u64 0, .bool false])) w) : wpList Tryz.prog ops Q (o :: rest) a w :=
  wpList_lookup_own_ok_int (H := Unit) w hg m x 88 hop 65 65 .u64 Tryz.keyedU Tryz.underlying88 Tryz.underlying65 (Tryz.zeroU w) b 0 (.map []) hm h.owns _ _ hx (keyOf_int_mk Tryz.underlying65 hw) (fun d hd _ => by
    have e : d = 0 := by
      have : (DataW.lit (.int .u64 0) : DataW Unit) = .lit (.int .u64 d) := hd
      injection this with this
      injection this with _ this
      exact this.symm
    subst e
    exact hK)
theorem keys_none (b : Nat) (w : World) (h : NoKeys w b) : Calls Tryz.prog 29 #[.map (some b)] w fun e w' => e = .returned (.slice none 0 0) ∧ Below w.heap.size w w' := sortedKeys_none b w h.owns
end Go.Proofs.YtkaelnfhohggeaaGreatDoor
