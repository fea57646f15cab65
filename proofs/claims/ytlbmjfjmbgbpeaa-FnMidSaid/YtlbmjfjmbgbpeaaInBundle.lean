/- Is a name in the bundle: the walk of the thin package's 'InBundle'. -/
import Derived.Test.YtlbmjfjmbgbpeaaText
import Derived.Test.YtlbmjfjmbgbpeaaDirFn
namespace Go.Proofs.Ytlbmjfjmbgbpeaa
open Go.RowKit

/-- The place of the first text equal to s; none: -1. -/
def placeOf (s : ByteArray) : List ByteArray → Int
  | [] => -1
  | x :: r => if s.toList == x.toList then 0 else if placeOf s r = -1 then -1 else placeOf s r + 1
/-- Is this text in the list? -/
def hasB (s : ByteArray) (l : List ByteArray) : Bool := l.any fun x => s.toList == x.toList
theorem hasB_drop {s : ByteArray} {l : List ByteArray} {k : Nat} (hk : k < l.length) : hasB s (l.drop k) = ((s.toList == l[k].toList) || hasB s (l.drop (k + 1))) := by
  rw [List.drop_eq_getElem_cons hk, hasB, List.any_cons]; rfl

set_option maxHeartbeats 1000000 in
theorem sindex_any {D : Nat → Prop} (A : Option Addr) (c : Nat) (l : List ByteArray) (s : ByteArray) (w : World) (hl : l.length ≤ 140737488355328) (h : Strs D w A l) :
    Calls Try.prog 55 #[.slice A l.length c, .string s] w fun e w' => ∃ n : Int, e = .returned (.int .i64 n) ∧ (decide (0 ≤ n)) = hasB s l ∧ w = w' := by
  have H := Lib.hid h
  clear h
  go_enter Try.func55, Try.ntmps55
  go_wp2
  go_loop [8] (fun i => ∃ k : Nat, i = .int .i64 k ∧ k ≤ l.length ∧ hasB s (l.drop k) = hasB s l) (fun i => l.length - (intOf i).toNat)
  case atStart => exact ⟨0, rfl, Nat.zero_le _, rfl⟩
  case round =>
    obtain ⟨k, rfl, hk, hat⟩ := hrel
    have HAT := Lib.hid hat
    clear hat
    by_cases hlt : k < l.length
    · obtain ⟨b, o, rfl, _, c0⟩ := H.out k l[k] (by simp [hlt])
      cases ht : (s.toList == l[k].toList) with
      | true =>
        have e1 : hasB s l = true := by rw [← HAT.out, hasB_drop hlt, ht]; rfl
        have E1 := Lib.hid e1
        clear e1
        go_wp2
        go_ret
        exact ⟨k, rfl, by rw [E1.out]; simp, rfl⟩
      | false =>
        have e1 : hasB s (l.drop (k + 1)) = hasB s l := by rw [← HAT.out, hasB_drop hlt, ht]; rfl
        have E1 := Lib.hid e1
        clear e1
        go_wp2
        go_round
        case rel => exact ⟨k + 1, by go_num, by omega, E1.out⟩
        case measure => simp [intOf]; omega
    · obtain rfl : k = l.length := by omega
      have e1 : hasB s l = false := by rw [← HAT.out, List.drop_length]; rfl
      have E1 := Lib.hid e1
      clear e1
      go_wp2
      go_ret
      exact ⟨-1, rfl, by rw [E1.out]; rfl, rfl⟩

set_option maxHeartbeats 400000 in
theorem scontains_any {D : Nat → Prop} (A : Option Addr) (c : Nat) (l : List ByteArray) (s : ByteArray) (w : World) (hl : l.length ≤ 140737488355328) (h : Strs D w A l) :
    Calls Try.prog 52 #[.slice A l.length c, .string s] w fun e w' => e = .returned (.bool (hasB s l)) ∧ w = w' := by
  have H := Lib.hid h
  clear h
  go_enter Try.func52, Try.ntmps52
  go_wp2_with (go_at_call 55; refine (sindex_any A c l s _ hl H.out).mono ?_; rintro e w1 ⟨n, rfl, hn, rfl⟩)
  go_ret
  exact ⟨rfl, rfl⟩

set_option maxHeartbeats 400000 in
theorem match2_any {D : Nat → Prop} (lb : Nat) (A : Option Addr) (c : Nat) (l : List ByteArray) (s : ByteArray) (w : World) (hl : l.length ≤ 140737488355328) (h : Strs D w A l) (hc : w.cell? ⟨lb, 0, none⟩ = some (.slice A l.length c)) :
    Calls Try.prog 51 #[.string s, .pointer (some ⟨lb, 0, none⟩)] w fun e w' => e = .returned (.bool (hasB s l)) ∧ w = w' := by
  have H := Lib.hid h
  clear h
  go_enter Try.func51, Try.ntmps51
  go_wp2_with (go_at_call 52; refine (scontains_any A c l s _ hl H.out).mono ?_; rintro e w1 ⟨rfl, rfl⟩)
  go_ret
  exact ⟨rfl, rfl⟩

set_option maxHeartbeats 1000000 in
theorem fromRemote_any (vb : Nat) (v : ByteArray) (w : World) (hv : v.size ≤ 4294967296) (hc : w.cell? ⟨vb, 0, none⟩ = some (.string v)) :
    Calls Try.prog 43 #[.pointer (some ⟨vb, 0, none⟩)] w fun e w' => ∃ lb A c, e = .returned (.func (.func 51) #[] #[.pointer (some ⟨lb, 0, none⟩)]) ∧ Strs (fun _ => True) w' A (piecesB 32 v) ∧ w'.cell? ⟨lb, 0, none⟩ = some (.slice A (piecesB 32 v).length c) ∧ Below w.heap.size w w' := by
  have hmf : ∀ (fn : Fn) (first cap : Array Value) (w : World), (Instr.makeFunc fn first cap).run Try.prog w = .ok (.func fn first cap) w := fun _ _ _ _ => rfl
  go_enter Try.func43, Try.ntmps43
  go_wp2_with (go_at_call 46; refine (split_any v 32 _ hv).mono ?_; rintro e w1 ⟨A, k, rfl, hr, hb⟩)
  go_ret
  exact ⟨w1.heap.size, A, k, rfl, (hr.wide fun _ _ _ => trivial).keep (Kp.alloc _ _), by simp [go_sem], hb.alloc hb.size _⟩

theorem Try.enterMatch2 (cap : Array Value) (w : World) : Sem.run Try.prog (callFunc 51 cap) w = .ok (.enter 51 cap) w := by kernel_rfl

theorem pieces_length (c : UInt8) : ∀ l : List UInt8, (pieces c l).length ≤ l.length + 1
  | [] => by simp [pieces]
  | b :: l => by
    have := pieces_length c l
    simp only [pieces]
    split
    · simp; omega
    · split
      · simp
      · rename_i h; rw [h] at this; simp at this ⊢; omega
theorem piecesB_length (c : UInt8) (s : ByteArray) : (piecesB c s).length ≤ s.size + 1 := by
  have := pieces_length c s.data.toList
  have := Lib.size_eq s
  simp only [piecesB, List.length_map]; omega

set_option maxHeartbeats 1000000 in
theorem zzInBundle_any (vb : Nat) (v s : ByteArray) (w : World) (hv : v.size ≤ 4294967296) (hc : w.cell? ⟨vb, 0, none⟩ = some (.string v)) :
    Calls Try.prog 34 #[.pointer (some ⟨vb, 0, none⟩), .string s] w fun e w' => e = .returned (.bool (hasB s (piecesB 32 v))) ∧ Below w.heap.size w w' := by
  have hcf := Try.enterMatch2
  have hpl := piecesB_length 32 v
  go_enter Try.func34, Try.ntmps34
  go_wp2_with (go_at_call 43; refine (fromRemote_any vb v _ hv hc).mono ?_; rintro e w1 ⟨lb, A, k, rfl, hr, hl, hb⟩)
  refine (match2_any lb A k (piecesB 32 v) s _ (by omega) hr hl).mono ?_
  rintro e w2 ⟨rfl, rfl⟩
  go_wp2
  go_ret
  exact ⟨rfl, hb⟩

set_option maxHeartbeats 1000000 in
theorem in1_any (vb nb : Nat) (v s : ByteArray) (w : World) (hv : v.size ≤ 4294967296) (hc : w.cell? ⟨vb, 0, none⟩ = some (.string v)) (hn : w.cell? ⟨nb, 0, none⟩ = some (.string s)) :
    Calls Try.prog 33 #[.pointer (some ⟨vb, 0, none⟩), .pointer (some ⟨nb, 0, none⟩)] w fun e w' => e = .returned (.bool (hasB s (piecesB 32 v))) ∧ Below w.heap.size w w' := by
  go_enter Try.func33, Try.ntmps33
  go_wp2_with (go_at_call 34; refine (zzInBundle_any vb v s _ hv hc).mono ?_; rintro e w1 ⟨rfl, hb⟩)
  go_ret
  exact ⟨rfl, hb⟩

theorem Try.enterIn1 (cap : Array Value) (w : World) : Sem.run Try.prog (callFunc 33 cap) w = .ok (.enter 33 cap) w := by kernel_rfl

/-- The function answers this, and all that it leaves is new. -/
def AnsDone (W : World) (r0 : Bool) (r : Bool) (w' : World) : Prop := r = r0 ∧ Below W.heap.size W w'

set_option maxHeartbeats 1000000 in
theorem inBundle_any (v s : ByteArray) (w : World) (hv : v.size ≤ 4294967296) :
    Calls Try.prog 16 #[.string v, .string s] w fun e w' => e = .returned (.bool (hasB s (piecesB 32 v))) ∧ Below w.heap.size w w' := by
  have hmf : ∀ (fn : Fn) (first cap : Array Value) (w : World), (Instr.makeFunc fn first cap).run Try.prog w = .ok (.func fn first cap) w := fun _ _ _ _ => rfl
  have hg : Calls Try.prog 33 #[.pointer (some ⟨w.heap.size, 0, none⟩), .pointer (some ⟨w.heap.size + 1, 0, none⟩)] (((w.alloc (.cells #[.string v] 9)).alloc (.cells #[.string s] 9)).alloc (.cells #[.bool false] 4)) fun e w' => ∃ b, e = .returned (.bool b) ∧
      AnsDone (((w.alloc (.cells #[.string v] 9)).alloc (.cells #[.string s] 9)).alloc (.cells #[.bool false] 4)) (hasB s (piecesB 32 v)) b w' ∧ w'.cell? ⟨((w.alloc (.cells #[.string v] 9)).alloc (.cells #[.string s] 9)).heap.size, 0, none⟩ = some (.bool false) ∧ w'.frozen? ⟨((w.alloc (.cells #[.string v] 9)).alloc (.cells #[.string s] 9)).heap.size, 0, none⟩ = false := by
    refine (in1_any w.heap.size (w.heap.size + 1) v s _ hv (by simp [go_sem]) (by simp [go_sem])).mono ?_
    rintro e w' ⟨rfl, hb⟩
    refine ⟨_, rfl, ⟨rfl, hb⟩, ?_, ?_⟩
    · rw [hb.cell (by simp)]
      simp [go_sem]
    · rw [hb.frozen (by simp)]
      simp [go_sem]
  have HG := Lib.hid hg
  clear hg
  go_enter Try.func16, Try.ntmps16
  go_wp2_with (go_at_call 19; refine (try_any _ _ _ _ (Try.enterIn1 _) HG).mono ?_; rintro e w' ⟨b, w1, rfl, ⟨rfl, hb⟩, rfl⟩)
  have hb0 : Below w.heap.size w w1 := (((((Below.refl w.heap.size w).alloc (Nat.le_refl _) _).alloc (by simp) _).alloc (by simp; omega) _).trans (hb.mono (by simp; omega)))
  go_ret
  exact ⟨rfl, hb0.setCell (by simp; omega) _⟩
end Go.Proofs.Ytlbmjfjmbgbpeaa
