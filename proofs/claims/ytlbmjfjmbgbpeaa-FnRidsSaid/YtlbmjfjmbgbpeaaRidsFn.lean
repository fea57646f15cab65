/- The thin package's reader of restriction identifiers. -/
import Derived.Test.YtlbmjfjmbgbpeaaZZRids
import Derived.Test.YtlbmjfjmbgbpeaaMid
namespace Go.Proofs.Ytlbmjfjmbgbpeaa
open Go.RowKit

theorem Bools.nil (D : Nat → Prop) (w : World) (A : Option Addr) : Bools D w A [] := fun k s h => by simp at h
theorem map_bool_get (l : List Bool) (j : Nat) (u : Value) (h : (l.map Value.bool)[j]? = some u) : ∃ s, l[j]? = some s ∧ u = .bool s := by
  simp only [List.getElem?_map, Option.map_eq_some_iff] at h
  obtain ⟨s, hs, rfl⟩ := h
  exact ⟨s, hs, rfl⟩

set_option maxHeartbeats 1000000 in
set_option maxRecDepth 100000 in
theorem clone_bools_some {D : Nat → Prop} (a : Addr) (c : Nat) (l : List Bool) (w : World) (hl : l.length * 1 ≤ 140737488355328) (h : Bools D w (some a) l) :
    Calls Try.prog 28 #[.slice (some a) l.length c] w fun e w' => ∃ A' c', e = .returned (.slice A' l.length c') ∧ Bools (w.heap.size ≤ ·) w' A' l ∧ Below w.heap.size w w' := by
  obtain ⟨i0, hi, hz0, hz1, hz2⟩ := info_parts Try.infoBool
  have qT : ∀ (w : World) (a : Option Addr) (n c n' c' : Nat), (binOp .eql 37 (.slice a n c) (.slice none n' c')).run Try.prog w = .ok (.bool a.isNone) w := fun w a n c n' c' => Lib.run_eql_slice_nil w _ _ a n c n' c' Try.underlying37
  have H := Lib.hid h
  clear h
  go_enter Try.func28, Try.ntmps28
  go_wp2_with (at_builtin; refine wpList_append_own _ rfl _ _ 37 rfl w.heap.size 4 i0 _ 1 1 Try.underlying37 hi hz0 hz1 hz2 rfl (by decide) _ _ _ rfl (World.ownsRow_made w #[] 0 (Nat.le_refl _) (Nat.zero_le _) rfl) a l.length c (l.map Value.bool) rfl ?qc1 ?qc2 ?qc3 ?qc4 ?qc5 ?qc6 ?_)
  case qc1 => simp
  case qc2 =>
    intro j u hj
    obtain ⟨s, hs, rfl⟩ := map_bool_get l j u hj
    obtain ⟨b, o, e, _, hc⟩ := H.out j s hs
    cases e
    rw [Addr.add_lit]
    exact (World.cell?_alloc_lt _ _ _ (World.block_lt_of_cell? _ _ hc)).trans hc
  case qc3 => intro u hu; obtain ⟨x, _, rfl⟩ := List.mem_map.1 hu; rfl
  case qc4 => unfold maxLen; omega
  case qc5 => omega
  case qc6 => simp
  intro v' w1 hown hgrow _

  obtain ⟨A', c', rfl, hr⟩ := own_bools hown
  clear hown
  have hb : Below w.heap.size w w1 := ((Below.refl _ w).alloc (Nat.le_refl _) _).grown hgrow (by simp) (by intro k hk; simp [Value.ownBlock] at hk; omega)
  clear hgrow
  go_wp2
  go_ret
  exact ⟨A', c', rfl, hr, hb⟩

set_option maxHeartbeats 1000000 in
theorem clone_bools_none (c n : Nat) (w : World) :
    Calls Try.prog 28 #[.slice none n c] w fun e w' => e = .returned (.slice none 0 0) ∧ w = w' := by
  have qT : ∀ (w : World) (a : Option Addr) (n c n' c' : Nat), (binOp .eql 37 (.slice a n c) (.slice none n' c')).run Try.prog w = .ok (.bool a.isNone) w := fun w a n c n' c' => Lib.run_eql_slice_nil w _ _ a n c n' c' Try.underlying37
  go_enter Try.func28, Try.ntmps28
  go_wp2
  go_ret
  exact ⟨rfl, rfl⟩

theorem clone_bools {D : Nat → Prop} (A : Option Addr) (c : Nat) (l : List Bool) (w : World) (hl : l.length * 1 ≤ 140737488355328) (h : Bools D w A l) :
    Calls Try.prog 28 #[.slice A l.length c] w fun e w' => ∃ A' c', e = .returned (.slice A' l.length c') ∧ Bools (w.heap.size ≤ ·) w' A' l ∧ Below w.heap.size w w' := by
  cases A with
  | some a => exact clone_bools_some a c l w hl h
  | none =>
    have : l = [] := by
      cases l with
      | nil => rfl
      | cons s r => obtain ⟨b, o, e, _⟩ := h 0 s rfl; cases e
    subst this
    exact (clone_bools_none c 0 w).mono fun e w' ⟨he, hw⟩ => ⟨none, 0, he, Bools.nil _ _ _, hw ▸ Below.refl _ _⟩

set_option maxHeartbeats 1000000 in
theorem rids1_any {D D' : Nat → Prop} (mb ib pb : Nat) (u1 u2 : Value) (kind : ByteArray) (fA aA : Option Addr) (fc ac : Nat) (fs : List ByteArray) (l : List KV) (w : World) (hne : ib ≠ pb)
    (hfs : fs.length * 16 ≤ 140737488355328) (hl : l.length * 32 ≤ 140737488355328) (hv : ∀ p ∈ l, p.2.size ≤ 4294967296) (hs : ∀ p ∈ l, (p.1.toList == [115, 105, 109, 117, 108, 99, 97, 115, 116]) = false) (hf : Strs D w fA fs) (ha : KVs D' w aA l)
    (c0 : w.cell? ⟨mb, 0, none⟩ = some (.string kind)) (c1 : w.cell? ⟨mb, 1, none⟩ = some (.slice fA fs.length fc)) (c2 : w.cell? ⟨mb, 2, none⟩ = some (.slice aA l.length ac))
    (ci : w.cell? ⟨ib, 0, none⟩ = some u1) (zi : w.frozen? ⟨ib, 0, none⟩ = false) (cp : w.cell? ⟨pb, 0, none⟩ = some u2) (zp : w.frozen? ⟨pb, 0, none⟩ = false) :
    Calls Try.prog 25 #[.pointer (some ⟨mb, 0, none⟩), .pointer (some ⟨ib, 0, none⟩), .pointer (some ⟨pb, 0, none⟩)] w fun e w' => e = .returned (.bool true) ∧ ∃ w1 A1 k1 A2 k2, Below w.heap.size w w1 ∧ Strs (w.heap.size ≤ ·) w1 A1 (ridsOf l) ∧
      Bools (w.heap.size ≤ ·) w1 A2 ((ridsOf l).map fun _ => false) ∧ w' = (w1.setCell ⟨ib, 0, none⟩ (.slice A1 (ridsOf l).length k1)).setCell ⟨pb, 0, none⟩ (.slice A2 (ridsOf l).length k2) := by
  have HF := Lib.hid hf
  have HA := Lib.hid ha
  have HV := Lib.hid hv
  have HS := Lib.hid hs
  have hrl := ridsOf_length l
  have li : ib < w.heap.size := World.block_lt_of_cell? _ _ ci
  have lp : pb < w.heap.size := World.block_lt_of_cell? _ _ cp
  have eb : ((ridsOf l).map fun _ => false).length = (ridsOf l).length := by simp
  have EB := Lib.hid eb
  clear hf ha hv hs eb
  go_enter Try.func25, Try.ntmps25
  go_wp2_with (first
    | (go_at_call 22; refine (medium_any kind fA aA fc ac fs l _ hfs hl HF.out HA.out).mono ?_; rintro e w1 ⟨p, rfl, hm, hb1⟩)
    | (go_at_call 26; refine (zzRids_any p kind fs l _ hl HV.out HS.out hm).mono ?_; rintro e w2 ⟨A1, k1, A2, k2, rfl, hr1, hr2, hb2⟩)
    | (go_at_call 27; refine (clone_strs A1 k1 (ridsOf l) _ (by omega) hr1).mono ?_; rintro e w3 ⟨A3, k3, rfl, hr3, hb3⟩)
    | (go_at_call 28; have hbl := clone_bools A2 k2 ((ridsOf l).map fun _ => false) w3 (by rw [EB.out]; omega) (hr2.keep (kp_of_below hb3)); rw [EB.out] at hbl; refine hbl.mono ?_; rintro e w4 ⟨A4, k4, rfl, hr4, hb4⟩; have KK := Lib.hid (((kp_of_below hb1).trans (kp_of_below hb2)).trans ((kp_of_below hb3).trans (kp_of_below hb4))); have s1 := hb1.size; have s2 := hb2.size; have s3 := hb3.size; have s4 := hb4.size; have ci4 : w4.cell? ⟨ib, 0, none⟩ = some u1 := KK.out _ _ ci; have cp4 : w4.cell? ⟨pb, 0, none⟩ = some u2 := KK.out _ _ cp; have zi4 : w4.frozen? ⟨ib, 0, none⟩ = false := (hb4.frozen (by simp; omega)).trans ((hb3.frozen (by simp; omega)).trans ((hb2.frozen (by simp; omega)).trans ((hb1.frozen (by simp; omega)).trans zi))); have zp4 : w4.frozen? ⟨pb, 0, none⟩ = false := (hb4.frozen (by simp; omega)).trans ((hb3.frozen (by simp; omega)).trans ((hb2.frozen (by simp; omega)).trans ((hb1.frozen (by simp; omega)).trans zp)))))
  go_ret
  refine ⟨rfl, w4, A3, k3, A4, k4, below_step (below_step (below_step hb1 s1 hb2) (by omega) hb3) (by omega) hb4, ?_, ?_, rfl⟩
  · exact (hr3.keep (kp_of_below hb4)).wide fun b hb _ => by have hb : _ ≤ b := hb; show _ ≤ b; omega
  · exact hr4.wide fun b hb _ => by have hb : _ ≤ b := hb; show _ ≤ b; omega

theorem Try.enterRids1 (cap : Array Value) (w : World) : Sem.run Try.prog (callFunc 25 cap) w = .ok (.enter 25 cap) w := by kernel_rfl

/-- What Rids' function leaves in the variables in blocks ib, pb. -/
def RidsDone (W : World) (ib pb : Nat) (ids : List ByteArray) (r : Bool) (w' : World) : Prop := r = true ∧ ∃ w1 A1 k1 A2 k2, Below W.heap.size W w1 ∧ Strs (W.heap.size ≤ ·) w1 A1 ids ∧
  Bools (W.heap.size ≤ ·) w1 A2 (ids.map fun _ => false) ∧ w' = (w1.setCell ⟨ib, 0, none⟩ (.slice A1 ids.length k1)).setCell ⟨pb, 0, none⟩ (.slice A2 ids.length k2)

set_option maxHeartbeats 1000000 in
theorem rids_any {D D' : Nat → Prop} (kind : ByteArray) (fA aA : Option Addr) (fc ac : Nat) (fs : List ByteArray) (l : List KV) (w : World)
    (hfs : fs.length * 16 ≤ 140737488355328) (hl : l.length * 32 ≤ 140737488355328) (hv : ∀ p ∈ l, p.2.size ≤ 4294967296) (hs : ∀ p ∈ l, (p.1.toList == [115, 105, 109, 117, 108, 99, 97, 115, 116]) = false) (hf : Strs D w fA fs) (ha : KVs D' w aA l) :
    Calls Try.prog 12 #[.agg #[.string kind, .slice fA fs.length fc, .slice aA l.length ac]] w fun e w' => ∃ A1 k1 A2 k2, e = .returned (.tuple #[.slice A1 (ridsOf l).length k1, .slice A2 (ridsOf l).length k2]) ∧ Strs (w.heap.size ≤ ·) w' A1 (ridsOf l) ∧ Bools (w.heap.size ≤ ·) w' A2 ((ridsOf l).map fun _ => false) ∧ Below w.heap.size w w' := by
  have hmf : ∀ (fn : Fn) (first cap : Array Value) (w : World), (Instr.makeFunc fn first cap).run Try.prog w = .ok (.func fn first cap) w := fun _ _ _ _ => rfl
  have hg : Calls Try.prog 25 #[.pointer (some ⟨w.heap.size, 0, none⟩), .pointer (some ⟨w.heap.size + 1, 0, none⟩), .pointer (some ⟨w.heap.size + 1 + 1, 0, none⟩)] ((((w.alloc (.cells #[.string kind, .slice fA fs.length fc, .slice aA l.length ac] 29)).alloc (.cells #[.slice none 0 0] 23)).alloc (.cells #[.slice none 0 0] 37)).alloc (.cells #[.bool false] 4)) fun e w' => ∃ b, e = .returned (.bool b) ∧
      RidsDone ((((w.alloc (.cells #[.string kind, .slice fA fs.length fc, .slice aA l.length ac] 29)).alloc (.cells #[.slice none 0 0] 23)).alloc (.cells #[.slice none 0 0] 37)).alloc (.cells #[.bool false] 4)) (w.heap.size + 1) (w.heap.size + 1 + 1) (ridsOf l) b w' ∧ w'.cell? ⟨(((w.alloc (.cells #[.string kind, .slice fA fs.length fc, .slice aA l.length ac] 29)).alloc (.cells #[.slice none 0 0] 23)).alloc (.cells #[.slice none 0 0] 37)).heap.size, 0, none⟩ = some (.bool false) ∧ w'.frozen? ⟨(((w.alloc (.cells #[.string kind, .slice fA fs.length fc, .slice aA l.length ac] 29)).alloc (.cells #[.slice none 0 0] 23)).alloc (.cells #[.slice none 0 0] 37)).heap.size, 0, none⟩ = false := by
    have k3 : Kp w ((((w.alloc (.cells #[.string kind, .slice fA fs.length fc, .slice aA l.length ac] 29)).alloc (.cells #[.slice none 0 0] 23)).alloc (.cells #[.slice none 0 0] 37)).alloc (.cells #[.bool false] 4)) := (((Kp.alloc _ _).trans (Kp.alloc _ _)).trans (Kp.alloc _ _)).trans (Kp.alloc _ _)
    refine (rids1_any w.heap.size (w.heap.size + 1) (w.heap.size + 1 + 1) (.slice none 0 0) (.slice none 0 0) kind fA aA fc ac fs l _ (by omega) hfs hl hv hs (hf.keep k3) (ha.keep k3)
      (by simp [go_sem]) (by simp [go_sem]) (by simp [go_sem]) (by simp [go_sem]) (by simp [go_sem]) (by simp [go_sem]) (by simp [go_sem])).mono ?_
    rintro e w' ⟨rfl, w1, A1, k1, A2, k2, hb, hr1, hr2, rfl⟩
    refine ⟨true, rfl, ⟨rfl, w1, A1, k1, A2, k2, hb, hr1, hr2, rfl⟩, ?_, ?_⟩
    · rw [World.cell?_setCell_other _ _ _ _ (fun e => by simp at e), World.cell?_setCell_other _ _ _ _ (fun e => by simp at e), hb.cell (by simp)]
      simp [go_sem]
    · rw [World.frozen?_setCell, World.frozen?_setCell, hb.frozen (by simp)]
      simp [go_sem]
  have HG := Lib.hid hg
  clear hg hf ha hv hs
  go_enter Try.func12, Try.ntmps12
  go_wp2_with (go_at_call 19; refine (try_any _ _ _ _ (Try.enterRids1 _) HG).mono ?_; rintro e w' ⟨b, w1, rfl, ⟨rfl, w2, A1, k1, A2, k2, hb, hr1, hr2, rfl⟩, rfl⟩; have hc2 : w2.cell? ⟨w.heap.size + 1, 0, none⟩ = some (.slice none 0 0) := (hb.cell (by simp)).trans (by simp [go_sem]); have hz2 : w2.frozen? ⟨w.heap.size + 1, 0, none⟩ = false := (hb.frozen (by simp)).trans (by simp [go_sem]); have hc3 : w2.cell? ⟨w.heap.size + 1 + 1, 0, none⟩ = some (.slice none 0 0) := (hb.cell (by simp)).trans (by simp [go_sem]); have hz3 : w2.frozen? ⟨w.heap.size + 1 + 1, 0, none⟩ = false := (hb.frozen (by simp)).trans (by simp [go_sem]))
  have hb0 : Below w.heap.size w w2 := ((((((Below.refl w.heap.size w).alloc (Nat.le_refl _) _).alloc (by simp) _).alloc (by simp; omega) _).alloc (by simp; omega) _).trans (hb.mono (by simp; omega)))
  have r1 := hr1.wide (D' := fun b => w.heap.size + 4 ≤ b) fun b hb _ => by have hb : _ ≤ b := hb; simp at hb; omega
  have r2 := hr2.wide (D' := fun b => w.heap.size + 4 ≤ b) fun b hb _ => by have hb : _ ≤ b := hb; simp at hb; omega
  have R1 := Lib.hid r1
  have R2 := Lib.hid r2
  clear hr1 hr2 r1 r2 hb
  go_region
  go_wp2
  have kk : KpOn (fun b => w.heap.size + 4 ≤ b) w2 (((((w2.setCell ⟨w.heap.size + 1, 0, none⟩ (.slice A1 (ridsOf l).length k1)).setCell ⟨w.heap.size + 1 + 1, 0, none⟩ (.slice A2 (ridsOf l).length k2)).setCell ⟨w.heap.size + 1 + 1 + 1, 0, none⟩ (.bool true)).setCell ⟨w.heap.size + 1, 0, none⟩ (.slice A1 (ridsOf l).length k1)).setCell ⟨w.heap.size + 1 + 1, 0, none⟩ (.slice A2 (ridsOf l).length k2)).drew :=
    ((((((KpOn.refl _ w2).setCell (by simp; try omega) _).setCell (by simp; try omega) _).setCell (by simp; try omega) _).setCell (by simp; try omega) _).setCell (by simp; try omega) _).drew
  have g1 : (w2.setCell ⟨w.heap.size + 1, 0, none⟩ (.slice A1 (ridsOf l).length k1)).cell? ⟨w.heap.size + 1, 0, none⟩ = some (.slice A1 (ridsOf l).length k1) := World.cell?_setCell_same _ _ _ hc2
  have g2 : (w2.setCell ⟨w.heap.size + 1, 0, none⟩ (.slice A1 (ridsOf l).length k1)).cell? ⟨w.heap.size + 1 + 1, 0, none⟩ = some (.slice none 0 0) := (World.cell?_setCell_other _ _ _ _ (fun e => by simp at e)).trans hc3
  have f1 : (((((w2.setCell ⟨w.heap.size + 1, 0, none⟩ (.slice A1 (ridsOf l).length k1)).setCell ⟨w.heap.size + 1 + 1, 0, none⟩ (.slice A2 (ridsOf l).length k2)).setCell ⟨w.heap.size + 1 + 1 + 1, 0, none⟩ (.bool true)).setCell ⟨w.heap.size + 1, 0, none⟩ (.slice A1 (ridsOf l).length k1)).setCell ⟨w.heap.size + 1 + 1, 0, none⟩ (.slice A2 (ridsOf l).length k2)).drew.cell? ⟨w.heap.size + 1, 0, none⟩ = some (.slice A1 (ridsOf l).length k1) :=
    (cell_drew _ _).trans <| (World.cell?_setCell_other _ _ _ _ (fun e => by simp at e)).trans (World.cell?_setCell_same _ _ _ ((World.cell?_setCell_other _ _ _ _ (fun e => by simp at e)).trans ((World.cell?_setCell_other _ _ _ _ (fun e => by simp at e)).trans g1)))
  have f2 : (((((w2.setCell ⟨w.heap.size + 1, 0, none⟩ (.slice A1 (ridsOf l).length k1)).setCell ⟨w.heap.size + 1 + 1, 0, none⟩ (.slice A2 (ridsOf l).length k2)).setCell ⟨w.heap.size + 1 + 1 + 1, 0, none⟩ (.bool true)).setCell ⟨w.heap.size + 1, 0, none⟩ (.slice A1 (ridsOf l).length k1)).setCell ⟨w.heap.size + 1 + 1, 0, none⟩ (.slice A2 (ridsOf l).length k2)).drew.cell? ⟨w.heap.size + 1 + 1, 0, none⟩ = some (.slice A2 (ridsOf l).length k2) :=
    (cell_drew _ _).trans <| World.cell?_setCell_same _ _ _ ((World.cell?_setCell_other _ _ _ _ (fun e => by simp at e)).trans ((World.cell?_setCell_other _ _ _ _ (fun e => by simp at e)).trans (World.cell?_setCell_same _ _ _ g2)))
  have bel : Below w.heap.size w (((((w2.setCell ⟨w.heap.size + 1, 0, none⟩ (.slice A1 (ridsOf l).length k1)).setCell ⟨w.heap.size + 1 + 1, 0, none⟩ (.slice A2 (ridsOf l).length k2)).setCell ⟨w.heap.size + 1 + 1 + 1, 0, none⟩ (.bool true)).setCell ⟨w.heap.size + 1, 0, none⟩ (.slice A1 (ridsOf l).length k1)).setCell ⟨w.heap.size + 1 + 1, 0, none⟩ (.slice A2 (ridsOf l).length k2)).drew := (((((hb0.setCell (by simp; try omega) _).setCell (by simp; try omega) _).setCell (by simp; try omega) _).setCell (by simp; try omega) _).setCell (by simp; try omega) _).drew
  clear g1 g2 hc2 hc3 hz2 hz3
  generalize (((((w2.setCell ⟨w.heap.size + 1, 0, none⟩ (.slice A1 (ridsOf l).length k1)).setCell ⟨w.heap.size + 1 + 1, 0, none⟩ (.slice A2 (ridsOf l).length k2)).setCell ⟨w.heap.size + 1 + 1 + 1, 0, none⟩ (.bool true)).setCell ⟨w.heap.size + 1, 0, none⟩ (.slice A1 (ridsOf l).length k1)).setCell ⟨w.heap.size + 1 + 1, 0, none⟩ (.slice A2 (ridsOf l).length k2)).drew = Wf at kk f1 f2 bel ⊢
  refine bodyPost_ret (v := .tuple #[.slice A1 (ridsOf l).length k1, .slice A2 (ridsOf l).length k2]) (by simp [results, Try.results12, go_sem, f1, f2]) rfl ⟨A1, k1, A2, k2, rfl, ?_, ?_, bel⟩
  · exact (R1.out.keepOn kk).wide fun b hb _ => by have hb : _ ≤ b := hb; show _ ≤ b; omega
  · exact (R2.out.keepOn kk).wide fun b hb _ => by have hb : _ ≤ b := hb; show _ ≤ b; omega
end Go.Proofs.Ytlbmjfjmbgbpeaa
