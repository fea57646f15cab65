/- A medium's direction is the one of its attribute: the walk of the law FnDirection. -/
import Derived.Test.YtlbmjfjmbgbpeaaDir
import Derived.Test.YtlbmjfjmbgbpeaaMid
import Derived.Deep.DeepMust
namespace Go.Proofs.Ytlbmjfjmbgbpeaa
open Go.RowKit

set_option maxHeartbeats 400000 in
theorem zzDir_any {D D' : Nat → Prop} (p q : Nat) (kind : ByteArray) (fs : List ByteArray) (l1 l2 : List KV) (ms : List MediaD) (w : World) (hl1 : l1.length * 32 ≤ 140737488355328) (hl2 : l2.length * 32 ≤ 140737488355328)
    (h1 : MD D w p kind fs l1) (h2 : SD D' w q l2 ms) :
    Calls Try.prog 21 #[.pointer (some ⟨p, 0, none⟩), .pointer (some ⟨q, 0, none⟩)] w fun e w' => e = .returned (.int .i64 (peerDir l1 l2)) ∧ Below w.heap.size w w' := by
  have H1 := Lib.hid h1
  have H2 := Lib.hid h2
  clear h1 h2
  go_enter Try.func21, Try.ntmps21
  go_wp2_with (go_at_call 38; refine (getPeer_any p q kind fs l1 l2 ms _ hl1 hl2 H1.out H2.out).mono ?_; rintro e w1 ⟨rfl, hb⟩)
  go_ret
  exact ⟨rfl, hb⟩

attribute [local go_sem ↓] Go.wp_at_zero Go.wp_at_succ

set_option maxHeartbeats 2000000 in
set_option maxRecDepth 100000 in
theorem dir1_any {D D' E : Nat → Prop} (mb db nb : Nat) (u : Int) (kind : ByteArray) (fA aA bA nA : Option Addr) (fc ac bc nc : Nat) (fs : List ByteArray) (l1 l2 : List KV) (ms : List MediaD) (w : World) (hne1 : nb ≠ mb) (hne2 : nb ≠ db)
    (hfs : fs.length * 16 ≤ 140737488355328) (hl1 : l1.length * 32 ≤ 140737488355328) (hl2 : l2.length * 32 ≤ 140737488355328) (hms : ms.length * 8 ≤ 140737488355328)
    (hm : ∀ m ∈ ms, m.formats.length * 16 ≤ 140737488355328 ∧ m.attrs.length * 32 ≤ 140737488355328)
    (hf : Strs D w fA fs) (ha : KVs D' w aA l1) (hb : KVs E w bA l2) (hmm : Meds w nA ms)
    (c0 : w.cell? ⟨mb, 0, none⟩ = some (.string kind)) (c1 : w.cell? ⟨mb, 1, none⟩ = some (.slice fA fs.length fc)) (c2 : w.cell? ⟨mb, 2, none⟩ = some (.slice aA l1.length ac))
    (e0 : w.cell? ⟨db, 0, none⟩ = some (.slice bA l2.length bc)) (e1 : w.cell? ⟨db, 1, none⟩ = some (.slice nA ms.length nc))
    (cs : w.cell? ⟨nb, 0, none⟩ = some (.int .i64 u)) (zs : w.frozen? ⟨nb, 0, none⟩ = false) :
    Calls Try.prog 20 #[.pointer (some ⟨mb, 0, none⟩), .pointer (some ⟨db, 0, none⟩), .pointer (some ⟨nb, 0, none⟩)] w fun e w' => e = .returned (.bool true) ∧ ∃ w1, Below w.heap.size w w1 ∧ w' = w1.setCell ⟨nb, 0, none⟩ (.int .i64 (peerDir l1 l2)) := by
  have HF := Lib.hid hf
  have HA := Lib.hid ha
  have HB := Lib.hid hb
  have HM := Lib.hid hmm
  have HS := Lib.hid hm
  have lm := World.block_lt_of_cell? _ _ c0
  have ld := World.block_lt_of_cell? _ _ e0
  have ln := World.block_lt_of_cell? _ _ cs
  clear hf ha hb hmm hm
  go_enter Try.func20, Try.ntmps20
  go_wp2_with fail
  go_region_held3 (fun w' => w'.cell? ⟨mb, 0, none⟩ = some (.string kind) ∧ w'.cell? ⟨mb, 1, none⟩ = some (.slice fA fs.length fc) ∧ w'.cell? ⟨mb, 2, none⟩ = some (.slice aA l1.length ac) ∧ w'.cell? ⟨db, 0, none⟩ = some (.slice bA l2.length bc) ∧ w'.cell? ⟨db, 1, none⟩ = some (.slice nA ms.length nc))
    (first
      | (go_split_ands; refine ⟨?_, ?_, ?_, ?_, ?_⟩ <;> (rw [hb3.cell (by simp; omega)]; assumption))
      | (go_split_ands; refine ⟨?_, ?_, ?_, ?_, ?_⟩ <;> (rw [hb2.cell (by simp; omega)]; assumption))
      | (go_split_ands; refine ⟨?_, ?_, ?_, ?_, ?_⟩ <;> (rw [hb1.cell (by simp; omega)]; assumption))
      | (go_split_ands; refine ⟨?_, ?_, ?_, ?_, ?_⟩ <;> (rw [World.cell?_setCell_other _ _ _ _ (fun e => by simp at e; omega)]; assumption))
      | go_keep)
    (first
      | (go_at_call 22; go_must (refine (medium_any (D := D) (D' := D') kind fA aA fc ac fs l1 _ hfs hl1 (by exact HF.out) (by exact HA.out)).mono ?_; rintro e w1 ⟨p, rfl, hmd, hb1⟩; have K1 := Lib.hid ((Kp.drew w).trans (kp_of_below hb1)); have hs1 : w.heap.size ≤ w1.heap.size := hb1.size))
      | (go_at_call 23; refine (description_any (D := E) bA nA bc nc l2 ms _ hl2 hms HS.out (by exact HB.out.keep K1.out) (by exact HM.out.keep K1.out)).mono ?_; rintro e w2 ⟨q, rfl, hsd, hb2⟩; have K2 := Lib.hid (kp_of_below hb2); have hs2 : w1.heap.size ≤ w2.heap.size := hb2.size)
      | (go_at_call 21; refine (zzDir_any p q kind fs l1 l2 ms _ hl1 hl2 (by exact hmd.keep K2.out) (by exact hsd)).mono ?_; rintro e w3 ⟨rfl, hb3⟩; have cs3 : w3.cell? ⟨nb, 0, none⟩ = some (.int .i64 u) := kp_of_below hb3 _ _ (K2.out _ _ (K1.out _ _ cs)); have zs3 : w3.frozen? ⟨nb, 0, none⟩ = false := (hb3.frozen (by simp; omega)).trans ((hb2.frozen (by simp; omega)).trans ((hb1.frozen (by simp; omega)).trans zs))))
  go_wp2
  go_ret
  exact ⟨rfl, w3, below_step (below_step (Below.refl w.heap.size w |>.drew |>.trans hb1) hs1 hb2) (by omega) hb3, rfl⟩

theorem Try.enterDir1 (cap : Array Value) (w : World) : Sem.run Try.prog (callFunc 20 cap) w = .ok (.enter 20 cap) w := by kernel_rfl

/-- What the function handed to 'try' leaves: a value in the variable in block b, all else new; it answers true. -/
def SetDone (W : World) (b : Nat) (v : Value) (r : Bool) (w' : World) : Prop := r = true ∧ ∃ w1, Below W.heap.size W w1 ∧ w' = w1.setCell ⟨b, 0, none⟩ v

set_option maxHeartbeats 1000000 in
theorem direction_any {D D' E : Nat → Prop} (kind : ByteArray) (fA aA bA nA : Option Addr) (fc ac bc nc : Nat) (fs : List ByteArray) (l1 l2 : List KV) (ms : List MediaD) (w : World)
    (hfs : fs.length * 16 ≤ 140737488355328) (hl1 : l1.length * 32 ≤ 140737488355328) (hl2 : l2.length * 32 ≤ 140737488355328) (hms : ms.length * 8 ≤ 140737488355328)
    (hm : ∀ m ∈ ms, m.formats.length * 16 ≤ 140737488355328 ∧ m.attrs.length * 32 ≤ 140737488355328)
    (hf : Strs D w fA fs) (ha : KVs D' w aA l1) (hb : KVs E w bA l2) (hmm : Meds w nA ms) :
    Calls Try.prog 9 #[.agg #[.string kind, .slice fA fs.length fc, .slice aA l1.length ac], .agg #[.slice bA l2.length bc, .slice nA ms.length nc]] w fun e w' => e = .returned (.int .i64 (peerDir l1 l2)) ∧ Below w.heap.size w w' := by
  have hmf : ∀ (fn : Fn) (first cap : Array Value) (w : World), (Instr.makeFunc fn first cap).run Try.prog w = .ok (.func fn first cap) w := fun _ _ _ _ => rfl
  have hg : Calls Try.prog 20 #[.pointer (some ⟨w.heap.size, 0, none⟩), .pointer (some ⟨w.heap.size + 1, 0, none⟩), .pointer (some ⟨w.heap.size + 1 + 1, 0, none⟩)] ((((w.alloc (.cells #[.string kind, .slice fA fs.length fc, .slice aA l1.length ac] 29)).alloc (.cells #[.slice bA l2.length bc, .slice nA ms.length nc] 33)).alloc (.cells #[.int .i64 0] 3)).alloc (.cells #[.bool false] 4)) fun e w' => ∃ b, e = .returned (.bool b) ∧
      SetDone ((((w.alloc (.cells #[.string kind, .slice fA fs.length fc, .slice aA l1.length ac] 29)).alloc (.cells #[.slice bA l2.length bc, .slice nA ms.length nc] 33)).alloc (.cells #[.int .i64 0] 3)).alloc (.cells #[.bool false] 4)) (w.heap.size + 1 + 1) (.int .i64 (peerDir l1 l2)) b w' ∧ w'.cell? ⟨(((w.alloc (.cells #[.string kind, .slice fA fs.length fc, .slice aA l1.length ac] 29)).alloc (.cells #[.slice bA l2.length bc, .slice nA ms.length nc] 33)).alloc (.cells #[.int .i64 0] 3)).heap.size, 0, none⟩ = some (.bool false) ∧ w'.frozen? ⟨(((w.alloc (.cells #[.string kind, .slice fA fs.length fc, .slice aA l1.length ac] 29)).alloc (.cells #[.slice bA l2.length bc, .slice nA ms.length nc] 33)).alloc (.cells #[.int .i64 0] 3)).heap.size, 0, none⟩ = false := by
    have k3 : Kp w ((((w.alloc (.cells #[.string kind, .slice fA fs.length fc, .slice aA l1.length ac] 29)).alloc (.cells #[.slice bA l2.length bc, .slice nA ms.length nc] 33)).alloc (.cells #[.int .i64 0] 3)).alloc (.cells #[.bool false] 4)) := (((Kp.alloc _ _).trans (Kp.alloc _ _)).trans (Kp.alloc _ _)).trans (Kp.alloc _ _)
    refine (dir1_any w.heap.size (w.heap.size + 1) (w.heap.size + 1 + 1) 0 kind fA aA bA nA fc ac bc nc fs l1 l2 ms _ (by omega) (by omega) hfs hl1 hl2 hms hm (hf.keep k3) (ha.keep k3) (hb.keep k3) (hmm.keep k3)
      (by simp [go_sem]) (by simp [go_sem]) (by simp [go_sem]) (by simp [go_sem]) (by simp [go_sem]) (by simp [go_sem]) (by simp [go_sem])).mono ?_
    rintro e w' ⟨rfl, w1, hb, rfl⟩
    refine ⟨true, rfl, ⟨rfl, w1, hb, rfl⟩, ?_, ?_⟩
    · rw [World.cell?_setCell_other _ _ _ _ (fun e => by simp at e), hb.cell (by simp)]
      simp [go_sem]
    · rw [World.frozen?_setCell, hb.frozen (by simp)]
      simp [go_sem]
  have HG := Lib.hid hg
  clear hg hf ha hb hmm hm
  go_enter Try.func9, Try.ntmps9
  go_wp2_with (go_at_call 19; refine (try_any _ _ _ _ (Try.enterDir1 _) HG).mono ?_; rintro e w' ⟨b, w1, rfl, ⟨rfl, w2, hb, rfl⟩, rfl⟩; have hc2 : w2.cell? ⟨w.heap.size + 1 + 1, 0, none⟩ = some (.int .i64 0) := (hb.cell (by simp)).trans (by simp [go_sem]); have hz2 : w2.frozen? ⟨w.heap.size + 1 + 1, 0, none⟩ = false := (hb.frozen (by simp)).trans (by simp [go_sem]))
  have hb0 : Below w.heap.size w w2 := ((((((Below.refl w.heap.size w).alloc (Nat.le_refl _) _).alloc (by simp) _).alloc (by simp; omega) _).alloc (by simp; omega) _).trans (hb.mono (by simp; omega)))
  refine bodyPost_ret (v := .int .i64 (peerDir l1 l2)) (by simp [results, Try.results9, go_sem, hc2]) rfl ⟨rfl, ?_⟩
  exact ((hb0.setCell (by simp; omega) _).setCell (by simp; omega) _).setCell (by simp; omega) _
end Go.Proofs.Ytlbmjfjmbgbpeaa
