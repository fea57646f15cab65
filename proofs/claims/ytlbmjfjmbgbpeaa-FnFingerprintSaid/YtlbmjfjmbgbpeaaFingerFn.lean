/- The thin package's 'Fingerprint'. -/
import Derived.Test.YtlbmjfjmbgbpeaaFinger
namespace Go.Proofs.Ytlbmjfjmbgbpeaa
open Go.RowKit

set_option maxHeartbeats 1000000 in
theorem finger1_any {E : Nat → Prop} (db ib pb : Nat) (u1 u2 : Value) (v x y : ByteArray) (bA nA : Option Addr) (bc nc : Nat) (l : List KV) (ms : List MediaD) (w : World) (hne : ib ≠ pb)
    (hl : l.length * 32 ≤ 140737488355328) (hms : ms.length * 8 ≤ 140737488355328) (hm : ∀ m ∈ ms, m.formats.length * 16 ≤ 140737488355328 ∧ m.attrs.length * 32 ≤ 140737488355328)
    (hv : v.size ≤ 4294967296) (h0 : (v.toList == []) = false) (hp : piecesB 32 v = [x, y]) (hc : FpSays l ms v)
    (hb : KVs E w bA l) (hmm : Meds w nA ms)
    (e0 : w.cell? ⟨db, 0, none⟩ = some (.slice bA l.length bc)) (e1 : w.cell? ⟨db, 1, none⟩ = some (.slice nA ms.length nc))
    (ci : w.cell? ⟨ib, 0, none⟩ = some u1) (zi : w.frozen? ⟨ib, 0, none⟩ = false) (cp : w.cell? ⟨pb, 0, none⟩ = some u2) (zp : w.frozen? ⟨pb, 0, none⟩ = false) :
    Calls Try.prog 35 #[.pointer (some ⟨db, 0, none⟩), .pointer (some ⟨ib, 0, none⟩), .pointer (some ⟨pb, 0, none⟩)] w fun e w' => e = .returned (.bool true) ∧ ∃ w1, Below w.heap.size w w1 ∧ w' = (w1.setCell ⟨ib, 0, none⟩ (.string y)).setCell ⟨pb, 0, none⟩ (.string x) := by
  have HB := Lib.hid hb
  have HM := Lib.hid hmm
  have HS := Lib.hid hm
  have HC := Lib.hid hc
  have HP := Lib.hid hp
  have li : ib < w.heap.size := World.block_lt_of_cell? _ _ ci
  have lp : pb < w.heap.size := World.block_lt_of_cell? _ _ cp
  clear hb hmm hm hc hp
  go_enter Try.func35, Try.ntmps35
  go_wp2_with (first
    | (go_at_call 23; refine (description_any (D := E) bA nA bc nc l ms _ hl hms HS.out HB.out HM.out).mono ?_; rintro e w1 ⟨q, rfl, hsd, hb1⟩)
    | (go_at_call 36; refine (zzFinger_any q v x y l ms _ hl hms hv h0 HP.out HC.out hsd).mono ?_; rintro e w2 ⟨rfl, hb2⟩; have KK := Lib.hid ((kp_of_below hb1).trans (kp_of_below hb2)); have s1 := hb1.size; have s2 := hb2.size; have ci4 : w2.cell? ⟨ib, 0, none⟩ = some u1 := KK.out _ _ ci; have cp4 : w2.cell? ⟨pb, 0, none⟩ = some u2 := KK.out _ _ cp; have zi4 : w2.frozen? ⟨ib, 0, none⟩ = false := (hb2.frozen (by simp; omega)).trans ((hb1.frozen (by simp; omega)).trans zi); have zp4 : w2.frozen? ⟨pb, 0, none⟩ = false := (hb2.frozen (by simp; omega)).trans ((hb1.frozen (by simp; omega)).trans zp)))
  go_ret
  exact ⟨rfl, w2, below_step hb1 s1 hb2, rfl⟩

theorem Try.enterFinger1 (cap : Array Value) (w : World) : Sem.run Try.prog (callFunc 35 cap) w = .ok (.enter 35 cap) w := by kernel_rfl

/-- What Fingerprint's function leaves in the variables in blocks ib, pb. -/
def FingerDone (W : World) (ib pb : Nat) (x y : ByteArray) (r : Bool) (w' : World) : Prop := r = true ∧ ∃ w1, Below W.heap.size W w1 ∧ w' = (w1.setCell ⟨ib, 0, none⟩ (.string y)).setCell ⟨pb, 0, none⟩ (.string x)

set_option maxHeartbeats 1000000 in
theorem finger_any {E : Nat → Prop} (v x y : ByteArray) (bA nA : Option Addr) (bc nc : Nat) (l : List KV) (ms : List MediaD) (w : World)
    (hl : l.length * 32 ≤ 140737488355328) (hms : ms.length * 8 ≤ 140737488355328) (hm : ∀ m ∈ ms, m.formats.length * 16 ≤ 140737488355328 ∧ m.attrs.length * 32 ≤ 140737488355328)
    (hv : v.size ≤ 4294967296) (h0 : (v.toList == []) = false) (hp : piecesB 32 v = [x, y]) (hc : FpSays l ms v) (hb : KVs E w bA l) (hmm : Meds w nA ms) :
    Calls Try.prog 18 #[.agg #[.slice bA l.length bc, .slice nA ms.length nc]] w fun e w' => e = .returned (.tuple #[.string y, .string x, .bool true]) ∧ Below w.heap.size w w' := by
  have hmf : ∀ (fn : Fn) (first cap : Array Value) (w : World), (Instr.makeFunc fn first cap).run Try.prog w = .ok (.func fn first cap) w := fun _ _ _ _ => rfl
  have hg : Calls Try.prog 35 #[.pointer (some ⟨w.heap.size, 0, none⟩), .pointer (some ⟨w.heap.size + 1, 0, none⟩), .pointer (some ⟨w.heap.size + 1 + 1, 0, none⟩)] ((((w.alloc (.cells #[.slice bA l.length bc, .slice nA ms.length nc] 33)).alloc (.cells #[.string ⟨#[]⟩] 9)).alloc (.cells #[.string ⟨#[]⟩] 9)).alloc (.cells #[.bool false] 4)) fun e w' => ∃ b, e = .returned (.bool b) ∧
      FingerDone ((((w.alloc (.cells #[.slice bA l.length bc, .slice nA ms.length nc] 33)).alloc (.cells #[.string ⟨#[]⟩] 9)).alloc (.cells #[.string ⟨#[]⟩] 9)).alloc (.cells #[.bool false] 4)) (w.heap.size + 1) (w.heap.size + 1 + 1) x y b w' ∧ w'.cell? ⟨(((w.alloc (.cells #[.slice bA l.length bc, .slice nA ms.length nc] 33)).alloc (.cells #[.string ⟨#[]⟩] 9)).alloc (.cells #[.string ⟨#[]⟩] 9)).heap.size, 0, none⟩ = some (.bool false) ∧ w'.frozen? ⟨(((w.alloc (.cells #[.slice bA l.length bc, .slice nA ms.length nc] 33)).alloc (.cells #[.string ⟨#[]⟩] 9)).alloc (.cells #[.string ⟨#[]⟩] 9)).heap.size, 0, none⟩ = false := by
    have k3 : Kp w ((((w.alloc (.cells #[.slice bA l.length bc, .slice nA ms.length nc] 33)).alloc (.cells #[.string ⟨#[]⟩] 9)).alloc (.cells #[.string ⟨#[]⟩] 9)).alloc (.cells #[.bool false] 4)) := (((Kp.alloc _ _).trans (Kp.alloc _ _)).trans (Kp.alloc _ _)).trans (Kp.alloc _ _)
    refine (finger1_any w.heap.size (w.heap.size + 1) (w.heap.size + 1 + 1) (.string ⟨#[]⟩) (.string ⟨#[]⟩) v x y bA nA bc nc l ms _ (by omega) hl hms hm hv h0 hp hc (hb.keep k3) (hmm.keep k3)
      (by simp [go_sem]) (by simp [go_sem]) (by simp [go_sem]) (by simp [go_sem]) (by simp [go_sem]) (by simp [go_sem])).mono ?_
    rintro e w' ⟨rfl, w1, hb, rfl⟩
    refine ⟨true, rfl, ⟨rfl, w1, hb, rfl⟩, ?_, ?_⟩
    · rw [World.cell?_setCell_other _ _ _ _ (fun e => by simp at e), World.cell?_setCell_other _ _ _ _ (fun e => by simp at e), hb.cell (by simp)]
      simp [go_sem]
    · rw [World.frozen?_setCell, World.frozen?_setCell, hb.frozen (by simp)]
      simp [go_sem]
  have HG := Lib.hid hg
  clear hg hb hmm hm hc hp
  go_enter Try.func18, Try.ntmps18
  go_wp2_with (go_at_call 19; refine (try_any _ _ _ _ (Try.enterFinger1 _) HG).mono ?_; rintro e w' ⟨b, w1, rfl, ⟨rfl, w2, hb, rfl⟩, rfl⟩; have hc2 : w2.cell? ⟨w.heap.size + 1, 0, none⟩ = some (.string ⟨#[]⟩) := (hb.cell (by simp)).trans (by simp [go_sem]); have hz2 : w2.frozen? ⟨w.heap.size + 1, 0, none⟩ = false := (hb.frozen (by simp)).trans (by simp [go_sem]); have hc3 : w2.cell? ⟨w.heap.size + 1 + 1, 0, none⟩ = some (.string ⟨#[]⟩) := (hb.cell (by simp)).trans (by simp [go_sem]); have hz3 : w2.frozen? ⟨w.heap.size + 1 + 1, 0, none⟩ = false := (hb.frozen (by simp)).trans (by simp [go_sem]))
  have hb0 : Below w.heap.size w w2 := ((((((Below.refl w.heap.size w).alloc (Nat.le_refl _) _).alloc (by simp) _).alloc (by simp; omega) _).alloc (by simp; omega) _).trans (hb.mono (by simp; omega)))
  clear hb
  go_region
  go_wp2
  have g1 : (w2.setCell ⟨w.heap.size + 1, 0, none⟩ (.string y)).cell? ⟨w.heap.size + 1, 0, none⟩ = some (.string y) := World.cell?_setCell_same _ _ _ hc2
  have g2 : (w2.setCell ⟨w.heap.size + 1, 0, none⟩ (.string y)).cell? ⟨w.heap.size + 1 + 1, 0, none⟩ = some (.string ⟨#[]⟩) := (World.cell?_setCell_other _ _ _ _ (fun e => by simp at e)).trans hc3
  have f1 : (((((w2.setCell ⟨w.heap.size + 1, 0, none⟩ (.string y)).setCell ⟨w.heap.size + 1 + 1, 0, none⟩ (.string x)).setCell ⟨w.heap.size + 1 + 1 + 1, 0, none⟩ (.bool true)).setCell ⟨w.heap.size + 1, 0, none⟩ (.string y)).setCell ⟨w.heap.size + 1 + 1, 0, none⟩ (.string x)).drew.cell? ⟨w.heap.size + 1, 0, none⟩ = some (.string y) :=
    (cell_drew _ _).trans <| (World.cell?_setCell_other _ _ _ _ (fun e => by simp at e)).trans (World.cell?_setCell_same _ _ _ ((World.cell?_setCell_other _ _ _ _ (fun e => by simp at e)).trans ((World.cell?_setCell_other _ _ _ _ (fun e => by simp at e)).trans g1)))
  have f2 : (((((w2.setCell ⟨w.heap.size + 1, 0, none⟩ (.string y)).setCell ⟨w.heap.size + 1 + 1, 0, none⟩ (.string x)).setCell ⟨w.heap.size + 1 + 1 + 1, 0, none⟩ (.bool true)).setCell ⟨w.heap.size + 1, 0, none⟩ (.string y)).setCell ⟨w.heap.size + 1 + 1, 0, none⟩ (.string x)).drew.cell? ⟨w.heap.size + 1 + 1, 0, none⟩ = some (.string x) :=
    (cell_drew _ _).trans <| World.cell?_setCell_same _ _ _ ((World.cell?_setCell_other _ _ _ _ (fun e => by simp at e)).trans ((World.cell?_setCell_other _ _ _ _ (fun e => by simp at e)).trans (World.cell?_setCell_same _ _ _ g2)))
  have bel : Below w.heap.size w (((((w2.setCell ⟨w.heap.size + 1, 0, none⟩ (.string y)).setCell ⟨w.heap.size + 1 + 1, 0, none⟩ (.string x)).setCell ⟨w.heap.size + 1 + 1 + 1, 0, none⟩ (.bool true)).setCell ⟨w.heap.size + 1, 0, none⟩ (.string y)).setCell ⟨w.heap.size + 1 + 1, 0, none⟩ (.string x)).drew := (((((hb0.setCell (by simp; try omega) _).setCell (by simp; try omega) _).setCell (by simp; try omega) _).setCell (by simp; try omega) _).setCell (by simp; try omega) _).drew
  clear g1 g2 hc2 hc3 hz2 hz3
  generalize (((((w2.setCell ⟨w.heap.size + 1, 0, none⟩ (.string y)).setCell ⟨w.heap.size + 1 + 1, 0, none⟩ (.string x)).setCell ⟨w.heap.size + 1 + 1 + 1, 0, none⟩ (.bool true)).setCell ⟨w.heap.size + 1, 0, none⟩ (.string y)).setCell ⟨w.heap.size + 1 + 1, 0, none⟩ (.string x)).drew = Wf at f1 f2 bel ⊢
  exact bodyPost_ret (v := .tuple #[.string y, .string x, .bool true]) (by simp [results, Try.results18, go_sem, f1, f2]) rfl ⟨rfl, bel⟩
end Go.Proofs.Ytlbmjfjmbgbpeaa
