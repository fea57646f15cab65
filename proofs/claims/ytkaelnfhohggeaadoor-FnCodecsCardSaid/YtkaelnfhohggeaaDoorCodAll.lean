/- The thin package's reader of codecs. -/
import Derived.Test.YtkaelnfhohggeaaDoorCodFn
import Derived.Test.YtkaelnfhohggeaaDoorTry
namespace Go.Proofs.YtkaelnfhohggeaaDoor
open Go.RowKit Go.Maps

theorem Tryd.enterCodecs1 (cap : Array Value) (w : World) : Sem.run Tryd.prog (callFunc 16 cap) w = .ok (.enter 16 cap) w := by kernel_rfl

/-- What a list of codecs reads as. -/
def CodecsRead (w : World) (B : Nat) (l : List Cod) (v : Value) : Prop := ∃ fbs, w.ownsRow B 39 6 v l.length (crowsOf l fbs l.length) ∧ ∀ i (h : i < l.length), ∃ A k, fbs i = .slice A l[i].fb.length k ∧ KVs (B ≤ ·) w A l[i].fb
theorem CodecsRead.set {w : World} {B : Nat} {l : List Cod} {v u : Value} {a : Nat} (h : CodecsRead w B l v) (ha : a < B) : CodecsRead (w.setCell ⟨a, 0, none⟩ u) B l v := by
  obtain ⟨fbs, h1, h2⟩ := h
  refine ⟨fbs, h1.kept (grown_setC u) (.inr fun e => by have := (h1.lt _ e).1; omega), fun i hi => ?_⟩
  obtain ⟨A, k, q1, q2⟩ := h2 i hi
  exact ⟨A, k, q1, q2.keepOn ((KpOn.refl _ _).setCell (fun hh => by have h1 : B ≤ a := hh; omega) _)⟩
theorem CodecsRead.base {w : World} {B B' : Nat} {l : List Cod} {v : Value} (h : CodecsRead w B l v) (hB : B' ≤ B) : CodecsRead w B' l v := by
  obtain ⟨fbs, h1, h2⟩ := h
  refine ⟨fbs, ownsRow_base hB h1, fun i hi => ?_⟩
  obtain ⟨A, k, q1, q2⟩ := h2 i hi
  exact ⟨A, k, q1, q2.wide fun b hb _ => Nat.le_trans hB hb⟩
/-- What Codecs' function leaves. -/
def CodecsDone (W : World) (ob : Nat) (l : List Cod) (r : Bool) (w' : World) : Prop := r = true ∧ ∃ v, w'.cell? ⟨ob, 0, none⟩ = some v ∧ w'.frozen? ⟨ob, 0, none⟩ = false ∧ CodecsRead w' W.heap.size l v ∧ W.grownBy w' (some ob)

set_option maxHeartbeats 1000000 in
set_option maxRecDepth 100000 in
theorem codecs_any (fA aA : Option Addr) (fc ac : Nat) (l : List Cod) (w : World) (ev0 ev1 ev2 evs : Value) (hl : l.length ≤ 5) (hc : ∀ c ∈ l, CodIs c) (hd : (l.map Cod.pay).Nodup)
    (hf : Strs (fun _ => True) w fA (l.map fun c => dec c.pay)) (ha : KVs (fun _ => True) w aA ((allSteps l).map stepAttr))
    (hg0 : w.cell? ⟨0, 0, none⟩ = some ev0) (hg1 : w.cell? ⟨1, 0, none⟩ = some ev1) (hg2 : w.cell? ⟨2, 0, none⟩ = some ev2)
    (hgs : w.cell? ⟨3, 0, none⟩ = some evs) (hevs : evs = .nilIface ∨ ∃ te pe, evs = .iface te pe) :
    Calls Tryd.prog 10 #[.agg #[.string ⟨#[97, 117, 100, 105, 111]⟩, .slice fA l.length fc, .slice aA (allSteps l).length ac]] w fun e w' => ∃ v, e = .returned (.tuple #[v, .bool true]) ∧ CodecsRead w' w.heap.size l v ∧ Below w.heap.size w w' := by
  have hmf : ∀ (fn : Fn) (first cap : Array Value) (w : World), (Instr.makeFunc fn first cap).run Tryd.prog w = .ok (.func fn first cap) w := fun _ _ _ _ => rfl
  have hg : Calls Tryd.prog 16 #[.pointer (some ⟨w.heap.size, 0, none⟩), .pointer (some ⟨w.heap.size + 1, 0, none⟩)] (((w.alloc (.cells #[.string ⟨#[97, 117, 100, 105, 111]⟩, .slice fA l.length fc, .slice aA (allSteps l).length ac] 28)).alloc (.cells #[.slice none 0 0] 35)).alloc (.cells #[.bool false] 4)) fun e w' => ∃ b, e = .returned (.bool b) ∧
      CodecsDone (((w.alloc (.cells #[.string ⟨#[97, 117, 100, 105, 111]⟩, .slice fA l.length fc, .slice aA (allSteps l).length ac] 28)).alloc (.cells #[.slice none 0 0] 35)).alloc (.cells #[.bool false] 4)) (w.heap.size + 1) l b w' ∧ w'.cell? ⟨((w.alloc (.cells #[.string ⟨#[97, 117, 100, 105, 111]⟩, .slice fA l.length fc, .slice aA (allSteps l).length ac] 28)).alloc (.cells #[.slice none 0 0] 35)).heap.size, 0, none⟩ = some (.bool false) ∧ w'.frozen? ⟨((w.alloc (.cells #[.string ⟨#[97, 117, 100, 105, 111]⟩, .slice fA l.length fc, .slice aA (allSteps l).length ac] 28)).alloc (.cells #[.slice none 0 0] 35)).heap.size, 0, none⟩ = false := by
    have k3 : Kp w (((w.alloc (.cells #[.string ⟨#[97, 117, 100, 105, 111]⟩, .slice fA l.length fc, .slice aA (allSteps l).length ac] 28)).alloc (.cells #[.slice none 0 0] 35)).alloc (.cells #[.bool false] 4)) := ((Kp.alloc _ _).trans (Kp.alloc _ _)).trans (Kp.alloc _ _)
    refine (codecs1_any w.heap.size (w.heap.size + 1) fA aA fc ac l _ ev0 ev1 ev2 evs hl hc hd (hf.keep k3) (ha.keep k3) (by simp [go_sem]) (by simp [go_sem]) (by simp [go_sem]) (by simp [go_sem]) (by simp [go_sem]) (k3 _ _ hg0) (k3 _ _ hg1) (k3 _ _ hg2) (k3 _ _ hgs) hevs).mono ?_
    rintro e w' ⟨rfl, v, fbs, hcc, hz, hrow, hkv, hgr⟩
    have c2 : (((w.alloc (.cells #[.string ⟨#[97, 117, 100, 105, 111]⟩, .slice fA l.length fc, .slice aA (allSteps l).length ac] 28)).alloc (.cells #[.slice none 0 0] 35)).alloc (.cells #[.bool false] 4)).cell? ⟨((w.alloc (.cells #[.string ⟨#[97, 117, 100, 105, 111]⟩, .slice fA l.length fc, .slice aA (allSteps l).length ac] 28)).alloc (.cells #[.slice none 0 0] 35)).heap.size, 0, none⟩ = some (.bool false) := by simp [go_sem]
    refine ⟨true, rfl, ⟨rfl, v, hcc, hz, ⟨fbs, hrow, hkv⟩, hgr⟩, grown_cellC hgr (by simp) c2, ?_⟩
    rw [grown_frozenO hgr (by simp) c2]
    simp [go_sem]
  have HG := Lib.hid hg
  clear hg hf ha hg0 hg1 hg2 hgs hevs hc hd
  go_enter Tryd.func10, Tryd.ntmps10
  go_wp2_with (go_at_call 15; refine (try_any _ _ _ _ (Tryd.enterCodecs1 _) HG).mono ?_; rintro e w' ⟨b, w1, rfl, ⟨rfl, v, hc1, hz1, hrd, hgr⟩, rfl⟩; obtain ⟨vA, vc, rfl⟩ := (let ⟨_, h, _⟩ := hrd; own_shape h))
  have hb0 : Below w.heap.size w w1 := ((((Below.refl w.heap.size w).alloc (Nat.le_refl _) _).alloc (by simp) _).alloc (by simp; omega) _).grown hgr (by simp; omega) (fun j hj => by cases hj; omega)
  have r1 : CodecsRead w1 (w.heap.size + 3) l (.slice vA l.length vc) := by
    have h : (((w.alloc (.cells #[.string ⟨#[97, 117, 100, 105, 111]⟩, .slice fA l.length fc, .slice aA (allSteps l).length ac] 28)).alloc (.cells #[.slice none 0 0] 35)).alloc (.cells #[.bool false] 4)).heap.size = w.heap.size + 3 := by simp
    rw [← h]; exact hrd
  have f1 : ((w1.setCell ⟨w.heap.size + 1 + 1, 0, none⟩ (.bool true)).setCell ⟨w.heap.size + 1, 0, none⟩ (.slice vA l.length vc)).cell? ⟨w.heap.size + 1, 0, none⟩ = some (.slice vA l.length vc) := World.cell?_setCell_same _ _ _ ((World.cell?_setCell_other _ _ _ _ (fun e => by simp at e)).trans hc1)
  have bel : Below w.heap.size w ((w1.setCell ⟨w.heap.size + 1 + 1, 0, none⟩ (.bool true)).setCell ⟨w.heap.size + 1, 0, none⟩ (.slice vA l.length vc)) := (hb0.setCell (by simp; try omega) _).setCell (by simp; try omega) _
  exact bodyPost_ret (v := .tuple #[.slice vA l.length vc, .bool true]) (by simp [results, Tryd.results10, go_sem, f1]) rfl ⟨_, rfl, ((r1.set (by omega)).set (by omega)).base (by omega), bel⟩
end Go.Proofs.YtkaelnfhohggeaaDoor
