/- FnFlags: the law returns true: a description tells its flags, a medium its greatest message. -/
import Derived.Test.YtlbmjfjmbgbpeaaDoorFlags
namespace Go.Proofs.YtlbmjfjmbgbpeaaDoor
open Go.RowKit

set_option maxHeartbeats 400000 in
theorem zzMaxSize_any {D : Nat → Prop} (p : Nat) (kind : ByteArray) (fs : List ByteArray) (n : Nat) (w : World) (hn : n ≤ 4294967295) (hsp : Spaces w) (h : MD D w p kind fs [(⟨#[109, 97, 120, 45, 109, 101, 115, 115, 97, 103, 101, 45, 115, 105, 122, 101]⟩, dec n)]) :
    Calls Tryd.prog 42 #[.pointer (some ⟨p, 0, none⟩)] w fun e w' => e = .returned (.int .u32 n) ∧ Below w.heap.size w w' := by
  have H := Lib.hid (maxSize_any p kind fs n w hn hsp h)
  clear h
  go_enter Tryd.func42, Tryd.ntmps42
  go_wp2_with (go_at_call 66; refine H.out.mono ?_; rintro e w1 ⟨rfl, hb⟩)
  go_ret
  exact ⟨rfl, hb⟩

set_option maxHeartbeats 1000000 in
theorem max1_any (mb sb ab : Nat) (u : Int) (kind : ByteArray) (n : Nat) (w : World) (hn : n ≤ 4294967295) (hsp : Spaces w)
    (a0 : w.cell? ⟨ab, 0, none⟩ = some (.string ⟨#[109, 97, 120, 45, 109, 101, 115, 115, 97, 103, 101, 45, 115, 105, 122, 101]⟩)) (a1 : w.cell? ⟨ab, 1, none⟩ = some (.string (dec n)))
    (c0 : w.cell? ⟨mb, 0, none⟩ = some (.string kind)) (c1 : w.cell? ⟨mb, 1, none⟩ = some (.slice none 0 0)) (c2 : w.cell? ⟨mb, 2, none⟩ = some (.slice (some ⟨ab, 0, none⟩) 1 1))
    (cs : w.cell? ⟨sb, 0, none⟩ = some (.int .u32 u)) (zs : w.frozen? ⟨sb, 0, none⟩ = false) :
    Calls Tryd.prog 41 #[.pointer (some ⟨mb, 0, none⟩), .pointer (some ⟨sb, 0, none⟩)] w fun e w' => e = .returned (.bool true) ∧ ∃ w1, Below w.heap.size w w1 ∧ w' = w1.setCell ⟨sb, 0, none⟩ (.int .u32 n) := by
  have hmd : ∀ w, w.cell? ⟨ab, 0, none⟩ = some (.string ⟨#[109, 97, 120, 45, 109, 101, 115, 115, 97, 103, 101, 45, 115, 105, 122, 101]⟩) → w.cell? ⟨ab, 1, none⟩ = some (.string (dec n)) → Calls Tryd.prog 43 #[.agg #[.string kind, .slice none 0 0, .slice (some ⟨ab, 0, none⟩) 1 1]] w fun e w' => ∃ p, e = .returned (.pointer (some ⟨p, 0, none⟩)) ∧ MD (w.heap.size ≤ ·) w' p kind [] [(⟨#[109, 97, 120, 45, 109, 101, 115, 115, 97, 103, 101, 45, 115, 105, 122, 101]⟩, dec n)] ∧ Below w.heap.size w w' := fun w h0 h1 =>
    medium_any (D := fun _ => True) (D' := fun _ => True) kind none (some ⟨ab, 0, none⟩) 0 1 [] [(⟨#[109, 97, 120, 45, 109, 101, 115, 115, 97, 103, 101, 45, 115, 105, 122, 101]⟩, dec n)] w (by simp) (by simp) (Strs.nil _ _ _) (kvs_one h0 (by simpa using h1))
  have HMD := Lib.hid hmd
  have HSP := Lib.hid hsp
  have hsb := World.block_lt_of_cell? _ _ cs
  clear hmd hsp
  go_enter Tryd.func41, Tryd.ntmps41
  go_wp2_with (first
    | (go_at_call 43; refine (HMD.out _ a0 a1).mono ?_; rintro e w1 ⟨p, rfl, hm, hb1⟩)
    | (go_at_call 42; refine (zzMaxSize_any p kind [] n _ hn (HSP.out.below hb1) hm).mono ?_; rintro e w2 ⟨rfl, hb2⟩; have cs2 : w2.cell? ⟨sb, 0, none⟩ = some (.int .u32 u) := kp_of_below hb2 _ _ (kp_of_below hb1 _ _ cs); have zs2 : w2.frozen? ⟨sb, 0, none⟩ = false := (hb2.frozen (World.block_lt_of_cell? _ _ (kp_of_below hb1 _ _ cs))).trans ((hb1.frozen (World.block_lt_of_cell? _ _ cs)).trans zs)))
  go_ret
  exact ⟨rfl, w2, below_step hb1 hb1.size hb2, rfl⟩

theorem Tryd.enterMax1 (cap : Array Value) (w : World) : Sem.run Tryd.prog (callFunc 41 cap) w = .ok (.enter 41 cap) w := by kernel_rfl

/-- What MaxMessage's function leaves: the number in the variable in block b, all else new. -/
def MaxDone (W : World) (b : Nat) (n : Nat) (r : Bool) (w' : World) : Prop := r = true ∧ ∃ w1, Below W.heap.size W w1 ∧ w' = w1.setCell ⟨b, 0, none⟩ (.int .u32 n)

set_option maxHeartbeats 1000000 in
theorem maxMessage_any (ab : Nat) (kind : ByteArray) (n : Nat) (w : World) (hn : n ≤ 4294967295) (hsp : Spaces w) (a0 : w.cell? ⟨ab, 0, none⟩ = some (.string ⟨#[109, 97, 120, 45, 109, 101, 115, 115, 97, 103, 101, 45, 115, 105, 122, 101]⟩)) (a1 : w.cell? ⟨ab, 1, none⟩ = some (.string (dec n))) :
    Calls Tryd.prog 14 #[.agg #[.string kind, .slice none 0 0, .slice (some ⟨ab, 0, none⟩) 1 1]] w fun e w' => e = .returned (.int .u32 n) ∧ Below w.heap.size w w' := by
  have hmf : ∀ (fn : Fn) (first cap : Array Value) (w : World), (Instr.makeFunc fn first cap).run Tryd.prog w = .ok (.func fn first cap) w := fun _ _ _ _ => rfl
  have hg : Calls Tryd.prog 41 #[.pointer (some ⟨w.heap.size, 0, none⟩), .pointer (some ⟨w.heap.size + 1, 0, none⟩)] (((w.alloc (.cells #[.string kind, .slice none 0 0, .slice (some ⟨ab, 0, none⟩) 1 1] 36)).alloc (.cells #[.int .u32 0] 26)).alloc (.cells #[.bool false] 4)) fun e w' => ∃ b, e = .returned (.bool b) ∧
      MaxDone (((w.alloc (.cells #[.string kind, .slice none 0 0, .slice (some ⟨ab, 0, none⟩) 1 1] 36)).alloc (.cells #[.int .u32 0] 26)).alloc (.cells #[.bool false] 4)) (w.heap.size + 1) n b w' ∧ w'.cell? ⟨((w.alloc (.cells #[.string kind, .slice none 0 0, .slice (some ⟨ab, 0, none⟩) 1 1] 36)).alloc (.cells #[.int .u32 0] 26)).heap.size, 0, none⟩ = some (.bool false) ∧ w'.frozen? ⟨((w.alloc (.cells #[.string kind, .slice none 0 0, .slice (some ⟨ab, 0, none⟩) 1 1] 36)).alloc (.cells #[.int .u32 0] 26)).heap.size, 0, none⟩ = false := by
    have k3 : Kp w (((w.alloc (.cells #[.string kind, .slice none 0 0, .slice (some ⟨ab, 0, none⟩) 1 1] 36)).alloc (.cells #[.int .u32 0] 26)).alloc (.cells #[.bool false] 4)) := ((Kp.alloc _ _).trans (Kp.alloc _ _)).trans (Kp.alloc _ _)
    have b3 : Below w.heap.size w (((w.alloc (.cells #[.string kind, .slice none 0 0, .slice (some ⟨ab, 0, none⟩) 1 1] 36)).alloc (.cells #[.int .u32 0] 26)).alloc (.cells #[.bool false] 4)) := (((Below.refl _ _).alloc (Nat.le_refl _) _).alloc (by simp) _).alloc (by simp; omega) _
    refine (max1_any w.heap.size (w.heap.size + 1) ab 0 kind n _ hn (hsp.below b3) (k3 _ _ a0) (k3 _ _ a1) (by simp [go_sem]) (by simp [go_sem]) (by simp [go_sem]) (by simp [go_sem]) (by simp [go_sem])).mono ?_
    rintro e w' ⟨rfl, w1, hb, rfl⟩
    refine ⟨true, rfl, ⟨rfl, w1, hb, rfl⟩, ?_, ?_⟩
    · rw [World.cell?_setCell_other _ _ _ _ (fun e => by simp at e), hb.cell (by simp)]
      simp [go_sem]
    · rw [World.frozen?_setCell, hb.frozen (by simp)]
      simp [go_sem]
  have HG := Lib.hid hg
  clear hg hsp
  go_enter Tryd.func14, Tryd.ntmps14
  go_wp2_with (go_at_call 35; refine (try_any _ _ _ _ (Tryd.enterMax1 _) HG).mono ?_; rintro e w' ⟨b, w1, rfl, ⟨rfl, w2, hb, rfl⟩, rfl⟩; have hc2 : w2.cell? ⟨w.heap.size + 1, 0, none⟩ = some (.int .u32 0) := (hb.cell (by simp)).trans (by simp [go_sem]); have hz2 : w2.frozen? ⟨w.heap.size + 1, 0, none⟩ = false := (hb.frozen (by simp)).trans (by simp [go_sem]))
  have hb0 : Below w.heap.size w w2 := (((((Below.refl w.heap.size w).alloc (Nat.le_refl _) _).alloc (by simp) _).alloc (by simp; omega) _).trans (hb.mono (by simp; omega)))
  refine bodyPost_ret (v := .int .u32 n) (by simp [results, Tryd.results14, go_sem, hc2]) rfl ⟨rfl, ?_⟩
  exact ((hb0.setCell (by simp) _).setCell (by simp; omega) _).setCell (by simp) _

/-! The law. -/
theorem Tryd.infoKV : (Tryd.prog.info? 32).map (fun i => (i.zero, i.size, i.bytes)) = some (some (.agg #[.string ByteArray.empty, .string ByteArray.empty]), 2, 32) := by kernel_rfl
theorem tight_ice : Tight ⟨#[105, 99, 101, 45, 108, 105, 116, 101]⟩ := ⟨by decide, fun j b h => by
  have : b ∈ ([105, 99, 101, 45, 108, 105, 116, 101] : List UInt8) := List.mem_of_getElem? h
  simp at this
  rcases this with rfl | rfl | rfl | rfl | rfl | rfl | rfl | rfl <;> decide, by show 8 ≤ _; omega⟩
theorem tight_mix : Tight ⟨#[101, 120, 116, 109, 97, 112, 45, 97, 108, 108, 111, 119, 45, 109, 105, 120, 101, 100]⟩ := ⟨by decide, fun j b h => by
  have : b ∈ ([101, 120, 116, 109, 97, 112, 45, 97, 108, 108, 111, 119, 45, 109, 105, 120, 101, 100] : List UInt8) := List.mem_of_getElem? h
  simp at this
  rcases this with rfl | rfl | rfl | rfl | rfl | rfl | rfl | rfl | rfl | rfl | rfl | rfl | rfl | rfl | rfl | rfl | rfl | rfl <;> decide, by show 18 ≤ _; omega⟩

/-- The description in block d: its attributes are these, and all is new. -/
structure AttrAt (w0 : World) (d : Nat) (v : Value) (l : List KV) (wr : World) : Prop where
  c0 : wr.cell? ⟨d, 0, none⟩ = some v
  c1 : wr.cell? ⟨d, 1, none⟩ = some (.slice none 0 0)
  z0 : wr.frozen? ⟨d, 0, none⟩ = false
  own : wr.ownsRow (d + 1) 32 2 v l.length (kvCells l)
  bel : Below w0.heap.size w0 wr
  le : w0.heap.size ≤ d
theorem attr_step {w0 wr w1 : World} {d : Nat} {v v' : Value} {l : List KV} {p : KV} {o : Obj} (h : AttrAt w0 d v l wr) (hown' : w1.ownsRow (d + 1) 32 2 v' (l.length + 1) (kvCells l ++ [.string p.1, .string p.2])) (hgrow : (wr.alloc o).grownBy w1 v.ownBlock) :
    ∃ A c, v' = .slice A (l ++ [p]).length c ∧ w1.cell? ⟨d, 0, none⟩ = some v ∧ w1.frozen? ⟨d, 0, none⟩ = false ∧ AttrAt w0 d (.slice A (l ++ [p]).length c) (l ++ [p]) (w1.setCell ⟨d, 0, none⟩ (.slice A (l ++ [p]).length c)) := by
  obtain ⟨A, c, rfl⟩ := own_shape hown'
  have e : (l ++ [p]).length = l.length + 1 := by simp
  have ne : some d ≠ v.ownBlock := fun e => by have := (h.own.lt _ e.symm).1; omega
  have lt : d < wr.heap.size := World.block_lt_of_cell? _ _ h.c0
  have n0 : w1.cell? ⟨d, 0, none⟩ = some v := (hgrow.cell_far _ (by simp; omega) ne).trans (cell_al h.c0 _)
  have n1 : w1.cell? ⟨d, 1, none⟩ = some (.slice none 0 0) := (hgrow.cell_far _ (by simp; omega) ne).trans (cell_al h.c1 _)
  have nz : w1.frozen? ⟨d, 0, none⟩ = false := (hgrow.frozen_far _ (by simp; omega) ne).trans (frozen_al h.c0 h.z0 _)
  have hle := h.le
  rw [e]
  refine ⟨A, c, rfl, n0, nz, World.cell?_setCell_same _ _ _ n0, (World.cell?_setCell_other _ _ _ _ (fun e => by simp at e)).trans n1, by rw [World.frozen?_setCell]; exact nz, ?_, ((h.bel.alloc h.bel.size _).grown hgrow (by simp; omega) (fun j hj => by have := (h.own.lt _ hj).1; omega)).setCell hle _, h.le⟩
  rw [e, kvCells_snoc]
  exact ownsRow_setCell_below (a := ⟨d, 0, none⟩) hown' (by show d < d + 1; omega) _
theorem attr_below {w0 wr w2 : World} {d : Nat} {v : Value} {l : List KV} (h : AttrAt w0 d v l wr) (hb : Below wr.heap.size wr w2) : AttrAt w0 d v l w2 := by
  have lt : d < wr.heap.size := World.block_lt_of_cell? _ _ h.c0
  exact ⟨kp_of_below hb _ _ h.c0, kp_of_below hb _ _ h.c1, (hb.frozen lt).trans h.z0, own_below h.own hb, below_step h.bel h.bel.size hb, h.le⟩
theorem attr_kvs {w0 wr : World} {d n c : Nat} {A : Option Addr} {l : List KV} (h : AttrAt w0 d (.slice A n c) l wr) : KVs (fun _ => True) wr A l := by
  obtain ⟨A', c', hv, hk⟩ := own_kvs h.own
  cases hv
  exact hk.wide fun _ _ _ => trivial

theorem fl00_keys : hasKey [105, 99, 101, 45, 108, 105, 116, 101] ([] : List KV) = false ∧ hasKey [101, 120, 116, 109, 97, 112, 45, 97, 108, 108, 111, 119, 45, 109, 105, 120, 101, 100] ([] : List KV) = false := by decide +kernel
set_option maxHeartbeats 2000000 in
set_option maxRecDepth 100000 in
theorem fl00_walk (n : Nat) (w : World) (hn : n ≤ 4294967295) (hsp : Spaces w) :
    Calls Tryd.prog 4 #[.bool false, .bool false, .int .u32 n] w fun e w' => e = .returned (.bool true) ∧ Below w.heap.size w w' := by
  have ht : ∀ p ∈ ([] : List KV), Tight p.1 := by
    simp
  have hic : ∀ (w : World) (A : Option Addr) (c : Nat), Spaces w → KVs (fun _ => True) w A ([] : List KV) → Calls Tryd.prog 12 #[.agg #[.slice A 0 c, .slice none 0 0]] w fun e w' => e = .returned (.bool false) ∧ Below w.heap.size w w' := fun w A c hs hk => by
    have := iceSetFn_any (E := fun _ => True) A none c 0 [] [] w (by simp) (by simp) (by simp) ht hs hk (Meds.nil _ _)
    rw [fl00_keys.1] at this
    exact this
  have hmc : ∀ (w : World) (A : Option Addr) (c : Nat), Spaces w → KVs (fun _ => True) w A ([] : List KV) → Calls Tryd.prog 13 #[.agg #[.slice A 0 c, .slice none 0 0]] w fun e w' => e = .returned (.bool false) ∧ Below w.heap.size w w' := fun w A c hs hk => by
    have := mixSetFn_any (E := fun _ => True) A none c 0 [] [] w (by simp) (by simp) (by simp) ht hs hk (Meds.nil _ _)
    rw [fl00_keys.2] at this
    exact this
  have hdc : ∀ w, Calls Tryd.prog 11 #[.int .i64 n] w fun e w' => e = .returned (.string (dec n)) ∧ Below w.heap.size w w' := fun w => decimal_any n w hn
  have HIC := Lib.hid hic
  have HMC := Lib.hid hmc
  have HDC := Lib.hid hdc
  have HSP := Lib.hid hsp
  clear hic hmc hdc hsp ht
  obtain ⟨i0, hi, hz0, hz1, hz2⟩ := info_parts Tryd.infoKV
  have a0 : AttrAt w w.heap.size (.slice none 0 0) [] (w.alloc (.cells #[.slice none 0 0, .slice none 0 0] 30)) := ⟨by simp [go_sem], by simp [go_sem], by simp [go_sem], World.ownsRow_nil _ _ _ _, (Below.refl _ _).alloc (Nat.le_refl _) _, Nat.le_refl _⟩
  go_enter Tryd.func4, Tryd.ntmps4
  go_wp2_with fail
  refine (HDC.out (w.alloc (.cells #[.slice none 0 0, .slice none 0 0] 30))).mono ?_
  rintro e w2 ⟨rfl, hb2⟩
  have at2 := attr_below a0 hb2
  have AT := Lib.hid at2
  have ld : w.heap.size < w2.heap.size := World.block_lt_of_cell? _ _ at2.c0
  have e0 : ∀ o1 o2, ((w2.alloc o1).alloc o2).cell? ⟨w.heap.size, 0, none⟩ = some (.slice none 0 0) := fun _ _ => cell_al (cell_al at2.c0 _) _
  have e1 : ∀ o1 o2, ((w2.alloc o1).alloc o2).cell? ⟨w.heap.size, 1, none⟩ = some (.slice none 0 0) := fun _ _ => cell_al (cell_al at2.c1 _) _
  have hk : ∀ o1 o2, KVs (fun _ => True) ((w2.alloc o1).alloc o2) none [] := fun _ _ => (attr_kvs at2).keep ((Kp.alloc _ _).trans (Kp.alloc _ _))
  have hs : ∀ o1 o2, Spaces ((w2.alloc o1).alloc o2) := fun o1 o2 => HSP.out.below ((at2.bel.alloc at2.bel.size _).alloc (by have := at2.bel.size; simp; omega) _)
  have HK := Lib.hid hk
  have HS := Lib.hid hs
  clear hk hs
  go_wp2_with fail
  refine (HIC.out _ none 0 (HS.out _ _) (HK.out _ _)).mono ?_
  rintro e w3 ⟨rfl, hb3⟩
  have f0 : w3.cell? ⟨w.heap.size, 0, none⟩ = some (.slice none 0 0) := kp_of_below hb3 _ _ (e0 _ _)
  have f1 : w3.cell? ⟨w.heap.size, 1, none⟩ = some (.slice none 0 0) := kp_of_below hb3 _ _ (e1 _ _)
  have m0 : w3.cell? ⟨w2.heap.size + 1, 0, none⟩ = some (.string ⟨#[97, 112, 112, 108, 105, 99, 97, 116, 105, 111, 110]⟩) := kp_of_below hb3 _ _ (by simp [go_sem])
  have m1 : w3.cell? ⟨w2.heap.size + 1, 1, none⟩ = some (.slice none 0 0) := kp_of_below hb3 _ _ (by simp [go_sem])
  have m2 : w3.cell? ⟨w2.heap.size + 1, 2, none⟩ = some (.slice (some ⟨w2.heap.size, 0, none⟩) 1 1) := kp_of_below hb3 _ _ (by simp [go_sem])
  have q0 : w3.cell? ⟨w2.heap.size, 0, none⟩ = some (.string ⟨#[109, 97, 120, 45, 109, 101, 115, 115, 97, 103, 101, 45, 115, 105, 122, 101]⟩) := kp_of_below hb3 _ _ (by simp [go_sem])
  have q1 : w3.cell? ⟨w2.heap.size, 1, none⟩ = some (.string (dec n)) := kp_of_below hb3 _ _ (by simp [go_sem])
  have sp3 := Lib.hid ((HS.out _ _).below hb3)
  have kv3 := Lib.hid ((HK.out _ _).keep (kp_of_below hb3))
  have b3 : Below w.heap.size w w3 := ((at2.bel.alloc at2.bel.size _).alloc (by have := at2.bel.size; simp; omega) _).trans (hb3.mono (by have := at2.bel.size; simp; omega))
  clear at2 e0 e1
  go_wp2_with fail
  refine (HMC.out _ none 0 sp3.out kv3.out).mono ?_
  rintro e w4 ⟨rfl, hb4⟩
  have r0 := kp_of_below hb4 _ _ m0
  have r1 := kp_of_below hb4 _ _ m1
  have r2 := kp_of_below hb4 _ _ m2
  have s0 := kp_of_below hb4 _ _ q0
  have s1 := kp_of_below hb4 _ _ q1
  have sp4 := Lib.hid (sp3.out.below hb4)
  have b4 := below_step b3 b3.size hb4
  go_wp2_with fail
  refine (maxMessage_any w2.heap.size _ n _ hn sp4.out s0 s1).mono ?_
  rintro e w5 ⟨rfl, hb5⟩
  have b5 := below_step b4 b4.size hb5
  go_wp2_with (go_at_call 9; refine (works_any _).mono ?_; rintro e w6 ⟨rfl, hb6⟩)
  go_ret
  exact ⟨rfl, below_step b5 b5.size hb6⟩

theorem fl10_keys : hasKey [105, 99, 101, 45, 108, 105, 116, 101] ([(⟨#[105, 99, 101, 45, 108, 105, 116, 101]⟩, ByteArray.empty)] : List KV) = true ∧ hasKey [101, 120, 116, 109, 97, 112, 45, 97, 108, 108, 111, 119, 45, 109, 105, 120, 101, 100] ([(⟨#[105, 99, 101, 45, 108, 105, 116, 101]⟩, ByteArray.empty)] : List KV) = false := by decide +kernel
set_option maxHeartbeats 2000000 in
set_option maxRecDepth 100000 in
theorem fl10_walk (n : Nat) (w : World) (hn : n ≤ 4294967295) (hsp : Spaces w) :
    Calls Tryd.prog 4 #[.bool true, .bool false, .int .u32 n] w fun e w' => e = .returned (.bool true) ∧ Below w.heap.size w w' := by
  have ht : ∀ p ∈ ([(⟨#[105, 99, 101, 45, 108, 105, 116, 101]⟩, ByteArray.empty)] : List KV), Tight p.1 := by
    intro p hp
    simp at hp
    subst hp; exact tight_ice
  have hic : ∀ (w : World) (A : Option Addr) (c : Nat), Spaces w → KVs (fun _ => True) w A ([(⟨#[105, 99, 101, 45, 108, 105, 116, 101]⟩, ByteArray.empty)] : List KV) → Calls Tryd.prog 12 #[.agg #[.slice A 1 c, .slice none 0 0]] w fun e w' => e = .returned (.bool true) ∧ Below w.heap.size w w' := fun w A c hs hk => by
    have := iceSetFn_any (E := fun _ => True) A none c 0 [(⟨#[105, 99, 101, 45, 108, 105, 116, 101]⟩, ByteArray.empty)] [] w (by simp) (by simp) (by simp) ht hs hk (Meds.nil _ _)
    rw [fl10_keys.1] at this
    exact this
  have hmc : ∀ (w : World) (A : Option Addr) (c : Nat), Spaces w → KVs (fun _ => True) w A ([(⟨#[105, 99, 101, 45, 108, 105, 116, 101]⟩, ByteArray.empty)] : List KV) → Calls Tryd.prog 13 #[.agg #[.slice A 1 c, .slice none 0 0]] w fun e w' => e = .returned (.bool false) ∧ Below w.heap.size w w' := fun w A c hs hk => by
    have := mixSetFn_any (E := fun _ => True) A none c 0 [(⟨#[105, 99, 101, 45, 108, 105, 116, 101]⟩, ByteArray.empty)] [] w (by simp) (by simp) (by simp) ht hs hk (Meds.nil _ _)
    rw [fl10_keys.2] at this
    exact this
  have hdc : ∀ w, Calls Tryd.prog 11 #[.int .i64 n] w fun e w' => e = .returned (.string (dec n)) ∧ Below w.heap.size w w' := fun w => decimal_any n w hn
  have HIC := Lib.hid hic
  have HMC := Lib.hid hmc
  have HDC := Lib.hid hdc
  have HSP := Lib.hid hsp
  clear hic hmc hdc hsp ht
  obtain ⟨i0, hi, hz0, hz1, hz2⟩ := info_parts Tryd.infoKV
  have a0 : AttrAt w w.heap.size (.slice none 0 0) [] (w.alloc (.cells #[.slice none 0 0, .slice none 0 0] 30)) := ⟨by simp [go_sem], by simp [go_sem], by simp [go_sem], World.ownsRow_nil _ _ _ _, (Below.refl _ _).alloc (Nat.le_refl _) _, Nat.le_refl _⟩
  go_enter Tryd.func4, Tryd.ntmps4
  go_wp2_with (at_builtin; refine wpList_append_own _ rfl _ _ 27 rfl (w.heap.size + 1) 32 i0 _ 2 32 Tryd.underlying27 hi hz0 hz1 hz2 rfl (by decide) (.slice none 0 0) 0 (kvCells []) rfl (a0.own.alloc _) ⟨w.heap.size + 1, 0, none⟩ 1 1 [.string ⟨#[105, 99, 101, 45, 108, 105, 116, 101]⟩, .string ByteArray.empty] rfl rfl ?p01 ?p02 ?p03 ?p04 ?p05 ?_)
  all_goals first
    | exact World.news_of_block (cs := #[.string ⟨#[105, 99, 101, 45, 108, 105, 116, 101]⟩, .string ByteArray.empty]) (t := 32) (fr := (0, 0)) (new_second w _ _)
    | (intro u hu; simp at hu; rcases hu with rfl | rfl <;> rfl)
    | (unfold maxLen; omega)
    | omega
    | (have h1 := World.block_lt_of_cell? _ _ a0.c0; (try simp at h1); simp; omega)
    | (have h1 := World.block_lt_of_cell? _ _ a0.c0; (try simp at h1); simp; done)
    | skip
  intro v' w01 hown' hgrow _
  obtain ⟨A0, c0, rfl, n0, nz0, aa1⟩ := attr_step a0 (p := (⟨#[105, 99, 101, 45, 108, 105, 116, 101]⟩, ByteArray.empty)) hown' hgrow
  have at1 : AttrAt w w.heap.size (.slice A0 1 c0) [(⟨#[105, 99, 101, 45, 108, 105, 116, 101]⟩, ByteArray.empty)] (w01.setCell ⟨w.heap.size, 0, none⟩ (.slice A0 1 c0)) := aa1
  clear hown' hgrow aa1
  go_wp2_with fail
  refine (HDC.out (w01.setCell ⟨w.heap.size, 0, none⟩ (.slice A0 1 c0))).mono ?_
  rintro e w2 ⟨rfl, hb2⟩
  have at2 := attr_below at1 hb2
  have AT := Lib.hid at2
  have ld : w.heap.size < w2.heap.size := World.block_lt_of_cell? _ _ at2.c0
  have e0 : ∀ o1 o2, ((w2.alloc o1).alloc o2).cell? ⟨w.heap.size, 0, none⟩ = some (.slice A0 1 c0) := fun _ _ => cell_al (cell_al at2.c0 _) _
  have e1 : ∀ o1 o2, ((w2.alloc o1).alloc o2).cell? ⟨w.heap.size, 1, none⟩ = some (.slice none 0 0) := fun _ _ => cell_al (cell_al at2.c1 _) _
  have hk : ∀ o1 o2, KVs (fun _ => True) ((w2.alloc o1).alloc o2) A0 [(⟨#[105, 99, 101, 45, 108, 105, 116, 101]⟩, ByteArray.empty)] := fun _ _ => (attr_kvs at2).keep ((Kp.alloc _ _).trans (Kp.alloc _ _))
  have hs : ∀ o1 o2, Spaces ((w2.alloc o1).alloc o2) := fun o1 o2 => HSP.out.below ((at2.bel.alloc at2.bel.size _).alloc (by have := at2.bel.size; simp; omega) _)
  have HK := Lib.hid hk
  have HS := Lib.hid hs
  clear hk hs
  go_wp2_with fail
  refine (HIC.out _ A0 c0 (HS.out _ _) (HK.out _ _)).mono ?_
  rintro e w3 ⟨rfl, hb3⟩
  have f0 : w3.cell? ⟨w.heap.size, 0, none⟩ = some (.slice A0 1 c0) := kp_of_below hb3 _ _ (e0 _ _)
  have f1 : w3.cell? ⟨w.heap.size, 1, none⟩ = some (.slice none 0 0) := kp_of_below hb3 _ _ (e1 _ _)
  have m0 : w3.cell? ⟨w2.heap.size + 1, 0, none⟩ = some (.string ⟨#[97, 112, 112, 108, 105, 99, 97, 116, 105, 111, 110]⟩) := kp_of_below hb3 _ _ (by simp [go_sem])
  have m1 : w3.cell? ⟨w2.heap.size + 1, 1, none⟩ = some (.slice none 0 0) := kp_of_below hb3 _ _ (by simp [go_sem])
  have m2 : w3.cell? ⟨w2.heap.size + 1, 2, none⟩ = some (.slice (some ⟨w2.heap.size, 0, none⟩) 1 1) := kp_of_below hb3 _ _ (by simp [go_sem])
  have q0 : w3.cell? ⟨w2.heap.size, 0, none⟩ = some (.string ⟨#[109, 97, 120, 45, 109, 101, 115, 115, 97, 103, 101, 45, 115, 105, 122, 101]⟩) := kp_of_below hb3 _ _ (by simp [go_sem])
  have q1 : w3.cell? ⟨w2.heap.size, 1, none⟩ = some (.string (dec n)) := kp_of_below hb3 _ _ (by simp [go_sem])
  have sp3 := Lib.hid ((HS.out _ _).below hb3)
  have kv3 := Lib.hid ((HK.out _ _).keep (kp_of_below hb3))
  have b3 : Below w.heap.size w w3 := ((at2.bel.alloc at2.bel.size _).alloc (by have := at2.bel.size; simp; omega) _).trans (hb3.mono (by have := at2.bel.size; simp; omega))
  clear at2 e0 e1
  go_wp2_with fail
  refine (HMC.out _ A0 c0 sp3.out kv3.out).mono ?_
  rintro e w4 ⟨rfl, hb4⟩
  have r0 := kp_of_below hb4 _ _ m0
  have r1 := kp_of_below hb4 _ _ m1
  have r2 := kp_of_below hb4 _ _ m2
  have s0 := kp_of_below hb4 _ _ q0
  have s1 := kp_of_below hb4 _ _ q1
  have sp4 := Lib.hid (sp3.out.below hb4)
  have b4 := below_step b3 b3.size hb4
  go_wp2_with fail
  refine (maxMessage_any w2.heap.size _ n _ hn sp4.out s0 s1).mono ?_
  rintro e w5 ⟨rfl, hb5⟩
  have b5 := below_step b4 b4.size hb5
  go_wp2_with (go_at_call 9; refine (works_any _).mono ?_; rintro e w6 ⟨rfl, hb6⟩)
  go_ret
  exact ⟨rfl, below_step b5 b5.size hb6⟩

theorem fl01_keys : hasKey [105, 99, 101, 45, 108, 105, 116, 101] ([(⟨#[101, 120, 116, 109, 97, 112, 45, 97, 108, 108, 111, 119, 45, 109, 105, 120, 101, 100]⟩, ByteArray.empty)] : List KV) = false ∧ hasKey [101, 120, 116, 109, 97, 112, 45, 97, 108, 108, 111, 119, 45, 109, 105, 120, 101, 100] ([(⟨#[101, 120, 116, 109, 97, 112, 45, 97, 108, 108, 111, 119, 45, 109, 105, 120, 101, 100]⟩, ByteArray.empty)] : List KV) = true := by decide +kernel
set_option maxHeartbeats 2000000 in
set_option maxRecDepth 100000 in
theorem fl01_walk (n : Nat) (w : World) (hn : n ≤ 4294967295) (hsp : Spaces w) :
    Calls Tryd.prog 4 #[.bool false, .bool true, .int .u32 n] w fun e w' => e = .returned (.bool true) ∧ Below w.heap.size w w' := by
  have ht : ∀ p ∈ ([(⟨#[101, 120, 116, 109, 97, 112, 45, 97, 108, 108, 111, 119, 45, 109, 105, 120, 101, 100]⟩, ByteArray.empty)] : List KV), Tight p.1 := by
    intro p hp
    simp at hp
    subst hp; exact tight_mix
  have hic : ∀ (w : World) (A : Option Addr) (c : Nat), Spaces w → KVs (fun _ => True) w A ([(⟨#[101, 120, 116, 109, 97, 112, 45, 97, 108, 108, 111, 119, 45, 109, 105, 120, 101, 100]⟩, ByteArray.empty)] : List KV) → Calls Tryd.prog 12 #[.agg #[.slice A 1 c, .slice none 0 0]] w fun e w' => e = .returned (.bool false) ∧ Below w.heap.size w w' := fun w A c hs hk => by
    have := iceSetFn_any (E := fun _ => True) A none c 0 [(⟨#[101, 120, 116, 109, 97, 112, 45, 97, 108, 108, 111, 119, 45, 109, 105, 120, 101, 100]⟩, ByteArray.empty)] [] w (by simp) (by simp) (by simp) ht hs hk (Meds.nil _ _)
    rw [fl01_keys.1] at this
    exact this
  have hmc : ∀ (w : World) (A : Option Addr) (c : Nat), Spaces w → KVs (fun _ => True) w A ([(⟨#[101, 120, 116, 109, 97, 112, 45, 97, 108, 108, 111, 119, 45, 109, 105, 120, 101, 100]⟩, ByteArray.empty)] : List KV) → Calls Tryd.prog 13 #[.agg #[.slice A 1 c, .slice none 0 0]] w fun e w' => e = .returned (.bool true) ∧ Below w.heap.size w w' := fun w A c hs hk => by
    have := mixSetFn_any (E := fun _ => True) A none c 0 [(⟨#[101, 120, 116, 109, 97, 112, 45, 97, 108, 108, 111, 119, 45, 109, 105, 120, 101, 100]⟩, ByteArray.empty)] [] w (by simp) (by simp) (by simp) ht hs hk (Meds.nil _ _)
    rw [fl01_keys.2] at this
    exact this
  have hdc : ∀ w, Calls Tryd.prog 11 #[.int .i64 n] w fun e w' => e = .returned (.string (dec n)) ∧ Below w.heap.size w w' := fun w => decimal_any n w hn
  have HIC := Lib.hid hic
  have HMC := Lib.hid hmc
  have HDC := Lib.hid hdc
  have HSP := Lib.hid hsp
  clear hic hmc hdc hsp ht
  obtain ⟨i0, hi, hz0, hz1, hz2⟩ := info_parts Tryd.infoKV
  have a0 : AttrAt w w.heap.size (.slice none 0 0) [] (w.alloc (.cells #[.slice none 0 0, .slice none 0 0] 30)) := ⟨by simp [go_sem], by simp [go_sem], by simp [go_sem], World.ownsRow_nil _ _ _ _, (Below.refl _ _).alloc (Nat.le_refl _) _, Nat.le_refl _⟩
  go_enter Tryd.func4, Tryd.ntmps4
  go_wp2_with (at_builtin; refine wpList_append_own _ rfl _ _ 27 rfl (w.heap.size + 1) 32 i0 _ 2 32 Tryd.underlying27 hi hz0 hz1 hz2 rfl (by decide) (.slice none 0 0) 0 (kvCells []) rfl (a0.own.alloc _) ⟨w.heap.size + 1, 0, none⟩ 1 1 [.string ⟨#[101, 120, 116, 109, 97, 112, 45, 97, 108, 108, 111, 119, 45, 109, 105, 120, 101, 100]⟩, .string ByteArray.empty] rfl rfl ?p01 ?p02 ?p03 ?p04 ?p05 ?_)
  all_goals first
    | exact World.news_of_block (cs := #[.string ⟨#[101, 120, 116, 109, 97, 112, 45, 97, 108, 108, 111, 119, 45, 109, 105, 120, 101, 100]⟩, .string ByteArray.empty]) (t := 32) (fr := (0, 0)) (new_second w _ _)
    | (intro u hu; simp at hu; rcases hu with rfl | rfl <;> rfl)
    | (unfold maxLen; omega)
    | omega
    | (have h1 := World.block_lt_of_cell? _ _ a0.c0; (try simp at h1); simp; omega)
    | (have h1 := World.block_lt_of_cell? _ _ a0.c0; (try simp at h1); simp; done)
    | skip
  intro v' w01 hown' hgrow _
  obtain ⟨A0, c0, rfl, n0, nz0, aa1⟩ := attr_step a0 (p := (⟨#[101, 120, 116, 109, 97, 112, 45, 97, 108, 108, 111, 119, 45, 109, 105, 120, 101, 100]⟩, ByteArray.empty)) hown' hgrow
  have at1 : AttrAt w w.heap.size (.slice A0 1 c0) [(⟨#[101, 120, 116, 109, 97, 112, 45, 97, 108, 108, 111, 119, 45, 109, 105, 120, 101, 100]⟩, ByteArray.empty)] (w01.setCell ⟨w.heap.size, 0, none⟩ (.slice A0 1 c0)) := aa1
  clear hown' hgrow aa1
  go_wp2_with fail
  refine (HDC.out (w01.setCell ⟨w.heap.size, 0, none⟩ (.slice A0 1 c0))).mono ?_
  rintro e w2 ⟨rfl, hb2⟩
  have at2 := attr_below at1 hb2
  have AT := Lib.hid at2
  have ld : w.heap.size < w2.heap.size := World.block_lt_of_cell? _ _ at2.c0
  have e0 : ∀ o1 o2, ((w2.alloc o1).alloc o2).cell? ⟨w.heap.size, 0, none⟩ = some (.slice A0 1 c0) := fun _ _ => cell_al (cell_al at2.c0 _) _
  have e1 : ∀ o1 o2, ((w2.alloc o1).alloc o2).cell? ⟨w.heap.size, 1, none⟩ = some (.slice none 0 0) := fun _ _ => cell_al (cell_al at2.c1 _) _
  have hk : ∀ o1 o2, KVs (fun _ => True) ((w2.alloc o1).alloc o2) A0 [(⟨#[101, 120, 116, 109, 97, 112, 45, 97, 108, 108, 111, 119, 45, 109, 105, 120, 101, 100]⟩, ByteArray.empty)] := fun _ _ => (attr_kvs at2).keep ((Kp.alloc _ _).trans (Kp.alloc _ _))
  have hs : ∀ o1 o2, Spaces ((w2.alloc o1).alloc o2) := fun o1 o2 => HSP.out.below ((at2.bel.alloc at2.bel.size _).alloc (by have := at2.bel.size; simp; omega) _)
  have HK := Lib.hid hk
  have HS := Lib.hid hs
  clear hk hs
  go_wp2_with fail
  refine (HIC.out _ A0 c0 (HS.out _ _) (HK.out _ _)).mono ?_
  rintro e w3 ⟨rfl, hb3⟩
  have f0 : w3.cell? ⟨w.heap.size, 0, none⟩ = some (.slice A0 1 c0) := kp_of_below hb3 _ _ (e0 _ _)
  have f1 : w3.cell? ⟨w.heap.size, 1, none⟩ = some (.slice none 0 0) := kp_of_below hb3 _ _ (e1 _ _)
  have m0 : w3.cell? ⟨w2.heap.size + 1, 0, none⟩ = some (.string ⟨#[97, 112, 112, 108, 105, 99, 97, 116, 105, 111, 110]⟩) := kp_of_below hb3 _ _ (by simp [go_sem])
  have m1 : w3.cell? ⟨w2.heap.size + 1, 1, none⟩ = some (.slice none 0 0) := kp_of_below hb3 _ _ (by simp [go_sem])
  have m2 : w3.cell? ⟨w2.heap.size + 1, 2, none⟩ = some (.slice (some ⟨w2.heap.size, 0, none⟩) 1 1) := kp_of_below hb3 _ _ (by simp [go_sem])
  have q0 : w3.cell? ⟨w2.heap.size, 0, none⟩ = some (.string ⟨#[109, 97, 120, 45, 109, 101, 115, 115, 97, 103, 101, 45, 115, 105, 122, 101]⟩) := kp_of_below hb3 _ _ (by simp [go_sem])
  have q1 : w3.cell? ⟨w2.heap.size, 1, none⟩ = some (.string (dec n)) := kp_of_below hb3 _ _ (by simp [go_sem])
  have sp3 := Lib.hid ((HS.out _ _).below hb3)
  have kv3 := Lib.hid ((HK.out _ _).keep (kp_of_below hb3))
  have b3 : Below w.heap.size w w3 := ((at2.bel.alloc at2.bel.size _).alloc (by have := at2.bel.size; simp; omega) _).trans (hb3.mono (by have := at2.bel.size; simp; omega))
  clear at2 e0 e1
  go_wp2_with fail
  refine (HMC.out _ A0 c0 sp3.out kv3.out).mono ?_
  rintro e w4 ⟨rfl, hb4⟩
  have r0 := kp_of_below hb4 _ _ m0
  have r1 := kp_of_below hb4 _ _ m1
  have r2 := kp_of_below hb4 _ _ m2
  have s0 := kp_of_below hb4 _ _ q0
  have s1 := kp_of_below hb4 _ _ q1
  have sp4 := Lib.hid (sp3.out.below hb4)
  have b4 := below_step b3 b3.size hb4
  go_wp2_with fail
  refine (maxMessage_any w2.heap.size _ n _ hn sp4.out s0 s1).mono ?_
  rintro e w5 ⟨rfl, hb5⟩
  have b5 := below_step b4 b4.size hb5
  go_wp2_with (go_at_call 9; refine (works_any _).mono ?_; rintro e w6 ⟨rfl, hb6⟩)
  go_ret
  exact ⟨rfl, below_step b5 b5.size hb6⟩

theorem fl11_keys : hasKey [105, 99, 101, 45, 108, 105, 116, 101] ([(⟨#[105, 99, 101, 45, 108, 105, 116, 101]⟩, ByteArray.empty), (⟨#[101, 120, 116, 109, 97, 112, 45, 97, 108, 108, 111, 119, 45, 109, 105, 120, 101, 100]⟩, ByteArray.empty)] : List KV) = true ∧ hasKey [101, 120, 116, 109, 97, 112, 45, 97, 108, 108, 111, 119, 45, 109, 105, 120, 101, 100] ([(⟨#[105, 99, 101, 45, 108, 105, 116, 101]⟩, ByteArray.empty), (⟨#[101, 120, 116, 109, 97, 112, 45, 97, 108, 108, 111, 119, 45, 109, 105, 120, 101, 100]⟩, ByteArray.empty)] : List KV) = true := by decide +kernel
set_option maxHeartbeats 2000000 in
set_option maxRecDepth 100000 in
theorem fl11_walk (n : Nat) (w : World) (hn : n ≤ 4294967295) (hsp : Spaces w) :
    Calls Tryd.prog 4 #[.bool true, .bool true, .int .u32 n] w fun e w' => e = .returned (.bool true) ∧ Below w.heap.size w w' := by
  have ht : ∀ p ∈ ([(⟨#[105, 99, 101, 45, 108, 105, 116, 101]⟩, ByteArray.empty), (⟨#[101, 120, 116, 109, 97, 112, 45, 97, 108, 108, 111, 119, 45, 109, 105, 120, 101, 100]⟩, ByteArray.empty)] : List KV), Tight p.1 := by
    intro p hp
    simp at hp
    rcases hp with rfl | rfl
    · exact tight_ice
    · exact tight_mix
  have hic : ∀ (w : World) (A : Option Addr) (c : Nat), Spaces w → KVs (fun _ => True) w A ([(⟨#[105, 99, 101, 45, 108, 105, 116, 101]⟩, ByteArray.empty), (⟨#[101, 120, 116, 109, 97, 112, 45, 97, 108, 108, 111, 119, 45, 109, 105, 120, 101, 100]⟩, ByteArray.empty)] : List KV) → Calls Tryd.prog 12 #[.agg #[.slice A 2 c, .slice none 0 0]] w fun e w' => e = .returned (.bool true) ∧ Below w.heap.size w w' := fun w A c hs hk => by
    have := iceSetFn_any (E := fun _ => True) A none c 0 [(⟨#[105, 99, 101, 45, 108, 105, 116, 101]⟩, ByteArray.empty), (⟨#[101, 120, 116, 109, 97, 112, 45, 97, 108, 108, 111, 119, 45, 109, 105, 120, 101, 100]⟩, ByteArray.empty)] [] w (by simp) (by simp) (by simp) ht hs hk (Meds.nil _ _)
    rw [fl11_keys.1] at this
    exact this
  have hmc : ∀ (w : World) (A : Option Addr) (c : Nat), Spaces w → KVs (fun _ => True) w A ([(⟨#[105, 99, 101, 45, 108, 105, 116, 101]⟩, ByteArray.empty), (⟨#[101, 120, 116, 109, 97, 112, 45, 97, 108, 108, 111, 119, 45, 109, 105, 120, 101, 100]⟩, ByteArray.empty)] : List KV) → Calls Tryd.prog 13 #[.agg #[.slice A 2 c, .slice none 0 0]] w fun e w' => e = .returned (.bool true) ∧ Below w.heap.size w w' := fun w A c hs hk => by
    have := mixSetFn_any (E := fun _ => True) A none c 0 [(⟨#[105, 99, 101, 45, 108, 105, 116, 101]⟩, ByteArray.empty), (⟨#[101, 120, 116, 109, 97, 112, 45, 97, 108, 108, 111, 119, 45, 109, 105, 120, 101, 100]⟩, ByteArray.empty)] [] w (by simp) (by simp) (by simp) ht hs hk (Meds.nil _ _)
    rw [fl11_keys.2] at this
    exact this
  have hdc : ∀ w, Calls Tryd.prog 11 #[.int .i64 n] w fun e w' => e = .returned (.string (dec n)) ∧ Below w.heap.size w w' := fun w => decimal_any n w hn
  have HIC := Lib.hid hic
  have HMC := Lib.hid hmc
  have HDC := Lib.hid hdc
  have HSP := Lib.hid hsp
  clear hic hmc hdc hsp ht
  obtain ⟨i0, hi, hz0, hz1, hz2⟩ := info_parts Tryd.infoKV
  have a0 : AttrAt w w.heap.size (.slice none 0 0) [] (w.alloc (.cells #[.slice none 0 0, .slice none 0 0] 30)) := ⟨by simp [go_sem], by simp [go_sem], by simp [go_sem], World.ownsRow_nil _ _ _ _, (Below.refl _ _).alloc (Nat.le_refl _) _, Nat.le_refl _⟩
  go_enter Tryd.func4, Tryd.ntmps4
  go_wp2_with (at_builtin; refine wpList_append_own _ rfl _ _ 27 rfl (w.heap.size + 1) 32 i0 _ 2 32 Tryd.underlying27 hi hz0 hz1 hz2 rfl (by decide) (.slice none 0 0) 0 (kvCells []) rfl (a0.own.alloc _) ⟨w.heap.size + 1, 0, none⟩ 1 1 [.string ⟨#[105, 99, 101, 45, 108, 105, 116, 101]⟩, .string ByteArray.empty] rfl rfl ?p01 ?p02 ?p03 ?p04 ?p05 ?_)
  all_goals first
    | exact World.news_of_block (cs := #[.string ⟨#[105, 99, 101, 45, 108, 105, 116, 101]⟩, .string ByteArray.empty]) (t := 32) (fr := (0, 0)) (new_second w _ _)
    | (intro u hu; simp at hu; rcases hu with rfl | rfl <;> rfl)
    | (unfold maxLen; omega)
    | omega
    | (have h1 := World.block_lt_of_cell? _ _ a0.c0; (try simp at h1); simp; omega)
    | (have h1 := World.block_lt_of_cell? _ _ a0.c0; (try simp at h1); simp; done)
    | skip
  intro v' w01 hown' hgrow _
  obtain ⟨A0, c0, rfl, n0, nz0, aa1⟩ := attr_step a0 (p := (⟨#[105, 99, 101, 45, 108, 105, 116, 101]⟩, ByteArray.empty)) hown' hgrow
  have at1 : AttrAt w w.heap.size (.slice A0 1 c0) [(⟨#[105, 99, 101, 45, 108, 105, 116, 101]⟩, ByteArray.empty)] (w01.setCell ⟨w.heap.size, 0, none⟩ (.slice A0 1 c0)) := aa1
  clear hown' hgrow aa1
  go_wp2_with (at_builtin; refine wpList_append_own _ rfl _ _ 27 rfl (w.heap.size + 1) 32 i0 _ 2 32 Tryd.underlying27 hi hz0 hz1 hz2 rfl (by decide) (.slice A0 1 c0) 1 (kvCells [(⟨#[105, 99, 101, 45, 108, 105, 116, 101]⟩, ByteArray.empty)]) rfl (at1.own.alloc _) ⟨w01.heap.size, 0, none⟩ 1 1 [.string ⟨#[101, 120, 116, 109, 97, 112, 45, 97, 108, 108, 111, 119, 45, 109, 105, 120, 101, 100]⟩, .string ByteArray.empty] rfl rfl ?p11 ?p12 ?p13 ?p14 ?p15 ?_)
  all_goals first
    | exact World.news_of_block (cs := #[.string ⟨#[101, 120, 116, 109, 97, 112, 45, 97, 108, 108, 111, 119, 45, 109, 105, 120, 101, 100]⟩, .string ByteArray.empty]) (t := 32) (fr := (0, 0)) (by have h := heap_alloc_new (w01.setCell ⟨w.heap.size, 0, none⟩ (.slice A0 1 c0)) (.cells #[.string ⟨#[101, 120, 116, 109, 97, 112, 45, 97, 108, 108, 111, 119, 45, 109, 105, 120, 101, 100]⟩, .string ByteArray.empty] 32); rw [show (w01.setCell ⟨w.heap.size, 0, none⟩ (.slice A0 1 c0)).heap.size = w01.heap.size by simp] at h; exact h)
    | (intro u hu; simp at hu; rcases hu with rfl | rfl <;> rfl)
    | (unfold maxLen; omega)
    | omega
    | (have h1 := World.block_lt_of_cell? _ _ at1.c0; (try simp at h1); simp; omega)
    | (have h1 := World.block_lt_of_cell? _ _ at1.c0; (try simp at h1); simp; done)
    | skip
  intro v' w11 hown' hgrow _
  obtain ⟨A1, c1, rfl, n1, nz1, aa2⟩ := attr_step at1 (p := (⟨#[101, 120, 116, 109, 97, 112, 45, 97, 108, 108, 111, 119, 45, 109, 105, 120, 101, 100]⟩, ByteArray.empty)) hown' hgrow
  have at2 : AttrAt w w.heap.size (.slice A1 2 c1) [(⟨#[105, 99, 101, 45, 108, 105, 116, 101]⟩, ByteArray.empty), (⟨#[101, 120, 116, 109, 97, 112, 45, 97, 108, 108, 111, 119, 45, 109, 105, 120, 101, 100]⟩, ByteArray.empty)] (w11.setCell ⟨w.heap.size, 0, none⟩ (.slice A1 2 c1)) := aa2
  clear hown' hgrow aa2
  go_wp2_with fail
  refine (HDC.out (w11.setCell ⟨w.heap.size, 0, none⟩ (.slice A1 2 c1))).mono ?_
  rintro e w2 ⟨rfl, hb2⟩
  have at2 := attr_below at2 hb2
  have AT := Lib.hid at2
  have ld : w.heap.size < w2.heap.size := World.block_lt_of_cell? _ _ at2.c0
  have e0 : ∀ o1 o2, ((w2.alloc o1).alloc o2).cell? ⟨w.heap.size, 0, none⟩ = some (.slice A1 2 c1) := fun _ _ => cell_al (cell_al at2.c0 _) _
  have e1 : ∀ o1 o2, ((w2.alloc o1).alloc o2).cell? ⟨w.heap.size, 1, none⟩ = some (.slice none 0 0) := fun _ _ => cell_al (cell_al at2.c1 _) _
  have hk : ∀ o1 o2, KVs (fun _ => True) ((w2.alloc o1).alloc o2) A1 [(⟨#[105, 99, 101, 45, 108, 105, 116, 101]⟩, ByteArray.empty), (⟨#[101, 120, 116, 109, 97, 112, 45, 97, 108, 108, 111, 119, 45, 109, 105, 120, 101, 100]⟩, ByteArray.empty)] := fun _ _ => (attr_kvs at2).keep ((Kp.alloc _ _).trans (Kp.alloc _ _))
  have hs : ∀ o1 o2, Spaces ((w2.alloc o1).alloc o2) := fun o1 o2 => HSP.out.below ((at2.bel.alloc at2.bel.size _).alloc (by have := at2.bel.size; simp; omega) _)
  have HK := Lib.hid hk
  have HS := Lib.hid hs
  clear hk hs
  go_wp2_with fail
  refine (HIC.out _ A1 c1 (HS.out _ _) (HK.out _ _)).mono ?_
  rintro e w3 ⟨rfl, hb3⟩
  have f0 : w3.cell? ⟨w.heap.size, 0, none⟩ = some (.slice A1 2 c1) := kp_of_below hb3 _ _ (e0 _ _)
  have f1 : w3.cell? ⟨w.heap.size, 1, none⟩ = some (.slice none 0 0) := kp_of_below hb3 _ _ (e1 _ _)
  have m0 : w3.cell? ⟨w2.heap.size + 1, 0, none⟩ = some (.string ⟨#[97, 112, 112, 108, 105, 99, 97, 116, 105, 111, 110]⟩) := kp_of_below hb3 _ _ (by simp [go_sem])
  have m1 : w3.cell? ⟨w2.heap.size + 1, 1, none⟩ = some (.slice none 0 0) := kp_of_below hb3 _ _ (by simp [go_sem])
  have m2 : w3.cell? ⟨w2.heap.size + 1, 2, none⟩ = some (.slice (some ⟨w2.heap.size, 0, none⟩) 1 1) := kp_of_below hb3 _ _ (by simp [go_sem])
  have q0 : w3.cell? ⟨w2.heap.size, 0, none⟩ = some (.string ⟨#[109, 97, 120, 45, 109, 101, 115, 115, 97, 103, 101, 45, 115, 105, 122, 101]⟩) := kp_of_below hb3 _ _ (by simp [go_sem])
  have q1 : w3.cell? ⟨w2.heap.size, 1, none⟩ = some (.string (dec n)) := kp_of_below hb3 _ _ (by simp [go_sem])
  have sp3 := Lib.hid ((HS.out _ _).below hb3)
  have kv3 := Lib.hid ((HK.out _ _).keep (kp_of_below hb3))
  have b3 : Below w.heap.size w w3 := ((at2.bel.alloc at2.bel.size _).alloc (by have := at2.bel.size; simp; omega) _).trans (hb3.mono (by have := at2.bel.size; simp; omega))
  clear at2 e0 e1
  go_wp2_with fail
  refine (HMC.out _ A1 c1 sp3.out kv3.out).mono ?_
  rintro e w4 ⟨rfl, hb4⟩
  have r0 := kp_of_below hb4 _ _ m0
  have r1 := kp_of_below hb4 _ _ m1
  have r2 := kp_of_below hb4 _ _ m2
  have s0 := kp_of_below hb4 _ _ q0
  have s1 := kp_of_below hb4 _ _ q1
  have sp4 := Lib.hid (sp3.out.below hb4)
  have b4 := below_step b3 b3.size hb4
  go_wp2_with fail
  refine (maxMessage_any w2.heap.size _ n _ hn sp4.out s0 s1).mono ?_
  rintro e w5 ⟨rfl, hb5⟩
  have b5 := below_step b4 b4.size hb5
  go_wp2_with (go_at_call 9; refine (works_any _).mono ?_; rintro e w6 ⟨rfl, hb6⟩)
  go_ret
  exact ⟨rfl, below_step b5 b5.size hb6⟩
end Go.Proofs.YtlbmjfjmbgbpeaaDoor
