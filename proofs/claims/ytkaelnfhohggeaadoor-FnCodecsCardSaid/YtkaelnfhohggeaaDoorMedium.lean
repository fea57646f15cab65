/- The thin package's converter of a medium: a new medium of the package with the same kind, formats and attributes. -/
import Derived.Test.YtkaelnfhohggeaaDoorAttrs
import Derived.Test.YtkaelnfhohggeaaDoorClone
import Derived.Deep.RegionHeld3
import Derived.Deep.DrawnRows
namespace Go.Proofs.YtkaelnfhohggeaaDoor
open Go.RowKit

/-- Block p is a medium of the package with this kind, these formats and these attributes; all that it leads to lies in blocks of D. -/
def MD (D : Nat → Prop) (w : World) (p : Nat) (kind : ByteArray) (fs : List ByteArray) (ats : List KV) : Prop :=
  D p ∧ w.cell? ⟨p, 0, none⟩ = some (.string kind) ∧ (∃ A c, w.cell? ⟨p, 4, none⟩ = some (.slice A fs.length c) ∧ Strs D w A fs) ∧ ∃ A c, w.cell? ⟨p, 9, none⟩ = some (.slice A ats.length c) ∧ KVs D w A ats
section
variable {D D' : Nat → Prop} {w w' : World} {p : Nat} {kind : ByteArray} {fs : List ByteArray} {ats : List KV}
theorem MD.keepOn (h : MD D w p kind fs ats) (k : KpOn D w w') : MD D w' p kind fs ats :=
  let ⟨hd, h0, ⟨A, c, h1, h2⟩, B, d, h3, h4⟩ := h
  ⟨hd, k _ _ hd h0, ⟨A, c, k _ _ hd h1, h2.keepOn k⟩, B, d, k _ _ hd h3, h4.keepOn k⟩
theorem MD.keep (h : MD D w p kind fs ats) (k : Kp w w') : MD D w' p kind fs ats := h.keepOn (k.on D)
theorem MD.wide (h : MD D w p kind fs ats) (k : ∀ b, D b → b < w.heap.size → D' b) : MD D' w p kind fs ats :=
  let ⟨hd, h0, ⟨A, c, h1, h2⟩, B, d, h3, h4⟩ := h
  ⟨k p hd (World.block_lt_of_cell? _ _ h0), h0, ⟨A, c, h1, h2.wide k⟩, B, d, h3, h4.wide k⟩
end

attribute [local go_sem ↓] Go.wp_at_zero Go.wp_at_succ

set_option maxHeartbeats 1000000 in
theorem medium_any {D D' : Nat → Prop} (kind : ByteArray) (fA aA : Option Addr) (fc ac : Nat) (fs : List ByteArray) (ats : List KV) (w : World) (hfs : fs.length * 16 ≤ 140737488355328) (hats : ats.length * 32 ≤ 140737488355328)
    (hf : Strs D w fA fs) (ha : KVs D' w aA ats) :
    Calls Tryd.prog 18 #[.agg #[.string kind, .slice fA fs.length fc, .slice aA ats.length ac]] w fun e w' => ∃ p, e = .returned (.pointer (some ⟨p, 0, none⟩)) ∧ MD (w.heap.size ≤ ·) w' p kind fs ats ∧ Below w.heap.size w w' := by
  have HF := Lib.hid hf
  have HA := Lib.hid ha
  clear hf ha
  go_enter Tryd.func18, Tryd.ntmps18
  go_wp2_with fail
  go_region_held3 (fun w' => w'.cell? ⟨w.heap.size, 0, none⟩ = some (.string kind) ∧ w'.cell? ⟨w.heap.size, 1, none⟩ = some (.slice fA fs.length fc) ∧ w'.cell? ⟨w.heap.size, 2, none⟩ = some (.slice aA ats.length ac))
    (first
      | go_keep
      | (go_split_ands; refine ⟨?_, ?_, ?_⟩ <;> (rw [hb1.cell (by simp)]; assumption))
      | (go_split_ands; refine ⟨?_, ?_, ?_⟩ <;> (rw [hb2.cell (by have := hb1.size; simp at this ⊢; omega)]; assumption)))
    (first
      | (go_at_call 24; refine (clone_strs (D := D) fA fc fs _ hfs ?_).mono ?_; (exact HF.out.keep (fun p v hp => (Kp.alloc _ _ _ _ hp))); rintro e w1 ⟨A1, c1, rfl, hr1, hb1⟩)
      | (go_at_call 25; refine (attributes_any (D := D') aA ac ats _ hats ?_).mono ?_; (exact (HA.out.keep (fun p v hp => (Kp.alloc _ _ _ _ hp))).keep (fun p v hp => kp_of_below hb1 _ _ hp)); rintro e w2 ⟨A2, c2, rfl, hr2, hb2⟩))
  have s1 := hb1.size
  have s2 := hb2.size
  simp at s1
  go_wp2
  go_ret
  have k1 := (hr1.keep (kp_of_below hb2)).keep (Kp.alloc w2 (Obj.cells #[Value.string kind, Value.int IntKind.i64 0, Value.pointer none, Value.slice none 0 0, Value.slice A1 fs.length c1, Value.pointer none, Value.pointer none, Value.slice none 0 0, Value.pointer none, Value.slice A2 ats.length c2] 80))
  have k2 := hr2.keep (Kp.alloc w2 (Obj.cells #[Value.string kind, Value.int IntKind.i64 0, Value.pointer none, Value.slice none 0 0, Value.slice A1 fs.length c1, Value.pointer none, Value.pointer none, Value.slice none 0 0, Value.pointer none, Value.slice A2 ats.length c2] 80))
  refine ⟨_, rfl, ⟨by show w.heap.size ≤ w2.heap.size; omega, by simp [go_sem], ⟨A1, c1, by simp [go_sem], k1.wide (fun b hb _ => by have hb : _ ≤ b := hb; simp at hb; omega)⟩, A2, c2, by simp [go_sem], k2.wide (fun b hb _ => by have hb : _ ≤ b := hb; omega)⟩, ?_⟩
  exact ((((Below.refl w.heap.size w).alloc (Nat.le_refl _) _).drew.trans (hb1.mono (by simp))).trans (hb2.mono (by omega))).alloc (by omega) _
end Go.Proofs.YtkaelnfhohggeaaDoor
