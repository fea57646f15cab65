/- The thin package's parameters of a line: the line's pairs, keys in small letters. -/
import Derived.Test.YtlbmjfjmbgbpeaaDoorPairsLaw
import Derived.Test.YtlbmjfjmbgbpeaaDoorMid
namespace Go.Proofs.YtlbmjfjmbgbpeaaDoor
open Go.RowKit Go.Maps

/-- The parameters of a line, keys in small letters. -/
def smallKeys (l : List KV) : List KV := l.map fun p => (small p.1, p.2)
theorem smallKeys_length (l : List KV) : (smallKeys l).length = l.length := by simp [smallKeys]

set_option maxHeartbeats 400000 in
theorem zzParams_any {H : Type} (l : List KV) (blank : Bool) (w : World) (hne : 0 < l.length) (hl : l.length ≤ 8) (hz : (lineOf blank l).size ≤ 4294967296) (hw : ∀ p ∈ l, wordB p.1 = true ∧ wordB p.2 = true) (hsp : Spaces w) :
    Calls Tryd.prog 54 #[.string (lineOf blank l)] w fun e w' => e = .returned (.map (some w.heap.size)) ∧ w'.ownsMap Tryd.prog 9 (plainElem (H := H) Tryd.prog 9) w.heap.size l.length (mapAt H l l.length) ∧ Below w.heap.size w w' := by
  have H1 := Lib.hid (parse_any (H := H) l blank w hne hl hz hw hsp)
  clear hw hsp hz
  generalize lineOf blank l = line at H1 ⊢
  go_enter Tryd.func54, Tryd.ntmps54
  go_wp2_with (go_at_call 72; refine H1.out.mono ?_; rintro e w1 ⟨rfl, hm, hb⟩)
  go_ret
  exact ⟨rfl, hm, hb⟩

/-- What Params' function leaves: the parameters in the variable in block b, all else new. -/
def ParamsDone (W : World) (b : Nat) (res : List KV) (r : Bool) (w' : World) : Prop := r = true ∧ ∃ w1 A k, Below W.heap.size W w1 ∧ KVs (W.heap.size ≤ ·) w1 A res ∧ w' = w1.setCell ⟨b, 0, none⟩ (.slice A res.length k)

set_option maxHeartbeats 1000000 in
theorem params1_any (lb ob : Nat) (u : Value) (l : List KV) (blank : Bool) (w : World) (hne : 0 < l.length) (hl : l.length ≤ 8) (hz : (lineOf blank l).size ≤ 4294967296) (hw : ∀ p ∈ l, wordB p.1 = true ∧ wordB p.2 = true) (hr : (l.map keyL).Pairwise (· < ·)) (hsp : Spaces w)
    (c0 : w.cell? ⟨lb, 0, none⟩ = some (.string (lineOf blank l))) (co : w.cell? ⟨ob, 0, none⟩ = some u) (zo : w.frozen? ⟨ob, 0, none⟩ = false) :
    Calls Tryd.prog 52 #[.pointer (some ⟨lb, 0, none⟩), .pointer (some ⟨ob, 0, none⟩)] w fun e w' => e = .returned (.bool true) ∧ ParamsDone w ob (smallKeys l) true w' := by
  have H1 := Lib.hid (zzParams_any (H := Unit) l blank w hne hl hz hw hsp)
  have H2 : ∀ w1 : World, w1.ownsMap Tryd.prog 9 (plainElem (H := Unit) Tryd.prog 9) w.heap.size l.length (mapAt Unit l l.length) → Calls Tryd.prog 53 #[.map (some w.heap.size)] w1 fun e w' => ∃ A c, e = .returned (.slice A (smallKeys l).length c) ∧ KVs (w1.heap.size ≤ ·) w' A (smallKeys l) ∧ Below w1.heap.size w1 w' := fun w1 hm => by
    have := pairsFn_any w.heap.size l.length (mapAt Unit l l.length) w1 hm (by have := size_mapAt hm; omega)
    rw [pairsOf_mapAt Tryd.keyedS Tryd.underlying9 hm hr] at this
    exact this
  have H3 := Lib.hid H2
  have lo : ob < w.heap.size := World.block_lt_of_cell? _ _ co
  clear hw hsp hz H2 hr
  generalize lineOf blank l = line at H1 c0
  generalize smallKeys l = res at H3 ⊢
  go_enter Tryd.func52, Tryd.ntmps52
  go_wp2_with (first
    | (go_at_call 54; refine H1.out.mono ?_; rintro e w1 ⟨rfl, hm, hb1⟩)
    | (go_at_call 53; refine (H3.out _ hm).mono ?_; rintro e w2 ⟨A, c, rfl, hk, hb2⟩; have s1 := hb1.size; have s2 := hb2.size; have co2 : w2.cell? ⟨ob, 0, none⟩ = some u := kp_of_below hb2 _ _ (kp_of_below hb1 _ _ co); have zo2 : w2.frozen? ⟨ob, 0, none⟩ = false := (hb2.frozen (by simp; omega)).trans ((hb1.frozen (by simp; omega)).trans zo)))
  go_ret
  exact ⟨rfl, rfl, w2, A, c, below_step hb1 s1 hb2, hk.wide fun b hb _ => by have hb : _ ≤ b := hb; show _ ≤ b; omega, rfl⟩

theorem Tryd.enterParams1 (cap : Array Value) (w : World) : Sem.run Tryd.prog (callFunc 52 cap) w = .ok (.enter 52 cap) w := by kernel_rfl

set_option maxHeartbeats 1000000 in
theorem paramsFn_any (l : List KV) (blank : Bool) (w : World) (hne : 0 < l.length) (hl : l.length ≤ 8) (hz : (lineOf blank l).size ≤ 4294967296) (hw : ∀ p ∈ l, wordB p.1 = true ∧ wordB p.2 = true) (hr : (l.map keyL).Pairwise (· < ·)) (hsp : Spaces w) :
    Calls Tryd.prog 27 #[.string (lineOf blank l)] w fun e w' => ∃ A c, e = .returned (.slice A (smallKeys l).length c) ∧ KVs (w.heap.size ≤ ·) w' A (smallKeys l) ∧ Below w.heap.size w w' := by
  have hmf : ∀ (fn : Fn) (first cap : Array Value) (w : World), (Instr.makeFunc fn first cap).run Tryd.prog w = .ok (.func fn first cap) w := fun _ _ _ _ => rfl
  have hg0 : ∀ w0, Spaces w0 → ∀ (lb ob : Nat) (u : Value), w0.cell? ⟨lb, 0, none⟩ = some (.string (lineOf blank l)) → w0.cell? ⟨ob, 0, none⟩ = some u → w0.frozen? ⟨ob, 0, none⟩ = false →
      Calls Tryd.prog 52 #[.pointer (some ⟨lb, 0, none⟩), .pointer (some ⟨ob, 0, none⟩)] w0 fun e w' => e = .returned (.bool true) ∧ ParamsDone w0 ob (smallKeys l) true w' := fun w0 hs lb ob u h1 h2 h3 => params1_any lb ob u l blank w0 hne hl hz hw hr hs h1 h2 h3
  generalize lineOf blank l = line at hg0 ⊢
  generalize smallKeys l = res at hg0 ⊢
  have hg : Calls Tryd.prog 52 #[.pointer (some ⟨w.heap.size, 0, none⟩), .pointer (some ⟨w.heap.size + 1, 0, none⟩)] (((w.alloc (.cells #[.string line] 9)).alloc (.cells #[.slice none 0 0] 27)).alloc (.cells #[.bool false] 4)) fun e w' => ∃ b, e = .returned (.bool b) ∧
      ParamsDone (((w.alloc (.cells #[.string line] 9)).alloc (.cells #[.slice none 0 0] 27)).alloc (.cells #[.bool false] 4)) (w.heap.size + 1) res b w' ∧ w'.cell? ⟨((w.alloc (.cells #[.string line] 9)).alloc (.cells #[.slice none 0 0] 27)).heap.size, 0, none⟩ = some (.bool false) ∧ w'.frozen? ⟨((w.alloc (.cells #[.string line] 9)).alloc (.cells #[.slice none 0 0] 27)).heap.size, 0, none⟩ = false := by
    have b3 : Below w.heap.size w (((w.alloc (.cells #[.string line] 9)).alloc (.cells #[.slice none 0 0] 27)).alloc (.cells #[.bool false] 4)) := (((Below.refl _ _).alloc (Nat.le_refl _) _).alloc (by simp) _).alloc (by simp; omega) _
    refine (hg0 _ (hsp.below b3) w.heap.size (w.heap.size + 1) (.slice none 0 0) (by simp [go_sem]) (by simp [go_sem]) (by simp [go_sem])).mono ?_
    rintro e w' ⟨rfl, _, w1, A, k, hb, hk, rfl⟩
    refine ⟨true, rfl, ⟨rfl, w1, A, k, hb, hk, rfl⟩, ?_, ?_⟩
    · rw [World.cell?_setCell_other _ _ _ _ (fun e => by simp at e), hb.cell (by simp)]
      simp [go_sem]
    · rw [World.frozen?_setCell, hb.frozen (by simp)]
      simp [go_sem]
  have HG := Lib.hid hg
  clear hg hsp hg0 hw hr hz
  go_enter Tryd.func27, Tryd.ntmps27
  go_wp2_with (go_at_call 35; refine (try_any _ _ _ _ (Tryd.enterParams1 _) HG).mono ?_; rintro e w' ⟨b, w1, rfl, ⟨rfl, w2, A, k, hb, hk, rfl⟩, rfl⟩; have hc2 : w2.cell? ⟨w.heap.size + 1, 0, none⟩ = some (.slice none 0 0) := (hb.cell (by simp)).trans (by simp [go_sem]); have hz2 : w2.frozen? ⟨w.heap.size + 1, 0, none⟩ = false := (hb.frozen (by simp)).trans (by simp [go_sem]))
  have hb0 : Below w.heap.size w w2 := (((((Below.refl w.heap.size w).alloc (Nat.le_refl _) _).alloc (by simp) _).alloc (by simp; omega) _).trans (hb.mono (by simp; omega)))
  have r1 := hk.wide (D' := fun b => w.heap.size + 3 ≤ b) fun b hb _ => by have hb : _ ≤ b := hb; simp at hb; omega
  have kk : KpOn (fun b => w.heap.size + 3 ≤ b) w2 (((w2.setCell ⟨w.heap.size + 1, 0, none⟩ (.slice A res.length k)).setCell ⟨w.heap.size + 1 + 1, 0, none⟩ (.bool true)).setCell ⟨w.heap.size + 1, 0, none⟩ (.slice A res.length k)) :=
    (((KpOn.refl _ w2).setCell (by simp; try omega) _).setCell (by simp; try omega) _).setCell (by simp; try omega) _
  have g1 : (w2.setCell ⟨w.heap.size + 1, 0, none⟩ (.slice A res.length k)).cell? ⟨w.heap.size + 1, 0, none⟩ = some (.slice A res.length k) := World.cell?_setCell_same _ _ _ hc2
  have f1 : (((w2.setCell ⟨w.heap.size + 1, 0, none⟩ (.slice A res.length k)).setCell ⟨w.heap.size + 1 + 1, 0, none⟩ (.bool true)).setCell ⟨w.heap.size + 1, 0, none⟩ (.slice A res.length k)).cell? ⟨w.heap.size + 1, 0, none⟩ = some (.slice A res.length k) := World.cell?_setCell_same _ _ _ ((World.cell?_setCell_other _ _ _ _ (fun e => by simp at e)).trans g1)
  have bel : Below w.heap.size w (((w2.setCell ⟨w.heap.size + 1, 0, none⟩ (.slice A res.length k)).setCell ⟨w.heap.size + 1 + 1, 0, none⟩ (.bool true)).setCell ⟨w.heap.size + 1, 0, none⟩ (.slice A res.length k)) := ((hb0.setCell (by simp; try omega) _).setCell (by simp; try omega) _).setCell (by simp; try omega) _
  refine bodyPost_ret (v := .slice A res.length k) (by simp [results, Tryd.results27, go_sem, f1]) rfl ⟨A, k, rfl, ?_, bel⟩
  exact (r1.keepOn kk).wide fun b hb _ => by have hb : _ ≤ b := hb; show _ ≤ b; omega
end Go.Proofs.YtlbmjfjmbgbpeaaDoor
