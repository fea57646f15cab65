/- An extension's attribute, read. -/
import Derived.Test.YtlbmjfjmbgbpeaaDoorExtLaw
import Derived.Test.YtlbmjfjmbgbpeaaDoorShelfB
import Derived.Test.YtlbmjfjmbgbpeaaDoorSpaces
import Derived.Maps.OwnSet
namespace Go.Proofs.YtlbmjfjmbgbpeaaDoor
open Go.RowKit

set_option maxHeartbeats 400000 in
theorem parseURL_any (s : ByteArray) (w : World) : Calls Tryd.prog 126 #[.string s] w fun e w' => e = .returned (.tuple #[.pointer (some ⟨w.heap.size, 0, none⟩), .nilIface]) ∧ w' = w.alloc (.cells #[.string s] 220) := by
  go_enter Tryd.func126, Tryd.ntmps126
  go_wp2
  go_ret2
  exact ⟨rfl, rfl⟩

/-- What reading an extension leaves in its block. -/
def ExtDone (W : World) (eb n : Nat) (s : ByteArray) (w' : World) : Prop := ∃ w1 u, Below W.heap.size W w1 ∧ W.heap.size ≤ u ∧ w1.cell? ⟨u, 0, none⟩ = some (.string (uriOf s)) ∧
  w' = ((w1.setCell ⟨eb, 0, none⟩ (.int .i64 n)).setCell ⟨eb, 1, none⟩ (.int .i64 0)).setCell ⟨eb, 2, none⟩ (.pointer (some ⟨u, 0, none⟩))

set_option maxHeartbeats 4000000 in
set_option maxRecDepth 100000 in
theorem unmarshal_any (eb n : Nat) (s : ByteArray) (u0 u1 u2 : Value) (w : World) (hn1 : 1 ≤ n) (hn2 : n ≤ 246) (hs : wordB s = true) (hsp : Spaces w)
    (c0 : w.cell? ⟨eb, 0, none⟩ = some u0) (c1 : w.cell? ⟨eb, 1, none⟩ = some u1) (c2 : w.cell? ⟨eb, 2, none⟩ = some u2)
    (z0 : w.frozen? ⟨eb, 0, none⟩ = false) (z1 : w.frozen? ⟨eb, 1, none⟩ = false) (z2 : w.frozen? ⟨eb, 2, none⟩ = false) :
    Calls Tryd.prog 86 #[.pointer (some ⟨eb, 0, none⟩), .string (attrText ⟨#[101, 120, 116, 109, 97, 112]⟩ (extVal n s))] w fun e w' => e = .returned .nilIface ∧ ExtDone w eb n s w' := by
  have hsz := word_size hs
  have hdz := dec_size n
  have hez := extVal_size n s
  have haz := attrText_size ⟨#[101, 120, 116, 109, 97, 112]⟩ (extVal n s)
  have hk6 : (⟨#[101, 120, 116, 109, 97, 112]⟩ : ByteArray).size = 6 := rfl
  have h1 : ∀ w, Calls Tryd.prog 121 #[.string (attrText ⟨#[101, 120, 116, 109, 97, 112]⟩ (extVal n s)), .string ⟨#[58]⟩] w fun e w' => ∃ A k, e = .returned (.slice A 2 k) ∧ Strs (w.heap.size ≤ ·) w' A [⟨#[101, 120, 116, 109, 97, 112]⟩, extVal n s] ∧ Below w.heap.size w w' := fun w => by
    have := S.splitTwo_any (attrText ⟨#[101, 120, 116, 109, 97, 112]⟩ (extVal n s)) 58 6 w (by omega) (attr_index (by decide))
    rw [show (attrText ⟨#[101, 120, 116, 109, 97, 112]⟩ (extVal n s)).extract 0 6 = ⟨#[101, 120, 116, 109, 97, 112]⟩ from attr_key _ _, show (attrText ⟨#[101, 120, 116, 109, 97, 112]⟩ (extVal n s)).extract (6 + 1) (attrText ⟨#[101, 120, 116, 109, 97, 112]⟩ (extVal n s)).size = extVal n s from attr_val _ _] at this
    exact this
  have h2 : ∀ w, Spaces w → Calls Tryd.prog 122 #[.string (extVal n s)] w fun e w' => e = .returned (.slice (some ⟨w.heap.size, 0, none⟩) 2 2) ∧ w' = w.alloc (.cells #[.string (dec n), .string (uriOf s)] 9) := fun w hw => by
    have := Tryd.strings_Fields (extVal n s) w (by omega) (ext_ascii hs) hw
    rw [ext_fields hs] at this
    exact this
  have h3 : ∀ w, Calls Tryd.prog 123 #[.string (dec n), .string ⟨#[47]⟩] w fun e w' => ∃ A k, e = .returned (.slice A 1 k) ∧ Strs (w.heap.size ≤ ·) w' A [dec n] ∧ Below w.heap.size w w' := fun w => by
    have := S.split_any (dec n) 47 w (by omega)
    have e : piecesB 47 (dec n) = [dec n] := by
      unfold piecesB
      rw [pieces_whole 47 _ (dec_no (by decide))]
      simp
    rw [e] at this
    exact this
  have h4 : ∀ w, Calls Tryd.prog 124 #[.string (dec n), .int .i64 10, .int .i64 64] w fun e w' => e = .returned (.tuple #[.int .i64 n, .nilIface]) ∧ Below w.heap.size w w' := fun w =>
    (Tryd.strconv_ParseInt_10_at64_ok (dec n) (by omega) n (parseInt_dec n (by omega)) w).mono fun e w' ⟨he, hw⟩ => ⟨he, by rcases hw with rfl | ⟨t, rfl⟩; exact Below.refl _ _; exact below_bytes _ _ _⟩
  have H1 := Lib.hid h1
  have H2 := Lib.hid h2
  have H3 := Lib.hid h3
  have H4 := Lib.hid h4
  have HSP := Lib.hid hsp
  have le := World.block_lt_of_cell? _ _ c0
  have g1 : decide ((n : Int) < 1) = false := by simp; omega
  have g2 : decide ((246 : Int) < (n : Int)) = false := by simp; omega
  clear h1 h2 h3 h4 hsp hs hez haz
  generalize attrText ⟨#[101, 120, 116, 109, 97, 112]⟩ (extVal n s) = raw at H1 ⊢
  go_enter Tryd.func86, Tryd.ntmps86
  go_wp2_with (first
    | (go_at_call 121; refine (H1.out _).mono ?_; rintro e w1 ⟨A1, k1, rfl, hr1, hb1⟩; obtain ⟨b1, o1, rfl, _, p1⟩ := hr1 1 (extVal n s) rfl)
    | (go_at_call 122; refine (H2.out _ (HSP.out.below hb1)).mono ?_; rintro e w2 ⟨rfl, rfl⟩)
    | (go_at_call 123; refine (H3.out _).mono ?_; rintro e w3 ⟨A3, k3, rfl, hr3, hb3⟩; obtain ⟨b3, o3, rfl, _, p3⟩ := hr3 0 (dec n) rfl; simp only [Nat.add_zero] at p3; have q3 : w3.cell? ⟨w1.heap.size, 1, none⟩ = some (.string (uriOf s)) := (hb3.cell (by simp)).trans (by simp [go_sem]))
    | (go_at_call 124; refine (H4.out _).mono ?_; rintro e w4 ⟨rfl, hb4⟩; have q4 := kp_of_below hb4 _ _ q3; have s1 := hb1.size; have s3 := hb3.size; have s4 := hb4.size; have B4 : Below w.heap.size w w4 := below_step (((hb1.alloc s1 _)).trans (hb3.mono (by simp; omega))) (by simp at s3; omega) hb4)
    | (go_at_call 126; refine (parseURL_any (uriOf s) _).mono ?_; rintro e w5 ⟨rfl, rfl⟩; have B5 := Lib.hid (B4.alloc (by simp at s3; omega) (.cells #[.string (uriOf s)] 220)); have c05 := B5.out.cell (p := ⟨eb, 0, none⟩) le |>.trans c0; have c15 := B5.out.cell (p := ⟨eb, 1, none⟩) le |>.trans c1; have c25 := B5.out.cell (p := ⟨eb, 2, none⟩) le |>.trans c2; have z05 := B5.out.frozen (p := ⟨eb, 0, none⟩) le |>.trans z0; have z15 := B5.out.frozen (p := ⟨eb, 1, none⟩) le |>.trans z1; have z25 := B5.out.frozen (p := ⟨eb, 2, none⟩) le |>.trans z2))
  go_ret
  refine ⟨rfl, w4.alloc (.cells #[.string (uriOf s)] 220), w4.heap.size, B5.out, ?_, by simp [go_sem], rfl⟩
  simp at s3
  omega

/-- What is known behind the reading of an extension. -/
theorem ext_after {W w' : World} {eb n : Nat} {s : ByteArray} {u0 u2 : Value} (h : ExtDone W eb n s w') (c0 : W.cell? ⟨eb, 0, none⟩ = some u0) (c2 : W.cell? ⟨eb, 2, none⟩ = some u2) :
    w'.cell? ⟨eb, 0, none⟩ = some (.int .i64 n) ∧ (∃ u, w'.cell? ⟨eb, 2, none⟩ = some (.pointer (some ⟨u, 0, none⟩)) ∧ w'.cell? ⟨u, 0, none⟩ = some (.string (uriOf s))) ∧ (∀ B, B ≤ eb → Below B W w') ∧
    (∀ {H : Type} {k : TypeId} {R : Value → Option (DataW H × List MemPlace)} {b m : Nat} {D : DataW H}, W.ownsMap Tryd.prog k R b m D → b ≠ eb → w'.ownsMap Tryd.prog k R b m D) := by
  obtain ⟨w1, u, hb, hu, cu, rfl⟩ := h
  have le := World.block_lt_of_cell? _ _ c0
  have d0 := kp_of_below hb _ _ c0
  have d2 := kp_of_below hb _ _ c2
  have lt : eb < W.heap.size := le
  have hne : ∀ j, (⟨u, 0, none⟩ : Addr) ≠ ⟨eb, j, none⟩ := fun j e => by injection e with e; omega
  refine ⟨?_, ⟨u, ?_, ?_⟩, fun B hB => ?_, fun hm hbe => ?_⟩
  · rw [World.cell?_setCell_other _ _ _ _ (fun e => by simp at e), World.cell?_setCell_other _ _ _ _ (fun e => by simp at e)]
    exact World.cell?_setCell_same _ _ _ d0
  · have e2 : ((w1.setCell ⟨eb, 0, none⟩ (.int .i64 n)).setCell ⟨eb, 1, none⟩ (.int .i64 0)).cell? ⟨eb, 2, none⟩ = some u2 := by
      rw [World.cell?_setCell_other _ _ _ _ (fun e => by simp at e), World.cell?_setCell_other _ _ _ _ (fun e => by simp at e)]
      exact d2
    exact World.cell?_setCell_same _ _ _ e2
  · rw [World.cell?_setCell_other _ _ _ _ (fun e => hne _ e.symm), World.cell?_setCell_other _ _ _ _ (fun e => hne _ e.symm), World.cell?_setCell_other _ _ _ _ (fun e => hne _ e.symm)]
    exact cu
  · exact (((hb.mono (by omega)).setCell hB _).setCell hB _).setCell hB _
  · exact (((hm.kept (grown_of_below hb none) (by simp)).setCell hbe _).setCell hbe _).setCell hbe _
end Go.Proofs.YtlbmjfjmbgbpeaaDoor
