/- The package's reading of a medium's extensions: a map that the call makes. -/
import Derived.Test.YtlbmjfjmbgbpeaaDoorUnmarshal
import Derived.Test.YtlbmjfjmbgbpeaaDoorMedium
import Derived.StillTailTactics
namespace Go.Proofs.YtlbmjfjmbgbpeaaDoor
open Go.RowKit Go.WideMaps Go.Maps

theorem Tryd.keyedX : Keyed Tryd.prog 9 := string_keyed Tryd.underlying9
/-- The attributes of extensions, numbers from first on. -/
def extAttrs (first : Nat) : List ByteArray → List KV
  | [] => []
  | s :: r => (⟨#[101, 120, 116, 109, 97, 112]⟩, extVal first s) :: extAttrs (first + 1) r
theorem extAttrs_length : ∀ (l : List ByteArray) (first : Nat), (extAttrs first l).length = l.length
  | [], _ => rfl
  | s :: r, first => by simp [extAttrs, extAttrs_length r]
theorem extAttrs_get : ∀ (l : List ByteArray) (first k : Nat) (hk : k < l.length), (extAttrs first l)[k]? = some (⟨#[101, 120, 116, 109, 97, 112]⟩, extVal (first + k) l[k])
  | [], _, k, hk => absurd hk (Nat.not_lt_zero _)
  | s :: r, first, 0, _ => rfl
  | s :: r, first, k + 1, hk => by
    have := extAttrs_get r (first + 1) k (by simpa using hk)
    rw [show first + (k + 1) = first + 1 + k by omega]
    simpa [extAttrs] using this
/-- What the map of extensions holds behind k attributes. -/
def extAt (H : Type) (first : Nat) (l : List ByteArray) : Nat → DataW H
  | 0 => .map []
  | k + 1 => (extAt H first l k).put (.string (uriOf (l.getD k ⟨#[]⟩)).data.toList) (.lit (.int .i64 ((first + k : Nat) : Int)))

set_option maxHeartbeats 400000 in
theorem urlString_any (u : Nat) (s : ByteArray) (w : World) (c0 : w.cell? ⟨u, 0, none⟩ = some (.string s)) : Calls Tryd.prog 88 #[.pointer (some ⟨u, 0, none⟩)] w fun e w' => e = .returned (.string s) ∧ w' = w := by
  go_enter Tryd.func88, Tryd.ntmps88
  go_wp2
  go_ret
  exact ⟨rfl, rfl⟩

set_option maxHeartbeats 4000000 in
set_option maxRecDepth 100000 in
theorem exts_any {H : Type} {D : Nat → Prop} (p first : Nat) (kind : ByteArray) (fs : List ByteArray) (l : List ByteArray) (w : World) (hf : 1 ≤ first) (hl : first + l.length ≤ 246) (hw : ∀ s ∈ l, wordB s = true) (hsp : Spaces w) (h : MD D w p kind fs (extAttrs first l)) :
    Calls Tryd.prog 73 #[.pointer (some ⟨p, 0, none⟩)] w fun e w' => e = .returned (.tuple #[.map (some w.heap.size), .nilIface]) ∧ w'.ownsMap Tryd.prog 9 (plainElem (H := H) Tryd.prog 3) w.heap.size l.length (extAt H first l l.length) ∧ Below w.heap.size w w' := by
  obtain ⟨_, _, _, A, c, h9, hkv⟩ := h
  have HKV := Lib.hid hkv
  have HW := Lib.hid hw
  have HSP := Lib.hid hsp
  have hel := extAttrs_length l first
  have HEL := Lib.hid hel
  have lp := World.block_lt_of_cell? _ _ h9
  clear hkv hw hsp hel
  rw [HEL.out] at h9
  have hmm := @run_makeMap Tryd.prog
  go_enter Tryd.func73, Tryd.ntmps73
  go_wp2
  go_loopw [15] (fun i wr => ∃ k : Nat, k ≤ l.length ∧ i = .int .i64 k ∧ wr.ownsMap Tryd.prog 9 (plainElem (H := H) Tryd.prog 3) w.heap.size k (extAt H first l k) ∧ Below w.heap.size w wr ∧ w.heap.size < wr.heap.size) (fun i _ => l.length - (intOf i).toNat)
  case atStart => exact ⟨0, Nat.zero_le _, rfl, World.ownsMap_made w _ _ _, (Below.refl _ _).alloc (Nat.le_refl _) _, by simp⟩
  case round =>
    obtain ⟨wo, rfl⟩ : ∃ wo : World, wo = wr := ⟨_, rfl⟩
    obtain ⟨k, hk, rfl, hown, hb, hgt⟩ := hrel
    have HOWN := Lib.hid hown
    clear hown
    by_cases hlt : k < l.length
    · obtain ⟨b, o, rfl, _, c0, c1⟩ := HKV.out k _ (extAttrs_get l first k hlt)
      have d0 := kp_of_below hb _ _ c0
      have d1 := kp_of_below hb _ _ c1
      have hwk := HW.out _ (List.getElem_mem hlt)
      have hzw := word_size hwk
      have hez := extVal_size (first + k) l[k]
      have hdz := dec_size (first + k)
      have e1 : extAt H first l (k + 1) = (extAt H first l k).put (.string (uriOf l[k]).data.toList) (.lit (.int .i64 ((first + k : Nat) : Int))) := by
        show (extAt H first l k).put (.string (uriOf (l.getD k ⟨#[]⟩)).data.toList) _ = _
        rw [List.getD_eq_getElem?_getD, List.getElem?_eq_getElem hlt]; rfl
      have E1 := Lib.hid e1
      have huz := uriOf_size l[k]
      have HST : Hid (∀ w, Calls Tryd.prog 87 #[.agg #[.string ⟨#[101, 120, 116, 109, 97, 112]⟩, .string (extVal (first + k) l[k])]] w fun e w' => e = .returned (.string (attrText ⟨#[101, 120, 116, 109, 97, 112]⟩ (extVal (first + k) l[k]))) ∧ Below w.heap.size w w') := Lib.hid fun w => attrString_any _ _ w (by decide) (by omega) (by omega)
      have HUM := Lib.hid (fun (eb : Nat) (u0 u1 u2 : Value) w hs a0 a1 a2 b0 b1 b2 => unmarshal_any eb (first + k) l[k] u0 u1 u2 w (by omega) (by omega) hwk hs a0 a1 a2 b0 b1 b2)
      have hkey : keyOf Tryd.prog 9 (.string (uriOf l[k])) = some (.string (uriOf l[k]).data.toList) := keyOf_string_mk Tryd.underlying9 (by unfold maxLen; omega)
      have HKEY := Lib.hid hkey
      clear hwk hez hdz e1 huz hkey c0 c1
      generalize l[k] = s at d1 HST HUM HKEY E1 hzw
      generalize extVal (first + k) s = ev at d1 HST HUM
      go_wp2_with (first
        | (go_at_call 87; refine (HST.out _).mono ?_; rintro e w1 ⟨rfl, hb1⟩; have s1 := hb1.size; have f0 : w1.cell? ⟨wo.heap.size + 1, 0, none⟩ = some (.int .i64 0) := (hb1.cell (by simp)).trans (by simp [go_sem]); have f1 : w1.cell? ⟨wo.heap.size + 1, 1, none⟩ = some (.int .i64 0) := (hb1.cell (by simp)).trans (by simp [go_sem]); have f2 : w1.cell? ⟨wo.heap.size + 1, 2, none⟩ = some (.pointer none) := (hb1.cell (by simp)).trans (by simp [go_sem]); have y0 : w1.frozen? ⟨wo.heap.size + 1, 0, none⟩ = false := (hb1.frozen (by simp)).trans (by simp [go_sem]); have y1 : w1.frozen? ⟨wo.heap.size + 1, 1, none⟩ = false := (hb1.frozen (by simp)).trans (by simp [go_sem]); have y2 : w1.frozen? ⟨wo.heap.size + 1, 2, none⟩ = false := (hb1.frozen (by simp)).trans (by simp [go_sem]); have B1 : Below w.heap.size w w1 := (((hb.alloc hb.size _).alloc (by simp; have := hb.size; omega) _).trans (hb1.mono (by simp; have := hb.size; omega))); have M1 := (HOWN.out.alloc _).alloc _ |>.kept (grown_of_below hb1 none) (by simp))
        | (go_at_call 86; refine (HUM.out (wo.heap.size + 1) _ _ _ _ (HSP.out.below B1) f0 f1 f2 y0 y1 y2).mono ?_; rintro e w2 ⟨rfl, hd⟩; obtain ⟨g0, ⟨u, g2, gu⟩, gb, gm⟩ := ext_after hd f0 f2; have B2 := Lib.hid (B1.trans (gb w.heap.size (by have := hb.size; omega))); have M2 := Lib.hid (gm M1 (by omega)); clear gb gm M1))
      have gu' : w2.drew.cell? ⟨u, 0, none⟩ = some (.string (uriOf s)) := gu
      refine wp_region_still_tail 6 (by kernel_rfl) (by kernel_rfl) ?_
      simp only [List.take_succ_cons, List.take_zero, List.drop_succ_cons, List.drop_zero]
      change wpStill _ _ w2.drew _ _ _
      still_step
      still_step
      still_step
      still_call (urlString_any u (uriOf s) _ gu')
      still_step
      still_step
      refine wpStill_nil ?_
      change wpList _ _ _ _ _ w2.drew
      go_wp2_with (at_mapUpdate; refine wpList_mapUpdate_own _ rfl _ _ _ 106 rfl 9 3 Tryd.keyedX Tryd.underlying106 _ w.heap.size k _ rfl M2.out.drew (by unfold maxLen; omega) _ _ _ rfl rfl HKEY.out _ [] (plainElem_int Tryd.underlying3 (WalkArith.wf_i64 (by omega))) ?_; intro w5 hown5 hgrow5)
      have hs2 := B2.out.size
      have lm : w.heap.size < w2.heap.size := M2.out.lt
      have own5 : w5.ownsMap Tryd.prog 9 (plainElem (H := H) Tryd.prog 3) w.heap.size (k + 1) (extAt H first l (k + 1)) := by rw [E1.out]; exact hown5
      have bel5 : Below w.heap.size w w5 := B2.out.drew.grown hgrow5 (by simp; omega) (fun j hj => by cases hj; exact Nat.le_refl _)
      have hgt5 : w.heap.size < w5.heap.size := own5.lt
      have G1 := Lib.hid own5
      have G2 := Lib.hid bel5
      clear own5 bel5 hown5 hgrow5 d0 d1
      go_wp2
      go_roundw
      case rel => exact ⟨k + 1, by omega, by go_num, G1.out, G2.out, hgt5⟩
      case measure => simp [intOf]; omega
    · obtain rfl : k = l.length := by omega
      go_wp2
      go_ret2
      exact ⟨rfl, HOWN.out, hb⟩
end Go.Proofs.YtlbmjfjmbgbpeaaDoor
