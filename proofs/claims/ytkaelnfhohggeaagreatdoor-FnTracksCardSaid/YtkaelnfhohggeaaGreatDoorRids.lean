/- The restriction identifiers of a medium without an attribute 'simulcast': the first words of its attributes 'rid', none paused. -/
import Derived.Test.YtkaelnfhohggeaaGreatDoorDescr
import Derived.Test.YtkaelnfhohggeaaGreatDoorText
namespace Go.Proofs.YtkaelnfhohggeaaGreatDoor
open Go.RowKit

/-- The first words of the attributes 'rid'. -/
def ridsOf (l : List KV) : List ByteArray := (l.filter fun p => p.1.toList == [114, 105, 100]).map fun p => (piecesB 32 p.2).headD ⟨#[]⟩
theorem ridsOf_hit {l : List KV} {k : Nat} (hk : k < l.length) (h : (l[k].1.toList == [114, 105, 100]) = true) : ridsOf (l.take (k + 1)) = ridsOf (l.take k) ++ [(piecesB 32 l[k].2).headD ⟨#[]⟩] := by
  rw [List.take_succ_eq_append_getElem hk]
  simp only [ridsOf, List.filter_append, List.map_append, List.filter_cons, h, if_true, List.filter_nil, List.map_cons, List.map_nil]
theorem ridsOf_miss {l : List KV} {k : Nat} (hk : k < l.length) (h : (l[k].1.toList == [114, 105, 100]) = false) : ridsOf (l.take (k + 1)) = ridsOf (l.take k) := by
  rw [List.take_succ_eq_append_getElem hk]
  simp only [ridsOf, List.filter_append, List.filter_cons, h, List.filter_nil, List.append_nil, if_false, Bool.false_eq_true]
theorem ridsOf_length (l : List KV) : (ridsOf l).length ≤ l.length := by
  simp only [ridsOf, List.length_map]
  exact List.length_filter_le _ _

/-- These blocks are identifiers that are not paused. -/
def RidPtrs (D : Nat → Prop) (w : World) (ps : List Nat) (ids : List ByteArray) : Prop :=
  ps.length = ids.length ∧ ∀ (k p : Nat) id, ps[k]? = some p → ids[k]? = some id → D p ∧ w.cell? ⟨p, 0, none⟩ = some (.string id) ∧ w.cell? ⟨p, 2, none⟩ = some (.bool false)
section
variable {D D' : Nat → Prop} {w w' : World} {ps : List Nat} {ids : List ByteArray}
theorem RidPtrs.keepOn (h : RidPtrs D w ps ids) (k : KpOn D w w') : RidPtrs D w' ps ids := ⟨h.1, fun i p id hp hi => let ⟨hd, a, b⟩ := h.2 i p id hp hi; ⟨hd, k _ _ hd a, k _ _ hd b⟩⟩
theorem RidPtrs.keep (h : RidPtrs D w ps ids) (k : Kp w w') : RidPtrs D w' ps ids := h.keepOn (k.on D)
theorem RidPtrs.wide (h : RidPtrs D w ps ids) (k : ∀ b, D b → b < w.heap.size → D' b) : RidPtrs D' w ps ids := ⟨h.1, fun i p id hp hi => let ⟨hd, a, b⟩ := h.2 i p id hp hi; ⟨k p hd (World.block_lt_of_cell? _ _ a), a, b⟩⟩
theorem RidPtrs.snoc (h : RidPtrs D w ps ids) {q : Nat} {id : ByteArray} (hd : D q) (h0 : w.cell? ⟨q, 0, none⟩ = some (.string id)) (h2 : w.cell? ⟨q, 2, none⟩ = some (.bool false)) : RidPtrs D w (ps ++ [q]) (ids ++ [id]) := by
  refine ⟨by simp [h.1], fun k p m' hp hm => ?_⟩
  by_cases hk : k < ps.length
  · rw [List.getElem?_append_left hk] at hp
    rw [List.getElem?_append_left (by have := h.1; omega)] at hm
    exact h.2 k p m' hp hm
  · rw [List.getElem?_append_right (by omega)] at hp
    rw [List.getElem?_append_right (by have := h.1; omega), ← h.1] at hm
    cases hj : k - ps.length with
    | zero => rw [hj] at hp hm; simp at hp hm; subst hp; subst hm; exact ⟨hd, h0, h2⟩
    | succ j => rw [hj] at hp; simp at hp
end

/-- The state of the loop that gathers the identifiers. -/
def RidAt (B : Nat) (ids : List ByteArray) (v : Value) (wr : World) : Prop :=
  ∃ ps, wr.ownsRow B 106 1 v ids.length (ptrs ps) ∧ RidPtrs (fun b => B ≤ b ∧ v.ownBlock ≠ some b) wr ps ids

theorem rid_step {B : Nat} {ids : List ByteArray} {id : ByteArray} {v : Value} {wr w2 w3 : World} {o2 : Obj} {q gg cap : Nat} {ps : List Nat}
    (hown : wr.ownsRow B 106 1 v ids.length (ptrs ps)) (hrp : RidPtrs (fun b => B ≤ b ∧ v.ownBlock ≠ some b) wr ps ids) (hk : Kp wr w2) (hB : B ≤ q) (hq : wr.heap.size ≤ q) 
    (h0 : w2.cell? ⟨q, 0, none⟩ = some (.string id)) (h2 : w2.cell? ⟨q, 2, none⟩ = some (.bool false))
    (hown3 : w3.ownsRow B 106 1 (.slice (some ⟨gg, 0, none⟩) (ids.length + 1) cap) (ids.length + 1) (ptrs ps ++ [.pointer (some ⟨q, 0, none⟩)]))
    (hgrow : (w2.alloc o2).grownBy w3 v.ownBlock) (hat : v.ownBlock = some gg ∨ gg = (w2.alloc o2).heap.size) :
    RidAt B (ids ++ [id]) (.slice (some ⟨gg, 0, none⟩) (ids.length + 1) cap) w3 := by
  have vlt : ∀ g, v.ownBlock = some g → g < wr.heap.size := fun g e => (hown.lt _ e).2
  have hq2 := World.block_lt_of_cell? _ _ h0
  have kp : KpOn (fun b => (B ≤ b ∧ v.ownBlock ≠ some b) ∧ b < w2.heap.size) w2 w3 := fun p u hd hc => by
    rw [hgrow.cell_far p (by simp; have := hd.2; omega) (Ne.symm hd.1.2)]
    exact cell_al hc _
  refine ⟨ps ++ [q], ?_, ?_⟩
  · have e1 : ptrs (ps ++ [q]) = ptrs ps ++ [.pointer (some ⟨q, 0, none⟩)] := by simp [ptrs]
    rw [e1, List.length_append]
    exact hown3
  · have m1 := (hrp.keep hk).snoc (q := q) (id := id) ⟨hB, fun e => by have := vlt _ e; omega⟩ h0 h2
    have m2 : RidPtrs (fun b => (B ≤ b ∧ v.ownBlock ≠ some b) ∧ b < w2.heap.size) w2 (ps ++ [q]) (ids ++ [id]) := m1.wide fun b hb hl => ⟨hb, hl⟩
    exact (m2.keepOn kp).wide fun b hb _ => ⟨hb.1.1, fun e => by
      have e : gg = b := by simpa [Value.ownBlock] using e
      rcases hat with e2 | e2
      · exact hb.1.2 (e ▸ e2)
      · have := hb.2; simp at e2; omega⟩

theorem Tryz.infoRid : (Tryz.prog.info? 106).map (fun i => (i.zero, i.size, i.bytes)) = some (some (.pointer none), 1, 8) := by kernel_rfl

attribute [local go_sem ↓] Go.wp_at_zero Go.wp_at_succ

set_option maxHeartbeats 2000000 in
set_option maxRecDepth 100000 in
theorem getRids_any {D : Nat → Prop} (p : Nat) (kind : ByteArray) (fs : List ByteArray) (l : List KV) (w : World) (hl : l.length * 32 ≤ 140737488355328) (hv : ∀ p ∈ l, p.2.size ≤ 4294967296) (hs : ∀ p ∈ l, (p.1.toList == [115, 105, 109, 117, 108, 99, 97, 115, 116]) = false) (h : MD D w p kind fs l) :
    Calls Tryz.prog 30 #[.pointer (some ⟨p, 0, none⟩)] w fun e w' => ∃ A c ps, e = .returned (.slice A (ridsOf l).length c) ∧ Ptrs (w.heap.size ≤ ·) w' A ps ∧ RidPtrs (w.heap.size ≤ ·) w' ps (ridsOf l) ∧ Below w.heap.size w w' := by
  obtain ⟨_, _, _, A, c, h9, hkv⟩ := h
  have H := Lib.hid hkv
  have HV := Lib.hid hv
  have HS := Lib.hid hs
  obtain ⟨i0, hi, hz0, hz1, hz2⟩ := info_parts Tryz.infoRid
  clear hkv hv hs
  have lp := World.block_lt_of_cell? _ _ h9
  go_enter Tryz.func30, Tryz.ntmps30
  go_wp2
  go_loopw [3, 4, 20] (fun v t i wr => ∃ k : Nat, k ≤ l.length ∧ i = .int .i64 k ∧ t = .string ⟨#[]⟩ ∧ RidAt w.heap.size (ridsOf (l.take k)) v wr ∧ Below w.heap.size w wr) (fun _ _ i _ => l.length - (intOf i).toNat)
  case atStart => exact ⟨0, Nat.zero_le _, rfl, rfl, ⟨[], World.ownsRow_made w #[] 0 (Nat.le_refl _) (Nat.zero_le _) rfl, rfl, by simp⟩, (Below.refl _ _).alloc (Nat.le_refl _) _⟩
  case round =>
    obtain ⟨k, hk, rfl, rfl, hra, hb⟩ := hrel
    obtain ⟨ps, hown, hrp⟩ := hra
    have HOWN := Lib.hid hown
    have HRP := Lib.hid hrp
    have hrl := ridsOf_length (l.take k)
    have hrl2 : (ridsOf (l.take k)).length ≤ k := Nat.le_trans hrl (List.length_take_le _ _)
    clear hown hrp hrl
    have hsz := hb.size
    by_cases hlt : k < l.length
    · obtain ⟨b, o, rfl, _, c0, c1⟩ := H.out k l[k] (by simp [hlt])
      have d0 := (hb.cell (p := ⟨b, o + k * 2, none⟩) (World.block_lt_of_cell? _ _ c0)).trans c0
      have d1 := (hb.cell (p := ⟨b, o + k * 2 + 1, none⟩) (World.block_lt_of_cell? _ _ c1)).trans c1
      clear c0 c1
      have hsv := HV.out l[k] (List.getElem_mem _)
      have hsim := HS.out l[k] (List.getElem_mem _)
      cases ht : (l[k].1.toList == [114, 105, 100]) with
      | true =>
        have e1 := ridsOf_hit hlt ht
        have E1 := Lib.hid e1
        clear e1
        obtain ⟨hd, tl, hpc⟩ : ∃ hd tl, piecesB 32 l[k].2 = hd :: tl := by
          cases hp : piecesB 32 l[k].2 with
          | nil => exact absurd (by simpa [piecesB] using hp) (pieces_ne 32 l[k].2.data.toList)
          | cons a r => exact ⟨a, r, rfl⟩
        have HPC := Lib.hid hpc
        clear hpc
        go_wp2_with (go_at_call 25; refine (split_any l[k].2 32 _ hsv).mono ?_; rintro e w1 ⟨A1, k1, rfl, hr1, hb1⟩; rw [HPC.out] at hr1; obtain ⟨b1, o1, hA1, hD1, hc1⟩ := hr1 0 hd rfl; subst hA1; have hl1 : 0 < (piecesB 32 l[k].2).length := (by rw [HPC.out]; simp); have hl2 : (0 : Int) < ((piecesB 32 l[k].2).length : Int) := (by omega); have hc1' : w1.cell? ⟨b1, o1, none⟩ = some (.string hd) := (by simpa using hc1); have hv1 : w1.cell? ⟨wr.heap.size, 1, none⟩ = some (.string l[k].2) := (hb1.cell (by simp)).trans (by simp [go_sem]); clear hr1 hc1)
        have hs1 : wr.heap.size + 1 ≤ w1.heap.size := by have := hb1.size; simpa using this
        have own1 := own_below (HOWN.out.alloc _) hb1
        have OWN1 := Lib.hid own1
        have ab1 : some b1 ≠ u3.ownBlock := fun e => by have h1 := (HOWN.out.lt _ e.symm).2; have h2 : _ ≤ b1 := hD1; simp at h2; omega
        have ab2 : some wr.heap.size ≠ u3.ownBlock := fun e => by have h1 := (HOWN.out.lt _ e.symm).2; omega
        have lb1 : b1 < w1.heap.size := World.block_lt_of_cell? _ _ hc1'
        clear own1
        go_region_held3 (fun w' => w'.cell? ⟨b1, o1, none⟩ = some (.string hd) ∧ w'.cell? ⟨wr.heap.size, 1, none⟩ = some (.string l[k].2))
          (first
            | (go_split_ands; refine ⟨?_, ?_⟩ <;> exact cell_al (by assumption) _)
            | (go_split_ands; refine ⟨?_, ?_⟩ <;> (rw [hgrow.cell_far _ (by simp; omega) (by assumption)]; first | assumption | exact cell_al (cell_al hc1' _) _ | exact cell_al (cell_al hv1 _) _))
            | go_keep)
          ((refine step_append_lies _ (by rfl) _ _ _ (by rfl) w.heap.size 106 i0 _ 1 8 Tryz.underlying104 hi hz0 hz1 hz2 rfl (by omega) u3 (ridsOf (l.take k)).length (ptrs ps) (by rfl) (((OWN1.out.alloc _).alloc _).drew) ⟨w1.heap.size + 1, 0, none⟩ 1 1 [.pointer (some ⟨w1.heap.size, 0, none⟩)] (by rfl) (by rfl) (World.news_of_block (cs := #[.pointer (some ⟨w1.heap.size, 0, none⟩)]) (t := 106) (fr := (0, 0)) (new_second w1 _ _)) (by simp [Value.oneCell']) (by omega) (by unfold maxLen; omega) (by omega) (by simp; omega) (w1.heap.size + 1 + 1) (by simp) ?_; intro gg cap w3 hown3 hgrow hat hlt3))
        have st : RidAt w.heap.size (ridsOf (l.take k) ++ [hd]) (.slice (some ⟨gg, 0, none⟩) ((ridsOf (l.take k)).length + 1) cap) w3 :=
          rid_step (w2 := w1.alloc (.cells #[.string hd, .string l[k].2, .bool false] 108)) (o2 := .cells #[.pointer (some ⟨w1.heap.size, 0, none⟩)] 106) (q := w1.heap.size) HOWN.out HRP.out (((Kp.alloc wr _).trans (kp_of_below hb1)).trans (Kp.alloc w1 _)) (by omega) (by omega) (by simp [go_sem]) (by simp [go_sem]) hown3
            ⟨hgrow.os, hgrow.tape, hgrow.output, hgrow.size, hgrow.block⟩ (by simpa using hat)
        have e2 : ridsOf (l.take k) ++ [hd] = ridsOf (l.take (k + 1)) := by rw [E1.out, HPC.out]; rfl
        rw [e2] at st
        have bel : Below w.heap.size w w3 := ((((hb.alloc hsz _).trans (hb1.mono (by simp; omega))).alloc (by omega) _).alloc (by simp; omega) _).drew.grown hgrow (by simp; omega) (fun j hj => (HOWN.out.lt _ hj).1)
        have ST := Lib.hid st
        have BEL := Lib.hid bel
        clear st bel e2 hown3 hgrow hat hb1 hv1 hc1' d0 d1
        go_wp2
        go_roundw
        case rel => exact ⟨k + 1, by omega, by go_num, rfl, ST.out, BEL.out⟩
        case measure => simp [intOf]; omega
      | false =>
        have e1 := ridsOf_miss hlt ht
        have st : RidAt w.heap.size (ridsOf (l.take (k + 1))) u3 (wr.alloc (.cells #[.string l[k].1, .string l[k].2] 92)) := by
          rw [e1]
          exact ⟨ps, HOWN.out.alloc _, HRP.out.keep (Kp.alloc _ _)⟩
        have ST := Lib.hid st
        clear e1 st
        go_wp2
        go_roundw
        case rel => exact ⟨k + 1, by omega, by go_num, rfl, ST.out, hb.alloc hsz _⟩
        case measure => simp [intOf]; omega
    · obtain rfl : k = l.length := by omega
      have h1 := HOWN.out
      have h2 := HRP.out
      rw [List.take_length] at h1 h2
      obtain ⟨A1, c1, rfl, hx⟩ := own_slice h1
      have hp : Ptrs (w.heap.size ≤ ·) wr A1 ps := fun i q hq => by
        obtain ⟨b, hA, hB, _, hc⟩ := hx i (.pointer (some ⟨q, 0, none⟩)) (by simp [ptrs, hq])
        exact ⟨b, 0, hA, hB, by simpa using hc⟩
      have h3 : RidPtrs (w.heap.size ≤ ·) wr ps (ridsOf l) := h2.wide fun b hb _ => hb.1
      have G1 := Lib.hid hp
      have G2 := Lib.hid h3
      clear hx h1 h2 hp h3
      go_wp2
      go_ret
      exact ⟨A1, c1, ps, rfl, G1.out, G2.out, hb⟩
end Go.Proofs.YtkaelnfhohggeaaGreatDoor
