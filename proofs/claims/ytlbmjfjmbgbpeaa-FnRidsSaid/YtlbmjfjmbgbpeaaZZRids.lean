/- The identifiers and which are paused, as two lists. -/
import Derived.Test.YtlbmjfjmbgbpeaaRids
namespace Go.Proofs.Ytlbmjfjmbgbpeaa
open Go.RowKit

/-- The slice at A reads as these answers. -/
def Bools (D : Nat → Prop) (w : World) (A : Option Addr) (l : List Bool) : Prop := ∀ k s, l[k]? = some s → ∃ b o, A = some ⟨b, o, none⟩ ∧ D b ∧ w.cell? ⟨b, o + k, none⟩ = some (.bool s)
theorem Bools.keepOn {D : Nat → Prop} {w w' : World} {A : Option Addr} {l : List Bool} (h : Bools D w A l) (k : KpOn D w w') : Bools D w' A l := fun i s hs =>
  let ⟨b, o, e, hd, c⟩ := h i s hs; ⟨b, o, e, hd, k _ _ hd c⟩
theorem Bools.keep {D : Nat → Prop} {w w' : World} {A : Option Addr} {l : List Bool} (h : Bools D w A l) (k : Kp w w') : Bools D w' A l := h.keepOn (k.on D)
theorem Bools.wide {D D' : Nat → Prop} {w : World} {A : Option Addr} {l : List Bool} (h : Bools D w A l) (k : ∀ b, D b → b < w.heap.size → D' b) : Bools D' w A l := fun i s hs =>
  let ⟨b, o, e, hd, c⟩ := h i s hs; ⟨b, o, e, k b hd (World.block_lt_of_cell? _ _ c), c⟩
theorem own_bools {w : World} {base : Nat} {e : TypeId} {v : Value} {l : List Bool} (h : w.ownsRow base e 1 v l.length (l.map Value.bool)) :
    ∃ A c, v = .slice A l.length c ∧ Bools (base ≤ ·) w A l := by
  obtain ⟨A, c, hv, hx⟩ := own_slice h
  refine ⟨A, c, hv, fun k s hs => ?_⟩
  obtain ⟨b, hA, hB, _, hc⟩ := hx k (.bool s) (by simp [hs])
  exact ⟨b, 0, hA, hB, by simpa using hc⟩

/-- Rows of different element types never share a block. -/
theorem own_ne {w : World} {b1 b2 s1 s2 n1 n2 : Nat} {e1 e2 : TypeId} {v1 v2 : Value} {x1 x2 : List Value} (h1 : w.ownsRow b1 e1 s1 v1 n1 x1) (h2 : w.ownsRow b2 e2 s2 v2 n2 x2) (hne : e1 ≠ e2) : v1.ownBlock = none ∨ v1.ownBlock ≠ v2.ownBlock := by
  rcases h1.2 with ⟨rfl, _⟩ | ⟨g, cap, cur, rfl, _, hh, _⟩
  · exact .inl rfl
  · refine .inr fun e => ?_
    rcases h2.2 with ⟨rfl, _⟩ | ⟨g2, cap2, cur2, rfl, _, hh2, _⟩
    · cases e
    · have e : g = g2 := by simpa [Value.ownBlock] using e
      subst e
      rw [hh] at hh2
      injection hh2 with hh2
      injection hh2 with _ he
      exact hne he

theorem Try.infoBool : (Try.prog.info? 4).map (fun i => (i.zero, i.size, i.bytes)) = some (some (.bool false), 1, 1) := by kernel_rfl

attribute [local go_sem ↓] Go.wp_at_zero Go.wp_at_succ

set_option maxHeartbeats 4000000 in
set_option maxRecDepth 100000 in
theorem zzRids_any {D : Nat → Prop} (p : Nat) (kind : ByteArray) (fs : List ByteArray) (l : List KV) (w : World) (hl : l.length * 32 ≤ 140737488355328) (hv : ∀ p ∈ l, p.2.size ≤ 4294967296) (hs : ∀ p ∈ l, (p.1.toList == [115, 105, 109, 117, 108, 99, 97, 115, 116]) = false) (h : MD D w p kind fs l) :
    Calls Try.prog 26 #[.pointer (some ⟨p, 0, none⟩)] w fun e w' => ∃ A1 c1 A2 c2, e = .returned (.tuple #[.slice A1 (ridsOf l).length c1, .slice A2 (ridsOf l).length c2]) ∧ Strs (w.heap.size ≤ ·) w' A1 (ridsOf l) ∧ Bools (w.heap.size ≤ ·) w' A2 ((ridsOf l).map fun _ => false) ∧ Below w.heap.size w w' := by
  obtain ⟨i0, hi, hz0, hz1, hz2⟩ := info_parts Try.infoStr
  obtain ⟨j0, hj, jz0, jz1, jz2⟩ := info_parts Try.infoBool
  have H := Lib.hid h
  have HV := Lib.hid hv
  have HS := Lib.hid hs
  have hrl := ridsOf_length l
  clear h hv hs
  go_enter Try.func26, Try.ntmps26
  go_wp2_with (go_at_call 40; refine (getRids_any p kind fs l _ hl HV.out HS.out H.out).mono ?_; rintro e w1 ⟨A, c, ps, rfl, hp, hr, hb1⟩)
  have HP := Lib.hid hp
  have HR := Lib.hid hr
  clear hp hr
  have hs1 := hb1.size
  go_loopw [2, 3, 9] (fun u v i wr => ∃ k : Nat, k ≤ (ridsOf l).length ∧ i = .int .i64 k ∧ wr.ownsRow w1.heap.size 9 1 u k (((ridsOf l).take k).map Value.string) ∧ wr.ownsRow w1.heap.size 4 1 v k ((List.replicate k false).map Value.bool) ∧ Below w1.heap.size w1 wr) (fun _ _ i _ => (ridsOf l).length - (intOf i).toNat)
  case atStart => exact ⟨0, Nat.zero_le _, rfl, World.ownsRow_nil _ _ _ _, World.ownsRow_nil _ _ _ _, Below.refl _ _⟩
  case round =>
    obtain ⟨k, hk, rfl, ho1, ho2, hb⟩ := hrel
    have HO1 := Lib.hid ho1
    have HO2 := Lib.hid ho2
    clear ho1 ho2
    have hsz := hb.size
    by_cases hlt : k < (ridsOf l).length
    · obtain ⟨q, hq⟩ : ∃ q, ps[k]? = some q := ⟨ps[k]'(by rw [HR.out.1]; exact hlt), by simp⟩
      obtain ⟨b, o, rfl, _, c0⟩ := HP.out k q hq
      obtain ⟨_, c1, c2⟩ := HR.out.2 k q (ridsOf l)[k] hq (by simp [hlt])
      have HQ := Lib.hid hq
      have d0 := (hb.cell (p := ⟨b, o + k, none⟩) (World.block_lt_of_cell? _ _ c0)).trans c0
      have d1 := (hb.cell (p := ⟨q, 0, none⟩) (World.block_lt_of_cell? _ _ c1)).trans c1
      have d2 := (hb.cell (p := ⟨q, 2, none⟩) (World.block_lt_of_cell? _ _ c2)).trans c2
      have lq : q < w1.heap.size := World.block_lt_of_cell? _ _ c1
      clear c0 c1 c2 hq
      have hu2 : u2.ownBlock ≠ some wr.heap.size := fun e => by have := (HO1.out.lt _ e).2; omega
      have hu2' : u2.ownBlock ≠ some (wr.heap.size + 1) := fun e => by have := (HO1.out.lt _ e).2; omega
      have hq2 : some q ≠ u2.ownBlock := fun e => by have := (HO1.out.lt _ e.symm).1; omega
      have hq3 : some q ≠ u3.ownBlock := fun e => by have := (HO2.out.lt _ e.symm).1; omega
      go_wp2_with fail
      go_region_held3 (fun w' => w'.cell? ⟨q, 0, none⟩ = some (.string (ridsOf l)[k]) ∧ w'.cell? ⟨q, 2, none⟩ = some (.bool false))
        (first
          | (go_split_ands; refine ⟨?_, ?_⟩ <;> exact cell_al (by assumption) _)
          | (go_split_ands; refine ⟨?_, ?_⟩ <;> (rw [hgrow2.cell_far _ (by simp; omega) hq3]; assumption))
          | (go_split_ands; refine ⟨?_, ?_⟩ <;> (rw [hgrow.cell_far _ (by simp; omega) hq2]; assumption))
          | go_keep)
        (first
          | (refine step_append_lies _ (by rfl) _ _ _ (by rfl) w1.heap.size 9 i0 _ 1 16 Try.underlying23 hi hz0 hz1 hz2 rfl (by omega) u2 k (((ridsOf l).take k).map Value.string) (by rfl) (by first | exact (HO1.out.alloc _).alloc _ | exact HO1.out.alloc _) ⟨wr.heap.size, 0, none⟩ 1 1 [.string (ridsOf l)[k]] (by rfl) (by rfl) (World.news_of_block (cs := #[.string (ridsOf l)[k]]) (t := 9) (fr := (0, 0)) (by first | exact new_second wr _ _ | exact new_first wr _ _ | exact heap_alloc_new wr _)) (by simp [Value.oneCell']) (by omega) (by unfold maxLen; omega) (by omega) (by (try simp); omega) _ rfl ?_; intro gg cap w2 hown2 hgrow hat hlt2; have HB2 := Lib.hid (World.ownsRow.kept (by first | exact (HO2.out.alloc _).alloc _ | exact HO2.out.alloc _) hgrow (own_ne HO2.out HO1.out (by decide))); have HN := Lib.hid (grown_block hgrow); have hs2 : wr.heap.size ≤ w2.heap.size := (by have := hgrow.size; simp at this; omega))
          | (refine step_append_lies _ (by rfl) _ _ _ (by rfl) w1.heap.size 9 i0 _ 1 16 Try.underlying23 hi hz0 hz1 hz2 rfl (by omega) u2 k (((ridsOf l).take k).map Value.string) (by rfl) (by first | exact (HO1.out.alloc _).alloc _ | exact HO1.out.alloc _) ⟨wr.heap.size + 1, 0, none⟩ 1 1 [.string (ridsOf l)[k]] (by rfl) (by rfl) (World.news_of_block (cs := #[.string (ridsOf l)[k]]) (t := 9) (fr := (0, 0)) (by first | exact new_second wr _ _ | exact new_first wr _ _ | exact heap_alloc_new wr _)) (by simp [Value.oneCell']) (by omega) (by unfold maxLen; omega) (by omega) (by (try simp); omega) _ rfl ?_; intro gg cap w2 hown2 hgrow hat hlt2; have HB2 := Lib.hid (World.ownsRow.kept (by first | exact (HO2.out.alloc _).alloc _ | exact HO2.out.alloc _) hgrow (own_ne HO2.out HO1.out (by decide))); have HN := Lib.hid (grown_block hgrow); have hs2 : wr.heap.size ≤ w2.heap.size := (by have := hgrow.size; simp at this; omega))
          | (refine step_append_lies _ (by rfl) _ _ _ (by rfl) w1.heap.size 4 j0 _ 1 1 Try.underlying37 hj jz0 jz1 jz2 rfl (by omega) u3 k ((List.replicate k false).map Value.bool) (by rfl) (HB2.out) ⟨wr.heap.size, 0, none⟩ 1 1 [.bool false] (by rfl) (by rfl) (World.news_of_block (cs := #[.bool false]) (t := 4) (fr := (0, 0)) (HN.out _ _ (new_first wr _ _) (Ne.symm hu2))) (by simp [Value.oneCell']) (by omega) (by unfold maxLen; omega) (by omega) (by (try simp); omega) _ rfl ?_; intro gg2 cap2 w3 hown3 hgrow2 hat2 hlt3)
          | (refine step_append_lies _ (by rfl) _ _ _ (by rfl) w1.heap.size 4 j0 _ 1 1 Try.underlying37 hj jz0 jz1 jz2 rfl (by omega) u3 k ((List.replicate k false).map Value.bool) (by rfl) (HB2.out) ⟨wr.heap.size + 1, 0, none⟩ 1 1 [.bool false] (by rfl) (by rfl) (World.news_of_block (cs := #[.bool false]) (t := 4) (fr := (0, 0)) (HN.out _ _ (new_second wr _ _) (Ne.symm hu2'))) (by simp [Value.oneCell']) (by omega) (by unfold maxLen; omega) (by omega) (by (try simp); omega) _ rfl ?_; intro gg2 cap2 w3 hown3 hgrow2 hat2 hlt3)
          | (refine step_append_lies _ (by rfl) _ _ _ (by rfl) w1.heap.size 4 j0 _ 1 1 Try.underlying37 hj jz0 jz1 jz2 rfl (by omega) u3 k ((List.replicate k false).map Value.bool) (by rfl) (HB2.out.alloc _) ⟨w2.heap.size, 0, none⟩ 1 1 [.bool false] (by rfl) (by rfl) (World.news_of_block (cs := #[.bool false]) (t := 4) (fr := (0, 0)) (heap_alloc_new w2 _)) (by simp [Value.oneCell']) (by omega) (by unfold maxLen; omega) (by omega) (by (try simp); omega) _ rfl ?_; intro gg2 cap2 w3 hown3 hgrow2 hat2 hlt3))
      all_goals
        have o1 : w3.ownsRow w1.heap.size 9 1 (.slice (some ⟨gg, 0, none⟩) (k + 1) cap) (k + 1) (((ridsOf l).take (k + 1)).map Value.string) := by
          have e1 : ((ridsOf l).take (k + 1)).map Value.string = ((ridsOf l).take k).map Value.string ++ [.string (ridsOf l)[k]] := by rw [List.take_succ_eq_append_getElem hlt, List.map_append]; rfl
          rw [e1]
          first
            | exact hown2.kept hgrow2 (own_ne hown2 HB2.out (by decide))
            | exact (hown2.alloc _).kept hgrow2 (own_ne hown2 HB2.out (by decide))
        have o2 : w3.ownsRow w1.heap.size 4 1 (.slice (some ⟨gg2, 0, none⟩) (k + 1) cap2) (k + 1) ((List.replicate (k + 1) false).map Value.bool) := by
          have e2 : (List.replicate (k + 1) false).map Value.bool = (List.replicate k false).map Value.bool ++ [.bool false] := by rw [List.replicate_succ', List.map_append]; rfl
          rw [e2]
          exact hown3
        have b2 : Below w1.heap.size w1 w2 := by
          first
            | exact (((hb.alloc hsz _).alloc (by simp; omega) _).drew).grown hgrow (by simp; omega) (fun j hj => (HO1.out.lt _ hj).1)
            | exact ((hb.alloc hsz _).drew).grown hgrow (by simp; omega) (fun j hj => (HO1.out.lt _ hj).1)
        have b3 : Below w1.heap.size w1 w3 := by
          first
            | exact b2.grown hgrow2 (by omega) (fun j hj => (HO2.out.lt _ hj).1)
            | exact (b2.alloc (by omega) _).grown hgrow2 (by simp; omega) (fun j hj => (HO2.out.lt _ hj).1)
        have G1 := Lib.hid o1
        have G2 := Lib.hid o2
        have G3 := Lib.hid b3
        clear o1 o2 b2 b3 hown2 hown3 hgrow hgrow2 hat hat2 d0 d1 d2
        go_wp2
        go_roundw
        case rel => exact ⟨k + 1, by omega, by go_num, G1.out, G2.out, G3.out⟩
        case measure => simp [intOf]; omega
    · obtain rfl : k = (ridsOf l).length := by omega
      have h1 := HO1.out
      have h2 := HO2.out
      rw [List.take_length] at h1
      obtain ⟨A1, c1, rfl, r1⟩ := own_strs h1
      have e3 : (List.replicate (ridsOf l).length false) = (ridsOf l).map fun _ => false := by rw [List.map_const']
      rw [e3] at h2
      have e4 : (ridsOf l).length = ((ridsOf l).map fun _ => false).length := by simp
      obtain ⟨A2, c2, hv2, r2⟩ := own_bools (e4 ▸ h2)
      rw [← e4] at hv2
      subst hv2
      have R1 := Lib.hid (r1.wide (D' := (w.heap.size ≤ ·)) fun b hb _ => by have hb : _ ≤ b := hb; omega)
      have R2 := Lib.hid (r2.wide (D' := (w.heap.size ≤ ·)) fun b hb _ => by have hb : _ ≤ b := hb; omega)
      have BEL := Lib.hid (hb1.trans (hb.mono hs1))
      clear h1 h2 r1 r2 e3 e4
      go_wp2
      go_ret2
      exact ⟨A1, c1, A2, c2, rfl, R1.out, R2.out, BEL.out⟩
end Go.Proofs.Ytlbmjfjmbgbpeaa
