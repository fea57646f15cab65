/- The reference's attributes of a codec. -/
import Derived.Test.YtkaelnfhohggeaaDoorCodLaw
import Derived.Test.YtkaelnfhohggeaaDoorFitsC
import Derived.Test.YtkaelnfhohggeaaDoorLater
import Derived.Laws.OwnMore
namespace Go.Proofs.YtkaelnfhohggeaaDoor
open Go.RowKit

/-- The attributes ahead of the feedback. -/
def preOf (c : Cod) : List KV := (kMap, mapVal c) :: (if c.line.size = 0 then [] else [(kLine, lineVal c)])
theorem codAttrs_pre (c : Cod) : codAttrs c = preOf c ++ c.fb.map fun f => (kFb, fbVal c f) := by unfold codAttrs preOf; rfl
/-- The attributes of the first k pieces of feedback. -/
def fbRows (c : Cod) (k : Nat) : List KV := (c.fb.take k).map fun f => (kFb, fbVal c f)
theorem fbRows_zero (c : Cod) : fbRows c 0 = [] := rfl
theorem fbRows_all (c : Cod) : preOf c ++ fbRows c c.fb.length = codAttrs c := by rw [codAttrs_pre, fbRows, List.take_length]
theorem attrs_cells {c : Cod} {pre : List KV} {k : Nat} (hk : k < c.fb.length) : kvCells (pre ++ fbRows c (k + 1)) = kvCells (pre ++ fbRows c k) ++ [.string kFb, .string (fbVal c c.fb[k])] := by
  unfold fbRows
  rw [List.take_succ_eq_append_getElem hk, List.map_append, ← List.append_assoc]
  exact kvCells_snoc _ _
theorem isEmpty_size (s : ByteArray) : s.toList.isEmpty = decide (s.size = 0) := by
  rw [Lib.toList_data, Lib.size_eq]
  cases s.data.toList <;> simp
/-- What the walk of Attrs needs: the codec's attributes in a row. -/
def AttrsRow (B : Nat) (c : Cod) (e : Ending) (w' : World) : Prop := ∃ A k, e = .returned (.slice A (codAttrs c).length k) ∧ KVs (B ≤ ·) w' A (codAttrs c)

set_option maxHeartbeats 2000000 in
set_option maxRecDepth 100000 in
theorem attrs_any (c : Cod) (A5 : Option Addr) (c5 : Nat) (w : World) (hc : CodIs c) (h : KVs (fun _ => True) w A5 c.fb) :
    Calls Tryd.prog 9 #[.agg #[.string c.name, .int .i64 c.rate, .int .i64 c.chans, .int .i64 c.pay, .string c.line, .slice A5 c.fb.length c5]] w fun e w' => AttrsRow w.heap.size c e w' ∧ Below w.heap.size w w' := by
  obtain ⟨i0, hi, hz0, hz1, hz2⟩ := info_parts Tryd.infoKVs
  have H := Lib.hid h
  clear h
  have zn := (word_size hc.name).2
  have zl := line_size hc.line
  have hfl := hc.len
  have HFB := Lib.hid hc.fb
  have zp := dec_short (n := c.pay) (by have := hc.pay; omega)
  have zr := dec_short (n := c.rate) (by have := hc.rate; omega)
  have zc := dec_short (n := c.chans) (by have := hc.chans; omega)
  have HP := Lib.hid (fun w => decimal_any c.pay w (by have := hc.pay; omega))
  have HR := Lib.hid (fun w => decimal_any c.rate w (by have := hc.rate; omega))
  have HC := Lib.hid (fun w => decimal_any c.chans w (by have := hc.chans; omega))
  have g1 : ¬ 9223372036854775807 < (dec c.pay).size + 1 := by omega
  have g2 : ¬ 9223372036854775807 < (dec c.pay).size + 1 + c.name.size := by omega
  have g3 : ¬ 9223372036854775807 < (dec c.pay).size + 1 + c.name.size + 1 := by omega
  have g4 : ¬ 9223372036854775807 < (dec c.pay).size + 1 + c.name.size + 1 + (dec c.rate).size := by omega
  have g5 : ¬ 9223372036854775807 < 1 + (dec c.chans).size := by omega
  have g6 : ¬ 9223372036854775807 < (dec c.pay).size + 1 + c.name.size + 1 + (dec c.rate).size + (1 + (dec c.chans).size) := by omega
  have g7 : ¬ 9223372036854775807 < (dec c.pay).size + 1 + c.line.size := by omega
  clear hc
  go_enter Tryd.func9, Tryd.ntmps9
  go_wp2_with (go_at_call 7; refine (HP.out _).mono ?_; rintro e w1 ⟨rfl, hb1⟩; have B1 := Lib.hid ((Blk.new w [.string c.name, .int .i64 c.rate, .int .i64 c.chans, .int .i64 c.pay, .string c.line, .slice A5 c.fb.length c5] 31).below hb1); have bb := Lib.hid (((Below.refl w.heap.size w).alloc (Nat.le_refl _) (.cells #[.string c.name, .int .i64 c.rate, .int .i64 c.chans, .int .i64 c.pay, .string c.line, .slice A5 c.fb.length c5] 31)).trans (hb1.mono (by simp))); clear hb1)
  have m0 : ∀ x : Later w1, x.W.cell? ⟨w.heap.size, 0, none⟩ = some (.string c.name) := fun x => x.cell (B1.out.cell (j := 0) rfl)
  have m1 : ∀ x : Later w1, x.W.cell? ⟨w.heap.size, 1, none⟩ = some (.int .i64 c.rate) := fun x => x.cell (B1.out.cell (j := 1) rfl)
  refine wp_region_later (by kernel_rfl) (by kernel_rfl) ?_
  repeat (go_big_quiet_step (first | (go_at_call 7; exact Calls.later (HR.out _))))
  refine wpQuiet_nil ?_
  rintro w2 ⟨⟨_, hb2⟩, rfl⟩
  have hch : (decide ((0 : Int) < (c.chans : Int)) = true ∧ decide (0 < c.chans) = true ∧ mapVal c = (((payB c ++ c.name) ++ ⟨#[47]⟩) ++ dec c.rate) ++ (⟨#[47]⟩ ++ dec c.chans)) ∨ (decide ((0 : Int) < (c.chans : Int)) = false ∧ decide (0 < c.chans) = false ∧ mapVal c = ((payB c ++ c.name) ++ ⟨#[47]⟩) ++ dec c.rate) := by
    unfold mapVal
    by_cases h : 0 < c.chans
    · left; simp [h]
    · right; simp [h]
  have hli : (c.line.toList.isEmpty = false ∧ preOf c = [(kMap, mapVal c), (kLine, lineVal c)]) ∨ (c.line.toList.isEmpty = true ∧ preOf c = [(kMap, mapVal c)]) := by
    unfold preOf
    rw [isEmpty_size]
    by_cases h : c.line.size = 0
    · right; simp [h]
    · left; simp [h]
  rcases hch with ⟨q1, q2, hmv⟩ | ⟨q1, q2, hmv⟩
  · have B2 : Blk w2 w.heap.size [.string c.name, .int .i64 c.rate, .int .i64 c.chans, .int .i64 c.pay, .string c.line, .slice A5 c.fb.length c5] := B1.out.below hb2
    have c2 := B2.cell (j := 2) rfl
    go_wp2_with fail
    refine (HC.out _).mono ?_
    rintro e w3 ⟨rfl, hb3⟩
    have B3 := Lib.hid (B2.below hb3)
    have HB3 := Lib.hid (below_step (below_step bb.out bb.out.size hb2) (by have := bb.out.size; have := hb2.size; omega) hb3)
    have c4 : w3.cell? ⟨w.heap.size, 4, none⟩ = some (.string c.line) := B3.out.cell (j := 4) rfl
    have c5' : w3.cell? ⟨w.heap.size, 5, none⟩ = some (.slice A5 c.fb.length c5) := B3.out.cell (j := 5) rfl
    clear B2 c2 hb3
    have l3 : w.heap.size < w3.heap.size := B3.out.lt
    clear hb2
    have HMV := Lib.hid hmv
    clear hmv
    have hown0 : (w3.alloc (.cells #[.string ⟨#[114, 116, 112, 109, 97, 112]⟩, .string ((((((dec c.pay ++ ⟨#[32]⟩) ++ c.name) ++ ⟨#[47]⟩) ++ dec c.rate) ++ (⟨#[47]⟩ ++ dec c.chans)))] 41)).ownsRow (w.heap.size + 1) 41 2 (.slice (some ⟨w3.heap.size, 0, none⟩) 1 1) 1 [.string ⟨#[114, 116, 112, 109, 97, 112]⟩, .string ((((((dec c.pay ++ ⟨#[32]⟩) ++ c.name) ++ ⟨#[47]⟩) ++ dec c.rate) ++ (⟨#[47]⟩ ++ dec c.chans)))] := World.ownsRow_lit w3 _ 1 (by omega) (by decide) rfl
    have HOWN0 := Lib.hid hown0
    clear hown0
    rcases hli with ⟨hL, hpre⟩ | ⟨hL, hpre⟩
    · have HPRE := Lib.hid hpre
      clear hpre
      go_wp2_with (at_builtin; refine wpList_append_own _ rfl _ _ 29 rfl (w.heap.size + 1) 41 i0 _ 2 32 Tryd.underlying29 hi hz0 hz1 hz2 rfl (by decide) (.slice (some ⟨w3.heap.size, 0, none⟩) 1 1) 1 [.string ⟨#[114, 116, 112, 109, 97, 112]⟩, .string ((((((dec c.pay ++ ⟨#[32]⟩) ++ c.name) ++ ⟨#[47]⟩) ++ dec c.rate) ++ (⟨#[47]⟩ ++ dec c.chans)))] rfl ?hown ⟨w3.heap.size + 1, 0, none⟩ 1 1 [.string ⟨#[102, 109, 116, 112]⟩, .string ((dec c.pay ++ ⟨#[32]⟩) ++ c.line)] rfl rfl ?la1 ?la2 ?la3 ?la4 ?la5 ?_)
      case hown => exact HOWN0.out.alloc _
      case la1 => exact World.news_of_block (cs := #[.string ⟨#[102, 109, 116, 112]⟩, .string ((dec c.pay ++ ⟨#[32]⟩) ++ c.line)]) (t := 41) (fr := (0, 0)) (new_second w3 _ _)
      case la2 => intro u hu; simp at hu; rcases hu with rfl | rfl <;> rfl
      case la3 => decide
      case la4 => decide
      case la5 => simp; omega
      intro v' w4 hown' hgrow _
      have hrow : w4.ownsRow (w.heap.size + 1) 41 2 v' 2 (kvCells (preOf c)) := by
        rw [HPRE.out, HMV.out]
        exact hown'
      have HROW := Lib.hid hrow
      have b4 : Below w.heap.size w w4 := ((HB3.out.alloc (by omega) _).alloc (by simp; omega) _).grown hgrow (by simp; omega) (fun j hj => by simp [Value.ownBlock] at hj; omega)
      have HB4 := Lib.hid b4
      have f5 : w4.cell? ⟨w.heap.size, 5, none⟩ = some (.slice A5 c.fb.length c5) := (hgrow.cell_far _ (by simp; omega) (by simp [Value.ownBlock]; omega)).trans (cell_al (cell_al c5' _) _)
      clear hown' hgrow hrow b4 c4 c5'
      go_wp2
      go_loopw [5, 48] (fun u i wr => ∃ k : Nat, k ≤ c.fb.length ∧ i = .int .i64 k ∧ wr.ownsRow (w.heap.size + 1) 41 2 u (2 + k) (kvCells (preOf c ++ fbRows c k)) ∧ Below w.heap.size w wr) (fun _ i _ => c.fb.length - (intOf i).toNat)
      case atStart => exact ⟨0, Nat.zero_le _, rfl, by rw [fbRows_zero, List.append_nil]; exact HROW.out, HB4.out⟩
      case round =>
        obtain ⟨wo, rfl⟩ : ∃ wo : World, wo = wr := ⟨_, rfl⟩
        obtain ⟨k, hk, rfl, hown, hb⟩ := hrel
        have HOWN := Lib.hid hown
        have hsz := hb.size
        have HB := Lib.hid hb
        clear hown hb
        by_cases hlt : k < c.fb.length
        · obtain ⟨b, o, rfl, _, p0, p1⟩ := H.out k c.fb[k] (by simp [hlt])
          have d0 := kp_of_below HB.out _ _ p0
          have d1 := kp_of_below HB.out _ _ p1
          have hf := HFB.out _ (List.getElem_mem hlt)
          have zf := (word_size hf.1).2
          have zg : c.fb[k].2.size ≤ 20 := by rcases hf.2 with h | h; omega; exact (word_size h).2
          have e1 := attrs_cells (pre := preOf c) hlt
          have E1 := Lib.hid e1
          have hd : decide ((k : Int) < (c.fb.length : Int)) = true := by simp; omega
          have hv : (c.fb[k].2.toList.isEmpty = false ∧ fbVal c c.fb[k] = ((dec c.pay ++ ⟨#[32]⟩) ++ c.fb[k].1) ++ (⟨#[32]⟩ ++ c.fb[k].2)) ∨ (c.fb[k].2.toList.isEmpty = true ∧ fbVal c c.fb[k] = (dec c.pay ++ ⟨#[32]⟩) ++ c.fb[k].1) := by
            unfold fbVal payB
            rw [isEmpty_size]
            by_cases h : c.fb[k].2.size = 0
            · right; simp [h]
            · left; simp [h]
          clear p0 p1 hf e1
          generalize c.fb[k] = x at d0 d1 zf zg E1 hv
          have n1 : ¬ 9223372036854775807 < (dec c.pay).size + 1 + x.1.size := by omega
          have n2 : ¬ 9223372036854775807 < 1 + x.2.size := by omega
          have n3 : ¬ 9223372036854775807 < (dec c.pay).size + 1 + x.1.size + (1 + x.2.size) := by omega
          rcases hv with ⟨hE, hv⟩ | ⟨hE, hv⟩
          · have HV := Lib.hid hv
            clear hv
            go_wp2_with (at_builtin; refine wpList_append_own _ rfl _ _ 29 rfl (w.heap.size + 1) 41 i0 _ 2 32 Tryd.underlying29 hi hz0 hz1 hz2 rfl (by decide) _ (2 + k) (kvCells (preOf c ++ fbRows c k)) rfl ?hown2 ⟨wo.heap.size + 1, 0, none⟩ 1 1 [.string ⟨#[114, 116, 99, 112, 45, 102, 98]⟩, .string (((dec c.pay ++ ⟨#[32]⟩) ++ x.1) ++ (⟨#[32]⟩ ++ x.2))] rfl rfl ?lb1 ?lb2 ?lb3 ?lb4 ?lb5 ?_)
            case hown2 => exact (HOWN.out.alloc _).alloc _
            case lb1 => exact World.news_of_block (cs := #[.string ⟨#[114, 116, 99, 112, 45, 102, 98]⟩, .string (((dec c.pay ++ ⟨#[32]⟩) ++ x.1) ++ (⟨#[32]⟩ ++ x.2))]) (t := 41) (fr := (0, 0)) (new_second wo _ _)
            case lb2 => intro u hu; simp at hu; rcases hu with rfl | rfl <;> rfl
            case lb3 => unfold maxLen; omega
            case lb4 => omega
            case lb5 => simp; omega
            intro v' w5 hown' hgrow _
            have e2 := E1.out
            rw [HV.out] at e2
            have hown9 : w5.ownsRow (w.heap.size + 1) 41 2 v' (2 + k + 1) (kvCells (preOf c ++ fbRows c (k + 1))) := by
              rw [e2]
              exact hown'
            have bel : Below w.heap.size w w5 := ((HB.out.alloc hsz _).alloc (by simp; omega) _).grown hgrow (by simp; omega) (fun j hj => by have := (HOWN.out.lt _ hj).1; omega)
            have OWN := Lib.hid hown9
            have BEL := Lib.hid bel
            clear hown' hown9 hgrow e2 bel d0 d1
            go_wp2
            go_roundw
            case rel => exact ⟨k + 1, by omega, by go_num, OWN.out, BEL.out⟩
            case measure => simp [intOf]; omega
          · have HV := Lib.hid hv
            clear hv
            go_wp2_with (at_builtin; refine wpList_append_own _ rfl _ _ 29 rfl (w.heap.size + 1) 41 i0 _ 2 32 Tryd.underlying29 hi hz0 hz1 hz2 rfl (by decide) _ (2 + k) (kvCells (preOf c ++ fbRows c k)) rfl ?hown2 ⟨wo.heap.size + 1, 0, none⟩ 1 1 [.string ⟨#[114, 116, 99, 112, 45, 102, 98]⟩, .string ((dec c.pay ++ ⟨#[32]⟩) ++ x.1)] rfl rfl ?lb1 ?lb2 ?lb3 ?lb4 ?lb5 ?_)
            case hown2 => exact (HOWN.out.alloc _).alloc _
            case lb1 => exact World.news_of_block (cs := #[.string ⟨#[114, 116, 99, 112, 45, 102, 98]⟩, .string ((dec c.pay ++ ⟨#[32]⟩) ++ x.1)]) (t := 41) (fr := (0, 0)) (new_second wo _ _)
            case lb2 => intro u hu; simp at hu; rcases hu with rfl | rfl <;> rfl
            case lb3 => unfold maxLen; omega
            case lb4 => omega
            case lb5 => simp; omega
            intro v' w5 hown' hgrow _
            have e2 := E1.out
            rw [HV.out] at e2
            have hown9 : w5.ownsRow (w.heap.size + 1) 41 2 v' (2 + k + 1) (kvCells (preOf c ++ fbRows c (k + 1))) := by
              rw [e2]
              exact hown'
            have bel : Below w.heap.size w w5 := ((HB.out.alloc hsz _).alloc (by simp; omega) _).grown hgrow (by simp; omega) (fun j hj => by have := (HOWN.out.lt _ hj).1; omega)
            have OWN := Lib.hid hown9
            have BEL := Lib.hid bel
            clear hown' hown9 hgrow e2 bel d0 d1
            go_wp2
            go_roundw
            case rel => exact ⟨k + 1, by omega, by go_num, OWN.out, BEL.out⟩
            case measure => simp [intOf]; omega
        · obtain rfl : k = c.fb.length := by omega
          have hd : decide ((c.fb.length : Int) < (c.fb.length : Int)) = false := by simp
          have hown := HOWN.out
          rw [fbRows_all] at hown
          obtain ⟨A', c', rfl, hr⟩ := own_kvs hown
          have HR9 := Lib.hid hr
          clear hown hr
          go_wp2
          go_ret
          exact ⟨⟨A', c', rfl, HR9.out.wide fun b hb _ => by have hb : w.heap.size + 1 ≤ b := hb; omega⟩, HB.out⟩
    · have HPRE := Lib.hid hpre
      clear hpre
      have hrow : (w3.alloc (.cells #[.string ⟨#[114, 116, 112, 109, 97, 112]⟩, .string ((((((dec c.pay ++ ⟨#[32]⟩) ++ c.name) ++ ⟨#[47]⟩) ++ dec c.rate) ++ (⟨#[47]⟩ ++ dec c.chans)))] 41)).ownsRow (w.heap.size + 1) 41 2 (.slice (some ⟨w3.heap.size, 0, none⟩) 1 1) 1 (kvCells (preOf c)) := by
        rw [HPRE.out, HMV.out]
        exact HOWN0.out
      have HROW := Lib.hid hrow
      have b4 : Below w.heap.size w (w3.alloc (.cells #[.string ⟨#[114, 116, 112, 109, 97, 112]⟩, .string ((((((dec c.pay ++ ⟨#[32]⟩) ++ c.name) ++ ⟨#[47]⟩) ++ dec c.rate) ++ (⟨#[47]⟩ ++ dec c.chans)))] 41)) := HB3.out.alloc (by omega) _
      have HB4 := Lib.hid b4
      clear hrow b4
      go_wp2
      go_loopw [5, 48] (fun u i wr => ∃ k : Nat, k ≤ c.fb.length ∧ i = .int .i64 k ∧ wr.ownsRow (w.heap.size + 1) 41 2 u (1 + k) (kvCells (preOf c ++ fbRows c k)) ∧ Below w.heap.size w wr) (fun _ i _ => c.fb.length - (intOf i).toNat)
      case atStart => exact ⟨0, Nat.zero_le _, rfl, by rw [fbRows_zero, List.append_nil]; exact HROW.out, HB4.out⟩
      case round =>
        obtain ⟨wo, rfl⟩ : ∃ wo : World, wo = wr := ⟨_, rfl⟩
        obtain ⟨k, hk, rfl, hown, hb⟩ := hrel
        have HOWN := Lib.hid hown
        have hsz := hb.size
        have HB := Lib.hid hb
        clear hown hb
        by_cases hlt : k < c.fb.length
        · obtain ⟨b, o, rfl, _, p0, p1⟩ := H.out k c.fb[k] (by simp [hlt])
          have d0 := kp_of_below HB.out _ _ p0
          have d1 := kp_of_below HB.out _ _ p1
          have hf := HFB.out _ (List.getElem_mem hlt)
          have zf := (word_size hf.1).2
          have zg : c.fb[k].2.size ≤ 20 := by rcases hf.2 with h | h; omega; exact (word_size h).2
          have e1 := attrs_cells (pre := preOf c) hlt
          have E1 := Lib.hid e1
          have hd : decide ((k : Int) < (c.fb.length : Int)) = true := by simp; omega
          have hv : (c.fb[k].2.toList.isEmpty = false ∧ fbVal c c.fb[k] = ((dec c.pay ++ ⟨#[32]⟩) ++ c.fb[k].1) ++ (⟨#[32]⟩ ++ c.fb[k].2)) ∨ (c.fb[k].2.toList.isEmpty = true ∧ fbVal c c.fb[k] = (dec c.pay ++ ⟨#[32]⟩) ++ c.fb[k].1) := by
            unfold fbVal payB
            rw [isEmpty_size]
            by_cases h : c.fb[k].2.size = 0
            · right; simp [h]
            · left; simp [h]
          clear p0 p1 hf e1
          generalize c.fb[k] = x at d0 d1 zf zg E1 hv
          have n1 : ¬ 9223372036854775807 < (dec c.pay).size + 1 + x.1.size := by omega
          have n2 : ¬ 9223372036854775807 < 1 + x.2.size := by omega
          have n3 : ¬ 9223372036854775807 < (dec c.pay).size + 1 + x.1.size + (1 + x.2.size) := by omega
          rcases hv with ⟨hE, hv⟩ | ⟨hE, hv⟩
          · have HV := Lib.hid hv
            clear hv
            go_wp2_with (at_builtin; refine wpList_append_own _ rfl _ _ 29 rfl (w.heap.size + 1) 41 i0 _ 2 32 Tryd.underlying29 hi hz0 hz1 hz2 rfl (by decide) _ (1 + k) (kvCells (preOf c ++ fbRows c k)) rfl ?hown2 ⟨wo.heap.size + 1, 0, none⟩ 1 1 [.string ⟨#[114, 116, 99, 112, 45, 102, 98]⟩, .string (((dec c.pay ++ ⟨#[32]⟩) ++ x.1) ++ (⟨#[32]⟩ ++ x.2))] rfl rfl ?lb1 ?lb2 ?lb3 ?lb4 ?lb5 ?_)
            case hown2 => exact (HOWN.out.alloc _).alloc _
            case lb1 => exact World.news_of_block (cs := #[.string ⟨#[114, 116, 99, 112, 45, 102, 98]⟩, .string (((dec c.pay ++ ⟨#[32]⟩) ++ x.1) ++ (⟨#[32]⟩ ++ x.2))]) (t := 41) (fr := (0, 0)) (new_second wo _ _)
            case lb2 => intro u hu; simp at hu; rcases hu with rfl | rfl <;> rfl
            case lb3 => unfold maxLen; omega
            case lb4 => omega
            case lb5 => simp; omega
            intro v' w5 hown' hgrow _
            have e2 := E1.out
            rw [HV.out] at e2
            have hown9 : w5.ownsRow (w.heap.size + 1) 41 2 v' (1 + k + 1) (kvCells (preOf c ++ fbRows c (k + 1))) := by
              rw [e2]
              exact hown'
            have bel : Below w.heap.size w w5 := ((HB.out.alloc hsz _).alloc (by simp; omega) _).grown hgrow (by simp; omega) (fun j hj => by have := (HOWN.out.lt _ hj).1; omega)
            have OWN := Lib.hid hown9
            have BEL := Lib.hid bel
            clear hown' hown9 hgrow e2 bel d0 d1
            go_wp2
            go_roundw
            case rel => exact ⟨k + 1, by omega, by go_num, OWN.out, BEL.out⟩
            case measure => simp [intOf]; omega
          · have HV := Lib.hid hv
            clear hv
            go_wp2_with (at_builtin; refine wpList_append_own _ rfl _ _ 29 rfl (w.heap.size + 1) 41 i0 _ 2 32 Tryd.underlying29 hi hz0 hz1 hz2 rfl (by decide) _ (1 + k) (kvCells (preOf c ++ fbRows c k)) rfl ?hown2 ⟨wo.heap.size + 1, 0, none⟩ 1 1 [.string ⟨#[114, 116, 99, 112, 45, 102, 98]⟩, .string ((dec c.pay ++ ⟨#[32]⟩) ++ x.1)] rfl rfl ?lb1 ?lb2 ?lb3 ?lb4 ?lb5 ?_)
            case hown2 => exact (HOWN.out.alloc _).alloc _
            case lb1 => exact World.news_of_block (cs := #[.string ⟨#[114, 116, 99, 112, 45, 102, 98]⟩, .string ((dec c.pay ++ ⟨#[32]⟩) ++ x.1)]) (t := 41) (fr := (0, 0)) (new_second wo _ _)
            case lb2 => intro u hu; simp at hu; rcases hu with rfl | rfl <;> rfl
            case lb3 => unfold maxLen; omega
            case lb4 => omega
            case lb5 => simp; omega
            intro v' w5 hown' hgrow _
            have e2 := E1.out
            rw [HV.out] at e2
            have hown9 : w5.ownsRow (w.heap.size + 1) 41 2 v' (1 + k + 1) (kvCells (preOf c ++ fbRows c (k + 1))) := by
              rw [e2]
              exact hown'
            have bel : Below w.heap.size w w5 := ((HB.out.alloc hsz _).alloc (by simp; omega) _).grown hgrow (by simp; omega) (fun j hj => by have := (HOWN.out.lt _ hj).1; omega)
            have OWN := Lib.hid hown9
            have BEL := Lib.hid bel
            clear hown' hown9 hgrow e2 bel d0 d1
            go_wp2
            go_roundw
            case rel => exact ⟨k + 1, by omega, by go_num, OWN.out, BEL.out⟩
            case measure => simp [intOf]; omega
        · obtain rfl : k = c.fb.length := by omega
          have hd : decide ((c.fb.length : Int) < (c.fb.length : Int)) = false := by simp
          have hown := HOWN.out
          rw [fbRows_all] at hown
          obtain ⟨A', c', rfl, hr⟩ := own_kvs hown
          have HR9 := Lib.hid hr
          clear hown hr
          go_wp2
          go_ret
          exact ⟨⟨A', c', rfl, HR9.out.wide fun b hb _ => by have hb : w.heap.size + 1 ≤ b := hb; omega⟩, HB.out⟩
  · obtain ⟨w3, rfl⟩ : ∃ w3, w3 = w2 := ⟨_, rfl⟩
    have B3 := Lib.hid (B1.out.below hb2)
    have HB3 := Lib.hid (below_step bb.out bb.out.size hb2)
    have c2 : w3.cell? ⟨w.heap.size, 2, none⟩ = some (.int .i64 c.chans) := B3.out.cell (j := 2) rfl
    have c4 : w3.cell? ⟨w.heap.size, 4, none⟩ = some (.string c.line) := B3.out.cell (j := 4) rfl
    have c5' : w3.cell? ⟨w.heap.size, 5, none⟩ = some (.slice A5 c.fb.length c5) := B3.out.cell (j := 5) rfl
    have l3 : w.heap.size < w3.heap.size := B3.out.lt
    clear hb2
    have HMV := Lib.hid hmv
    clear hmv
    have hown0 : (w3.alloc (.cells #[.string ⟨#[114, 116, 112, 109, 97, 112]⟩, .string (((((dec c.pay ++ ⟨#[32]⟩) ++ c.name) ++ ⟨#[47]⟩) ++ dec c.rate))] 41)).ownsRow (w.heap.size + 1) 41 2 (.slice (some ⟨w3.heap.size, 0, none⟩) 1 1) 1 [.string ⟨#[114, 116, 112, 109, 97, 112]⟩, .string (((((dec c.pay ++ ⟨#[32]⟩) ++ c.name) ++ ⟨#[47]⟩) ++ dec c.rate))] := World.ownsRow_lit w3 _ 1 (by omega) (by decide) rfl
    have HOWN0 := Lib.hid hown0
    clear hown0
    rcases hli with ⟨hL, hpre⟩ | ⟨hL, hpre⟩
    · have HPRE := Lib.hid hpre
      clear hpre
      go_wp2_with (at_builtin; refine wpList_append_own _ rfl _ _ 29 rfl (w.heap.size + 1) 41 i0 _ 2 32 Tryd.underlying29 hi hz0 hz1 hz2 rfl (by decide) (.slice (some ⟨w3.heap.size, 0, none⟩) 1 1) 1 [.string ⟨#[114, 116, 112, 109, 97, 112]⟩, .string (((((dec c.pay ++ ⟨#[32]⟩) ++ c.name) ++ ⟨#[47]⟩) ++ dec c.rate))] rfl ?hown ⟨w3.heap.size + 1, 0, none⟩ 1 1 [.string ⟨#[102, 109, 116, 112]⟩, .string ((dec c.pay ++ ⟨#[32]⟩) ++ c.line)] rfl rfl ?la1 ?la2 ?la3 ?la4 ?la5 ?_)
      case hown => exact HOWN0.out.alloc _
      case la1 => exact World.news_of_block (cs := #[.string ⟨#[102, 109, 116, 112]⟩, .string ((dec c.pay ++ ⟨#[32]⟩) ++ c.line)]) (t := 41) (fr := (0, 0)) (new_second w3 _ _)
      case la2 => intro u hu; simp at hu; rcases hu with rfl | rfl <;> rfl
      case la3 => decide
      case la4 => decide
      case la5 => simp; omega
      intro v' w4 hown' hgrow _
      have hrow : w4.ownsRow (w.heap.size + 1) 41 2 v' 2 (kvCells (preOf c)) := by
        rw [HPRE.out, HMV.out]
        exact hown'
      have HROW := Lib.hid hrow
      have b4 : Below w.heap.size w w4 := ((HB3.out.alloc (by omega) _).alloc (by simp; omega) _).grown hgrow (by simp; omega) (fun j hj => by simp [Value.ownBlock] at hj; omega)
      have HB4 := Lib.hid b4
      have f5 : w4.cell? ⟨w.heap.size, 5, none⟩ = some (.slice A5 c.fb.length c5) := (hgrow.cell_far _ (by simp; omega) (by simp [Value.ownBlock]; omega)).trans (cell_al (cell_al c5' _) _)
      clear hown' hgrow hrow b4 c4 c5'
      go_wp2
      go_loopw [5, 48] (fun u i wr => ∃ k : Nat, k ≤ c.fb.length ∧ i = .int .i64 k ∧ wr.ownsRow (w.heap.size + 1) 41 2 u (2 + k) (kvCells (preOf c ++ fbRows c k)) ∧ Below w.heap.size w wr) (fun _ i _ => c.fb.length - (intOf i).toNat)
      case atStart => exact ⟨0, Nat.zero_le _, rfl, by rw [fbRows_zero, List.append_nil]; exact HROW.out, HB4.out⟩
      case round =>
        obtain ⟨wo, rfl⟩ : ∃ wo : World, wo = wr := ⟨_, rfl⟩
        obtain ⟨k, hk, rfl, hown, hb⟩ := hrel
        have HOWN := Lib.hid hown
        have hsz := hb.size
        have HB := Lib.hid hb
        clear hown hb
        by_cases hlt : k < c.fb.length
        · obtain ⟨b, o, rfl, _, p0, p1⟩ := H.out k c.fb[k] (by simp [hlt])
          have d0 := kp_of_below HB.out _ _ p0
          have d1 := kp_of_below HB.out _ _ p1
          have hf := HFB.out _ (List.getElem_mem hlt)
          have zf := (word_size hf.1).2
          have zg : c.fb[k].2.size ≤ 20 := by rcases hf.2 with h | h; omega; exact (word_size h).2
          have e1 := attrs_cells (pre := preOf c) hlt
          have E1 := Lib.hid e1
          have hd : decide ((k : Int) < (c.fb.length : Int)) = true := by simp; omega
          have hv : (c.fb[k].2.toList.isEmpty = false ∧ fbVal c c.fb[k] = ((dec c.pay ++ ⟨#[32]⟩) ++ c.fb[k].1) ++ (⟨#[32]⟩ ++ c.fb[k].2)) ∨ (c.fb[k].2.toList.isEmpty = true ∧ fbVal c c.fb[k] = (dec c.pay ++ ⟨#[32]⟩) ++ c.fb[k].1) := by
            unfold fbVal payB
            rw [isEmpty_size]
            by_cases h : c.fb[k].2.size = 0
            · right; simp [h]
            · left; simp [h]
          clear p0 p1 hf e1
          generalize c.fb[k] = x at d0 d1 zf zg E1 hv
          have n1 : ¬ 9223372036854775807 < (dec c.pay).size + 1 + x.1.size := by omega
          have n2 : ¬ 9223372036854775807 < 1 + x.2.size := by omega
          have n3 : ¬ 9223372036854775807 < (dec c.pay).size + 1 + x.1.size + (1 + x.2.size) := by omega
          rcases hv with ⟨hE, hv⟩ | ⟨hE, hv⟩
          · have HV := Lib.hid hv
            clear hv
            go_wp2_with (at_builtin; refine wpList_append_own _ rfl _ _ 29 rfl (w.heap.size + 1) 41 i0 _ 2 32 Tryd.underlying29 hi hz0 hz1 hz2 rfl (by decide) _ (2 + k) (kvCells (preOf c ++ fbRows c k)) rfl ?hown2 ⟨wo.heap.size + 1, 0, none⟩ 1 1 [.string ⟨#[114, 116, 99, 112, 45, 102, 98]⟩, .string (((dec c.pay ++ ⟨#[32]⟩) ++ x.1) ++ (⟨#[32]⟩ ++ x.2))] rfl rfl ?lb1 ?lb2 ?lb3 ?lb4 ?lb5 ?_)
            case hown2 => exact (HOWN.out.alloc _).alloc _
            case lb1 => exact World.news_of_block (cs := #[.string ⟨#[114, 116, 99, 112, 45, 102, 98]⟩, .string (((dec c.pay ++ ⟨#[32]⟩) ++ x.1) ++ (⟨#[32]⟩ ++ x.2))]) (t := 41) (fr := (0, 0)) (new_second wo _ _)
            case lb2 => intro u hu; simp at hu; rcases hu with rfl | rfl <;> rfl
            case lb3 => unfold maxLen; omega
            case lb4 => omega
            case lb5 => simp; omega
            intro v' w5 hown' hgrow _
            have e2 := E1.out
            rw [HV.out] at e2
            have hown9 : w5.ownsRow (w.heap.size + 1) 41 2 v' (2 + k + 1) (kvCells (preOf c ++ fbRows c (k + 1))) := by
              rw [e2]
              exact hown'
            have bel : Below w.heap.size w w5 := ((HB.out.alloc hsz _).alloc (by simp; omega) _).grown hgrow (by simp; omega) (fun j hj => by have := (HOWN.out.lt _ hj).1; omega)
            have OWN := Lib.hid hown9
            have BEL := Lib.hid bel
            clear hown' hown9 hgrow e2 bel d0 d1
            go_wp2
            go_roundw
            case rel => exact ⟨k + 1, by omega, by go_num, OWN.out, BEL.out⟩
            case measure => simp [intOf]; omega
          · have HV := Lib.hid hv
            clear hv
            go_wp2_with (at_builtin; refine wpList_append_own _ rfl _ _ 29 rfl (w.heap.size + 1) 41 i0 _ 2 32 Tryd.underlying29 hi hz0 hz1 hz2 rfl (by decide) _ (2 + k) (kvCells (preOf c ++ fbRows c k)) rfl ?hown2 ⟨wo.heap.size + 1, 0, none⟩ 1 1 [.string ⟨#[114, 116, 99, 112, 45, 102, 98]⟩, .string ((dec c.pay ++ ⟨#[32]⟩) ++ x.1)] rfl rfl ?lb1 ?lb2 ?lb3 ?lb4 ?lb5 ?_)
            case hown2 => exact (HOWN.out.alloc _).alloc _
            case lb1 => exact World.news_of_block (cs := #[.string ⟨#[114, 116, 99, 112, 45, 102, 98]⟩, .string ((dec c.pay ++ ⟨#[32]⟩) ++ x.1)]) (t := 41) (fr := (0, 0)) (new_second wo _ _)
            case lb2 => intro u hu; simp at hu; rcases hu with rfl | rfl <;> rfl
            case lb3 => unfold maxLen; omega
            case lb4 => omega
            case lb5 => simp; omega
            intro v' w5 hown' hgrow _
            have e2 := E1.out
            rw [HV.out] at e2
            have hown9 : w5.ownsRow (w.heap.size + 1) 41 2 v' (2 + k + 1) (kvCells (preOf c ++ fbRows c (k + 1))) := by
              rw [e2]
              exact hown'
            have bel : Below w.heap.size w w5 := ((HB.out.alloc hsz _).alloc (by simp; omega) _).grown hgrow (by simp; omega) (fun j hj => by have := (HOWN.out.lt _ hj).1; omega)
            have OWN := Lib.hid hown9
            have BEL := Lib.hid bel
            clear hown' hown9 hgrow e2 bel d0 d1
            go_wp2
            go_roundw
            case rel => exact ⟨k + 1, by omega, by go_num, OWN.out, BEL.out⟩
            case measure => simp [intOf]; omega
        · obtain rfl : k = c.fb.length := by omega
          have hd : decide ((c.fb.length : Int) < (c.fb.length : Int)) = false := by simp
          have hown := HOWN.out
          rw [fbRows_all] at hown
          obtain ⟨A', c', rfl, hr⟩ := own_kvs hown
          have HR9 := Lib.hid hr
          clear hown hr
          go_wp2
          go_ret
          exact ⟨⟨A', c', rfl, HR9.out.wide fun b hb _ => by have hb : w.heap.size + 1 ≤ b := hb; omega⟩, HB.out⟩
    · have HPRE := Lib.hid hpre
      clear hpre
      have hrow : (w3.alloc (.cells #[.string ⟨#[114, 116, 112, 109, 97, 112]⟩, .string (((((dec c.pay ++ ⟨#[32]⟩) ++ c.name) ++ ⟨#[47]⟩) ++ dec c.rate))] 41)).ownsRow (w.heap.size + 1) 41 2 (.slice (some ⟨w3.heap.size, 0, none⟩) 1 1) 1 (kvCells (preOf c)) := by
        rw [HPRE.out, HMV.out]
        exact HOWN0.out
      have HROW := Lib.hid hrow
      have b4 : Below w.heap.size w (w3.alloc (.cells #[.string ⟨#[114, 116, 112, 109, 97, 112]⟩, .string (((((dec c.pay ++ ⟨#[32]⟩) ++ c.name) ++ ⟨#[47]⟩) ++ dec c.rate))] 41)) := HB3.out.alloc (by omega) _
      have HB4 := Lib.hid b4
      clear hrow b4
      go_wp2
      go_loopw [5, 48] (fun u i wr => ∃ k : Nat, k ≤ c.fb.length ∧ i = .int .i64 k ∧ wr.ownsRow (w.heap.size + 1) 41 2 u (1 + k) (kvCells (preOf c ++ fbRows c k)) ∧ Below w.heap.size w wr) (fun _ i _ => c.fb.length - (intOf i).toNat)
      case atStart => exact ⟨0, Nat.zero_le _, rfl, by rw [fbRows_zero, List.append_nil]; exact HROW.out, HB4.out⟩
      case round =>
        obtain ⟨wo, rfl⟩ : ∃ wo : World, wo = wr := ⟨_, rfl⟩
        obtain ⟨k, hk, rfl, hown, hb⟩ := hrel
        have HOWN := Lib.hid hown
        have hsz := hb.size
        have HB := Lib.hid hb
        clear hown hb
        by_cases hlt : k < c.fb.length
        · obtain ⟨b, o, rfl, _, p0, p1⟩ := H.out k c.fb[k] (by simp [hlt])
          have d0 := kp_of_below HB.out _ _ p0
          have d1 := kp_of_below HB.out _ _ p1
          have hf := HFB.out _ (List.getElem_mem hlt)
          have zf := (word_size hf.1).2
          have zg : c.fb[k].2.size ≤ 20 := by rcases hf.2 with h | h; omega; exact (word_size h).2
          have e1 := attrs_cells (pre := preOf c) hlt
          have E1 := Lib.hid e1
          have hd : decide ((k : Int) < (c.fb.length : Int)) = true := by simp; omega
          have hv : (c.fb[k].2.toList.isEmpty = false ∧ fbVal c c.fb[k] = ((dec c.pay ++ ⟨#[32]⟩) ++ c.fb[k].1) ++ (⟨#[32]⟩ ++ c.fb[k].2)) ∨ (c.fb[k].2.toList.isEmpty = true ∧ fbVal c c.fb[k] = (dec c.pay ++ ⟨#[32]⟩) ++ c.fb[k].1) := by
            unfold fbVal payB
            rw [isEmpty_size]
            by_cases h : c.fb[k].2.size = 0
            · right; simp [h]
            · left; simp [h]
          clear p0 p1 hf e1
          generalize c.fb[k] = x at d0 d1 zf zg E1 hv
          have n1 : ¬ 9223372036854775807 < (dec c.pay).size + 1 + x.1.size := by omega
          have n2 : ¬ 9223372036854775807 < 1 + x.2.size := by omega
          have n3 : ¬ 9223372036854775807 < (dec c.pay).size + 1 + x.1.size + (1 + x.2.size) := by omega
          rcases hv with ⟨hE, hv⟩ | ⟨hE, hv⟩
          · have HV := Lib.hid hv
            clear hv
            go_wp2_with (at_builtin; refine wpList_append_own _ rfl _ _ 29 rfl (w.heap.size + 1) 41 i0 _ 2 32 Tryd.underlying29 hi hz0 hz1 hz2 rfl (by decide) _ (1 + k) (kvCells (preOf c ++ fbRows c k)) rfl ?hown2 ⟨wo.heap.size + 1, 0, none⟩ 1 1 [.string ⟨#[114, 116, 99, 112, 45, 102, 98]⟩, .string (((dec c.pay ++ ⟨#[32]⟩) ++ x.1) ++ (⟨#[32]⟩ ++ x.2))] rfl rfl ?lb1 ?lb2 ?lb3 ?lb4 ?lb5 ?_)
            case hown2 => exact (HOWN.out.alloc _).alloc _
            case lb1 => exact World.news_of_block (cs := #[.string ⟨#[114, 116, 99, 112, 45, 102, 98]⟩, .string (((dec c.pay ++ ⟨#[32]⟩) ++ x.1) ++ (⟨#[32]⟩ ++ x.2))]) (t := 41) (fr := (0, 0)) (new_second wo _ _)
            case lb2 => intro u hu; simp at hu; rcases hu with rfl | rfl <;> rfl
            case lb3 => unfold maxLen; omega
            case lb4 => omega
            case lb5 => simp; omega
            intro v' w5 hown' hgrow _
            have e2 := E1.out
            rw [HV.out] at e2
            have hown9 : w5.ownsRow (w.heap.size + 1) 41 2 v' (1 + k + 1) (kvCells (preOf c ++ fbRows c (k + 1))) := by
              rw [e2]
              exact hown'
            have bel : Below w.heap.size w w5 := ((HB.out.alloc hsz _).alloc (by simp; omega) _).grown hgrow (by simp; omega) (fun j hj => by have := (HOWN.out.lt _ hj).1; omega)
            have OWN := Lib.hid hown9
            have BEL := Lib.hid bel
            clear hown' hown9 hgrow e2 bel d0 d1
            go_wp2
            go_roundw
            case rel => exact ⟨k + 1, by omega, by go_num, OWN.out, BEL.out⟩
            case measure => simp [intOf]; omega
          · have HV := Lib.hid hv
            clear hv
            go_wp2_with (at_builtin; refine wpList_append_own _ rfl _ _ 29 rfl (w.heap.size + 1) 41 i0 _ 2 32 Tryd.underlying29 hi hz0 hz1 hz2 rfl (by decide) _ (1 + k) (kvCells (preOf c ++ fbRows c k)) rfl ?hown2 ⟨wo.heap.size + 1, 0, none⟩ 1 1 [.string ⟨#[114, 116, 99, 112, 45, 102, 98]⟩, .string ((dec c.pay ++ ⟨#[32]⟩) ++ x.1)] rfl rfl ?lb1 ?lb2 ?lb3 ?lb4 ?lb5 ?_)
            case hown2 => exact (HOWN.out.alloc _).alloc _
            case lb1 => exact World.news_of_block (cs := #[.string ⟨#[114, 116, 99, 112, 45, 102, 98]⟩, .string ((dec c.pay ++ ⟨#[32]⟩) ++ x.1)]) (t := 41) (fr := (0, 0)) (new_second wo _ _)
            case lb2 => intro u hu; simp at hu; rcases hu with rfl | rfl <;> rfl
            case lb3 => unfold maxLen; omega
            case lb4 => omega
            case lb5 => simp; omega
            intro v' w5 hown' hgrow _
            have e2 := E1.out
            rw [HV.out] at e2
            have hown9 : w5.ownsRow (w.heap.size + 1) 41 2 v' (1 + k + 1) (kvCells (preOf c ++ fbRows c (k + 1))) := by
              rw [e2]
              exact hown'
            have bel : Below w.heap.size w w5 := ((HB.out.alloc hsz _).alloc (by simp; omega) _).grown hgrow (by simp; omega) (fun j hj => by have := (HOWN.out.lt _ hj).1; omega)
            have OWN := Lib.hid hown9
            have BEL := Lib.hid bel
            clear hown' hown9 hgrow e2 bel d0 d1
            go_wp2
            go_roundw
            case rel => exact ⟨k + 1, by omega, by go_num, OWN.out, BEL.out⟩
            case measure => simp [intOf]; omega
        · obtain rfl : k = c.fb.length := by omega
          have hd : decide ((c.fb.length : Int) < (c.fb.length : Int)) = false := by simp
          have hown := HOWN.out
          rw [fbRows_all] at hown
          obtain ⟨A', c', rfl, hr⟩ := own_kvs hown
          have HR9 := Lib.hid hr
          clear hown hr
          go_wp2
          go_ret
          exact ⟨⟨A', c', rfl, HR9.out.wide fun b hb _ => by have hb : w.heap.size + 1 ≤ b := hb; omega⟩, HB.out⟩
end Go.Proofs.YtkaelnfhohggeaaDoor
