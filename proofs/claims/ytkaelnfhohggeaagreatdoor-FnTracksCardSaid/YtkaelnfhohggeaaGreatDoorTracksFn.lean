/- The thin package's reader of tracks: its function. -/
import Derived.Test.YtkaelnfhohggeaaGreatDoorTracksClose
import Derived.Deep.RegionHeld3
namespace Go.Proofs.YtkaelnfhohggeaaGreatDoor
open Go.RowKit Go.WideMaps Go.Maps

theorem Tryz.infoU32 : (Tryz.prog.info? 24).map (fun i => (i.zero, i.size, i.bytes)) = some (some (.int .u32 0), 1, 4) := by kernel_rfl
theorem Tryz.infoITrack : (Tryz.prog.info? 39).map (fun i => (i.zero, i.size, i.bytes)) = some (some (.agg #[.string ByteArray.empty, .string ByteArray.empty, .string ByteArray.empty, .string ByteArray.empty, .slice none 0 0, .int .u32 0, .int .u32 0, .slice none 0 0]), 8, 120) := by kernel_rfl

set_option maxHeartbeats 1000000 in
set_option maxRecDepth 100000 in
theorem clone_u32 (b n k : Nat) (w : World) (h : w.cell? ⟨b, 0, none⟩ = some (.int .u32 n)) :
    Calls Tryz.prog 14 #[.slice (some ⟨b, 0, none⟩) 1 k] w fun e w' => ∃ b' k', e = .returned (.slice (some ⟨b', 0, none⟩) 1 k') ∧ w.heap.size ≤ b' ∧ w'.cell? ⟨b', 0, none⟩ = some (.int .u32 n) ∧ Below w.heap.size w w' := by
  obtain ⟨i0, hi, hz0, hz1, hz2⟩ := info_parts Tryz.infoU32
  have qT : ∀ (w : World) (a : Option Addr) (n c n' c' : Nat), (binOp .eql 22 (.slice a n c) (.slice none n' c')).run Tryz.prog w = .ok (.bool a.isNone) w := fun w a n c n' c' => Lib.run_eql_slice_nil w _ _ a n c n' c' Tryz.underlying22
  have H := Lib.hid h
  clear h
  go_enter Tryz.func14, Tryz.ntmps14
  go_wp2_with (at_builtin; refine wpList_append_own _ rfl _ _ 22 rfl w.heap.size 24 i0 _ 1 4 Tryz.underlying22 hi hz0 hz1 hz2 rfl (by decide) _ _ _ rfl (World.ownsRow_made w #[] 0 (Nat.le_refl _) (Nat.zero_le _) rfl) ⟨b, 0, none⟩ 1 k [.int .u32 n] rfl rfl ?qc2 ?qc3 (by decide) (by decide) ?qc6 ?_)
  case qc2 =>
    intro j u hj
    match j, hj with
    | 0, hj =>
      cases hj
      rw [add_at]
      exact cell_al H.out _
  case qc3 => intro u hu; simp at hu; subst hu; rfl
  case qc6 => simp
  intro v' w1 hown hgrow _
  have hb : Below w.heap.size w w1 := ((Below.refl _ w).alloc (Nat.le_refl _) _).grown hgrow (by simp) (by intro k hk; simp [Value.ownBlock] at hk; omega)
  have hcl := @World.ownsRow.cells _ _ _ _ _ _ _ hown
  have hlt := hown.lt
  rcases hown.2 with ⟨rfl, hx⟩ | ⟨g, cap, cur, rfl, _⟩
  · cases hx
  · have c0 := hcl (g := g) rfl 0 (.int .u32 n) rfl
    rw [add_at] at c0
    have l0 := (hlt g rfl).1
    clear hgrow hown hcl hlt
    go_wp2
    go_ret
    exact ⟨g, cap, rfl, l0, c0, hb⟩

/-- The law's medium. -/
def trackMed (mid s t : ByteArray) (n : Nat) : MediaD := ⟨⟨#[97, 117, 100, 105, 111]⟩, [⟨#[57, 54]⟩], trackAttrs mid s t n⟩

set_option maxHeartbeats 4000000 in
set_option maxRecDepth 1000000 in
theorem tracks1_any (db ob : Nat) (aA mA : Option Addr) (ac mc : Nat) (mid s t : ByteArray) (n : Nat) (w : World) (hm : wordB mid = true) (hs : wordB s = true) (ht : wordB t = true) (hn : n ≤ 4294967295)
    (hmm : Meds w mA [trackMed mid s t n]) (c0 : w.cell? ⟨db, 0, none⟩ = some (.slice aA 0 ac)) (c1 : w.cell? ⟨db, 1, none⟩ = some (.slice mA 1 mc)) (co : w.cell? ⟨ob, 0, none⟩ = some (.slice none 0 0)) (zo : w.frozen? ⟨ob, 0, none⟩ = false) :
    Calls Tryz.prog 11 #[.pointer (some ⟨db, 0, none⟩), .pointer (some ⟨ob, 0, none⟩)] w fun e w' => e = .returned (.bool true) ∧ ∃ g k, w'.cell? ⟨ob, 0, none⟩ = some (.slice (some ⟨g, 0, none⟩) 1 k) ∧ w'.frozen? ⟨ob, 0, none⟩ = false ∧ ZTrack (w.heap.size ≤ ·) w' g mid s t n ∧ w.grownBy w' (some ob) := by
  obtain ⟨i0, hi, hz0, hz1, hz2⟩ := info_parts Tryz.infoITrack
  have HM := Lib.hid hmm
  have HDS := Lib.hid (description_any (D := fun _ => True) aA mA ac mc [] [trackMed mid s t n] w (by simp) (by simp) (fun m h => by simp at h; subst h; exact ⟨by simp [trackMed], by simp [trackMed, trackAttrs]⟩) (KVs.nil _ _ _) hmm)
  have lo : ob < w.heap.size := World.block_lt_of_cell? _ _ co
  clear hmm
  go_enter Tryz.func11, Tryz.ntmps11
  go_wp2_with (first
    | (go_at_call 13; refine HDS.out.mono ?_; rintro e w1 ⟨q, rfl, hsd, hb1⟩)
    | (go_at_call 12; refine (zzTracks_any q mid s t n _ _ hm hs ht hn hsd).mono ?_; rintro e w2 ⟨g, c, rfl, ⟨hg, t0, t1, t2, t3, ⟨sb, sk, hsb, tsb, t4⟩, t5, t6, t7⟩, hb2⟩; have co2 := kp_of_below hb2 _ _ (kp_of_below hb1 _ _ co); have s1 := hb1.size; have s2 := hb2.size; have zo2 : w2.frozen? ⟨ob, 0, none⟩ = false := (hb2.frozen (by simp; omega)).trans ((hb1.frozen (by simp; omega)).trans zo); have lsb : sb < w2.heap.size := World.block_lt_of_cell? _ _ tsb; have bb2 := Lib.hid (below_step hb1 s1 hb2)))
  refine wp_loop_rounds 2 ?_
  rw [rounds_succ]
  go_wp2_with fail
  have m0 := (Blk.new w2 [.string mid, .string ⟨#[97, 117, 100, 105, 111]⟩, .string s, .string t, .slice (some ⟨sb, 0, none⟩) 1 sk, .int .u32 0, .int .u32 0, .slice none 0 0] 48)
  have d0 := m0.cell (j := 0) rfl
  have d1 := m0.cell (j := 1) rfl
  have d2 := m0.cell (j := 2) rfl
  have d3 := m0.cell (j := 3) rfl
  have d4 := m0.cell (j := 4) rfl
  have d5 := m0.cell (j := 5) rfl
  have d6 := m0.cell (j := 6) rfl
  have d7 := m0.cell (j := 7) rfl
  have dO := cell_al co2 (.cells #[.string mid, .string ⟨#[97, 117, 100, 105, 111]⟩, .string s, .string t, .slice (some ⟨sb, 0, none⟩) 1 sk, .int .u32 0, .int .u32 0, .slice none 0 0] 48)
  have dZ := frozen_al co2 zo2 (.cells #[.string mid, .string ⟨#[97, 117, 100, 105, 111]⟩, .string s, .string t, .slice (some ⟨sb, 0, none⟩) 1 sk, .int .u32 0, .int .u32 0, .slice none 0 0] 48)
  have dS := cell_al tsb (.cells #[.string mid, .string ⟨#[97, 117, 100, 105, 111]⟩, .string s, .string t, .slice (some ⟨sb, 0, none⟩) 1 sk, .int .u32 0, .int .u32 0, .slice none 0 0] 48)
  have bb3 : Below w.heap.size w (w2.alloc (.cells #[.string mid, .string ⟨#[97, 117, 100, 105, 111]⟩, .string s, .string t, .slice (some ⟨sb, 0, none⟩) 1 sk, .int .u32 0, .int .u32 0, .slice none 0 0] 48)) := bb2.out.alloc (by omega) _
  have eN : w2.heap.size < (w2.alloc (.cells #[.string mid, .string ⟨#[97, 117, 100, 105, 111]⟩, .string s, .string t, .slice (some ⟨sb, 0, none⟩) 1 sk, .int .u32 0, .int .u32 0, .slice none 0 0] 48)).heap.size := by simp
  have lW : ob < (w2.alloc (.cells #[.string mid, .string ⟨#[97, 117, 100, 105, 111]⟩, .string s, .string t, .slice (some ⟨sb, 0, none⟩) 1 sk, .int .u32 0, .int .u32 0, .slice none 0 0] 48)).heap.size := by simp; omega
  clear m0 t0 t1 t2 t3 t4 t5 t6 t7 tsb co2 zo2 co c0 c1 zo hsd
  generalize (w2.alloc (.cells #[.string mid, .string ⟨#[97, 117, 100, 105, 111]⟩, .string s, .string t, .slice (some ⟨sb, 0, none⟩) 1 sk, .int .u32 0, .int .u32 0, .slice none 0 0] 48)) = W at *
  generalize w2.heap.size = N at *
  have neN : N ≠ ob := by omega
  have neS : sb ≠ ob := by omega
  go_region_held3 (fun w' => w'.cell? ⟨N, 0, none⟩ = some (.string mid) ∧ w'.cell? ⟨N, 1, none⟩ = some (.string ⟨#[97, 117, 100, 105, 111]⟩) ∧ w'.cell? ⟨N, 2, none⟩ = some (.string s) ∧ w'.cell? ⟨N, 3, none⟩ = some (.string t) ∧ w'.cell? ⟨N, 4, none⟩ = some (.slice (some ⟨sb, 0, none⟩) 1 sk) ∧ w'.cell? ⟨N, 5, none⟩ = some (.int .u32 0) ∧ w'.cell? ⟨N, 6, none⟩ = some (.int .u32 0) ∧ w'.cell? ⟨N, 7, none⟩ = some (.slice none 0 0) ∧ w'.cell? ⟨sb, 0, none⟩ = some (.int .u32 n))
    (first
      | (go_split_ands; exact ⟨d0, d1, d2, d3, d4, d5, d6, d7, dS⟩)
      | (go_split_ands; refine ⟨?_, ?_, ?_, ?_, ?_, ?_, ?_, ?_, ?_⟩ <;> exact kp_of_below hb3 _ _ (by assumption))
      | (go_split_ands; refine ⟨?_, ?_, ?_, ?_, ?_, ?_, ?_, ?_, ?_⟩ <;> first | assumption | exact cell_al (by assumption) _ | exact cell_al (cell_al (by assumption) _) _ | exact (cell_drew _ _).trans (cell_al (by assumption) _) | exact (cell_drew _ _).trans (cell_al (cell_al ((World.cell?_setCell_other _ _ _ _ (fun e => by injection e with e _ _; omega)).trans (by assumption)) _) _))
      | (refine ⟨?_, ?_, ?_, ?_, ?_, ?_, ?_, ?_, ?_⟩ <;> exact (cell_drew _ _).trans (cell_al (cell_al ((World.cell?_setCell_other _ _ _ _ (fun e => by injection e with e _ _; omega)).trans (by assumption)) _) _))
      | go_keep)
    (first
      | (go_at_call 14; refine (clone_u32 sb n sk _ ?_).mono ?_; (go_split_ands; assumption); rintro e w3 ⟨b3, k3, rfl, hl3, c3, hb3⟩; have f0 := kp_of_below hb3 _ _ d0; have f1 := kp_of_below hb3 _ _ d1; have f2 := kp_of_below hb3 _ _ d2; have f3 := kp_of_below hb3 _ _ d3; have f4 := kp_of_below hb3 _ _ d4; have f5 := kp_of_below hb3 _ _ d5; have f6 := kp_of_below hb3 _ _ d6; have f7 := kp_of_below hb3 _ _ d7; have fS := kp_of_below hb3 _ _ dS; have cO3 : w3.cell? ⟨ob, 0, none⟩ = some (.slice none 0 0) := kp_of_below hb3 _ _ dO; have zO3 : w3.frozen? ⟨ob, 0, none⟩ = false := (hb3.frozen lW).trans dZ; have lO3 : ob < w3.heap.size := Nat.lt_of_lt_of_le lW hb3.size)
      | (go_at_call 15; refine (clone_strs_none 0 0 _).mono ?_; rintro e w4 ⟨rfl, rfl⟩))
  all_goals
    have l3' : W.heap.size ≤ b3 := hl3
    have sW := bb3.size
    have l3 : w.heap.size ≤ b3 := by omega
    have hb3' : Below W.heap.size W w3 := ⟨hb3.os, hb3.tape, hb3.output, hb3.size, hb3.block⟩
    have B3 := bb3.trans (hb3'.mono sW)
    have FIN := Lib.hid (fun kk Z => tracks_close (w := w) ob b3 k3 kk n mid s t _ B3 lo cO3 zO3 l3 c3 _ Z rfl 39 39)
    go_wp2_with fail
    rw [rounds_succ]
    go_wp2_with fail
    go_ret
    exact ⟨rfl, _, _, FIN.out _ _⟩
end Go.Proofs.YtkaelnfhohggeaaGreatDoor
