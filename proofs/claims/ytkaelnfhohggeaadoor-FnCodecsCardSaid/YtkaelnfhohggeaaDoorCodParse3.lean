/- parseRtcpFb on the attributes of FnCodecs. -/
import Derived.Test.YtkaelnfhohggeaaDoorCodParse2
namespace Go.Proofs.YtkaelnfhohggeaaDoor
open Go.RowKit

theorem fb_close {w w4 : World} (N pay kk : Nat) (fb : ByteArray) (Z : Array Value) (T : TypeId) (P4 : Blk w4 N [.int .u8 pay, .string ⟨#[]⟩, .int .u32 0, .string ⟨#[]⟩, .string ⟨#[]⟩, .slice none 0 0]) (B4 : Below N w w4) (hN : N = w.heap.size) :
    let v : Value := .slice (some ⟨w4.heap.size + 1, 0, none⟩) 1 kk
    let Wf := (((w4.setCell ⟨N, 5, none⟩ v).alloc (.cells #[.string fb] T)).alloc (.cells (#[.string fb] ++ Z) T)).drew.drew
    Blk Wf N [.int .u8 pay, .string ⟨#[]⟩, .int .u32 0, .string ⟨#[]⟩, .string ⟨#[]⟩, v] ∧ Wf.cell? ⟨w4.heap.size + 1, 0, none⟩ = some (.string fb) ∧ Below N w Wf := by
  intro v Wf
  have lt := P4.lt
  have sz : ((w4.setCell ⟨N, 5, none⟩ v).alloc (.cells #[.string fb] T)).heap.size = w4.heap.size + 1 := by simp
  have s0 : (w4.setCell ⟨N, 5, none⟩ v).heap.size = w4.heap.size := by simp
  exact ⟨(((P4.set 5 v).alloc _).alloc _), cell_front _ _ _ _ _ _ _ sz.symm rfl, (((B4.setCell (Nat.le_refl _) v).alloc (by omega) _).alloc (by omega) _).drew.drew⟩

set_option maxHeartbeats 4000000 in
set_option maxRecDepth 100000 in
theorem parseRtcpFb_any (pay : Nat) (fb : ByteArray) (w : World) (ev : Value) (hpay : pay ≤ 255) (hl : fb.size ≤ 100) (hg : w.cell? ⟨2, 0, none⟩ = some ev) :
    Calls Tryd.prog 36 #[.string (attrText kFb ((dec pay ++ ⟨#[32]⟩) ++ fb))] w fun e w' => ∃ A k, e = .returned (.tuple #[codV pay ⟨#[]⟩ 0 ⟨#[]⟩ ⟨#[]⟩ (.slice A 1 k), .bool false, .nilIface]) ∧ Strs (w.heap.size ≤ ·) w' A [fb] ∧ Below w.heap.size w w' := by
  have hval := codVal_size pay fb (by omega) hl
  have hat : (attrText kFb ((dec pay ++ ⟨#[32]⟩) ++ fb)).size ≤ 4294967296 := by
    have : kFb.size = 7 := rfl
    rw [attrText_size]; omega
  have p2 := head_pieces (k := kFb) pay (by decide)
  have h1 := attr_index32 kFb pay fb (by decide)
  have s1 := fun w => S.splitTwo_any _ _ _ w hat h1
  rw [attr_front kFb pay fb, attr_back kFb pay fb] at s1
  have s2 := fun w => S.split_any (headB kFb pay) 58 w (head_size (by decide) (by omega))
  rw [p2] at s2
  have S1 := Lib.hid s1
  have S2 := Lib.hid s2
  have BS := Lib.hid (Blk.new w zeroC 101)
  have u8 := Lib.hid (fun w => Tryd.strconv_ParseUint_10_at8_ok (dec pay) (by have := dec_short (n := pay) (by omega); omega) pay (parseB_dec 8 pay (by decide) (by omega)) w)
  have hw8 : IntKind.u8.wrap (pay : Int) = pay := IntWalk.u8_in _ (by omega)
  have hgl : 2 < w.heap.size := World.block_lt_of_cell? _ _ hg
  have gl2 := cell_al hg (.cells #[.int .u8 0, .string ⟨#[]⟩, .int .u32 0, .string ⟨#[]⟩, .string ⟨#[]⟩, .slice none 0 0] 101)
  have hstar : ((dec pay).toList == [42]) = false := by
    rw [beq_eq_false_iff_ne, Lib.toList_data]
    intro e
    exact dec_no (n := pay) (c := 42) (by decide) 42 (by rw [e]; simp) rfl
  have bW : Below w.heap.size w (w.alloc (.cells zeroC.toArray 101)) := (Below.refl _ _).alloc (Nat.le_refl _) _
  have BW := Lib.hid bW
  clear p2 s1 s2 hat hval h1 bW
  go_enter Tryd.func36, Tryd.ntmps36
  go_wp2_with (first
    | (go_at_call 46; refine (S1.out _).mono ?_; rintro e w1 ⟨A1, k1, rfl, hr1, hb1⟩; obtain ⟨b1, o1, rfl, hD, a0⟩ := hr1 0 _ rfl; obtain ⟨_, _, e1, _, a1⟩ := hr1 1 _ rfl; cases e1; simp only [Nat.add_zero] at a0; have hD : w.heap.size + 1 ≤ b1 := (by have hD : _ ≤ b1 := hD; simpa using hD); have P1 := Lib.hid (BS.out.below hb1); have B1 := Lib.hid (BW.out.trans (hb1.mono (by simp))); clear hr1)
    | (go_at_call 45; refine (S2.out _).mono ?_; rintro e w2 ⟨A2, k2, rfl, hr2, hb2⟩; obtain ⟨_, _, e2, _, d1⟩ := hr2 1 _ rfl; cases e2; simp only [List.length_cons, List.length_nil] at d1 ⊢; have P2 := Lib.hid (P1.out.below hb2); have a2 := kp_of_below hb2 _ _ a1; have B2 := Lib.hid (below_step B1.out B1.out.size hb2); clear hr2)
    | (go_at_call 29; refine (u8.out _).mono ?_; rintro e w3 ⟨rfl, hb3'⟩; have hb3 := below_pu hb3'; clear hb3'; have P3 := Lib.hid (P2.out.below hb3); have a3 := kp_of_below hb3 _ _ a2; have B3 := Lib.hid (below_step B2.out B2.out.size hb3))
    | (refine wpList_store_cell rfl _ _ _ rfl w.heap.size 0 (.int .u8 pay) _ rfl rfl (by kernel_rfl) rfl (P3.out.cell rfl) (P3.out.frozen 0) ?_; intro w4 e4; have P4 : Hid (Blk w4 w.heap.size [.int .u8 pay, .string ⟨#[]⟩, .int .u32 0, .string ⟨#[]⟩, .string ⟨#[]⟩, .slice none 0 0]) := Lib.hid (by rw [e4]; exact P3.out.set 0 _); have a4 : w4.cell? ⟨b1, o1 + 1, none⟩ = some (.string fb) := (by rw [e4]; exact (World.cell?_setCell_other _ _ _ _ (fun e => by injection e with e _ _; omega)).trans a3); have B4 : Hid (Below w.heap.size w w4) := Lib.hid (by rw [e4]; exact B3.out.setCell (Nat.le_refl _) _); clear e4; have f0 := P4.out.cell (j := 0) rfl; have f1 := P4.out.cell (j := 1) rfl; have f2 := P4.out.cell (j := 2) rfl; have f3 := P4.out.cell (j := 3) rfl; have f4 := P4.out.cell (j := 4) rfl; have f5 := P4.out.cell (j := 5) rfl; have z5 := P4.out.frozen 5; have l4 := P4.out.lt))
  have hb9 : Tryd.t9.bytes = 16 := by kernel_rfl
  have hz9 : Tryd.t9.zero = some (.string ByteArray.empty) := by kernel_rfl
  have hs9 : Tryd.t9.size = 1 := by kernel_rfl
  have hnc : Builtin.nextslicecap 1 0 = 1 := by kernel_rfl
  go_region
  all_goals
    obtain ⟨c1, c2, c3⟩ := fb_close (w := w) (w4 := w4) w.heap.size pay ((Question.appendCap 1 0 9).cut (w4.tape (w4.drawn + 1) (Question.appendCap 1 0 9))) fb (Builtin.zeroCells #[.string ⟨#[]⟩] (((Question.appendCap 1 0 9).cut (w4.tape (w4.drawn + 1) (Question.appendCap 1 0 9))) - 1)) 9 P4.out B4.out rfl
    have s4 := B4.out.size
    generalize (((w4.setCell ⟨w.heap.size, 5, none⟩ (.slice (some ⟨w4.heap.size + 1, 0, none⟩) 1 ((Question.appendCap 1 0 9).cut (w4.tape (w4.drawn + 1) (Question.appendCap 1 0 9))))).alloc (.cells #[.string fb] 9)).alloc (.cells (#[.string fb] ++ Builtin.zeroCells #[.string ⟨#[]⟩] (((Question.appendCap 1 0 9).cut (w4.tape (w4.drawn + 1) (Question.appendCap 1 0 9))) - 1)) 9)).drew.drew = Wf at c1 c2 c3 ⊢
    generalize ((Question.appendCap 1 0 9).cut (w4.tape (w4.drawn + 1) (Question.appendCap 1 0 9))) = kk at *
    have C1 := Lib.hid c1
    have C2 := Lib.hid c2
    have C3 := Lib.hid c3
    have g0 := c1.cell (j := 0) rfl
    have g1 := c1.cell (j := 1) rfl
    have g2 := c1.cell (j := 2) rfl
    have g3 := c1.cell (j := 3) rfl
    have g4 := c1.cell (j := 4) rfl
    have g5 := c1.cell (j := 5) rfl
    clear c1 c2 c3 f0 f1 f2 f3 f4 f5 z5 a4
    go_wp2_with (refine wpList_store_row rfl _ _ _ rfl w.heap.size 0 #[.int .u8 pay, .string ⟨#[]⟩, .int .u32 0, .string ⟨#[]⟩, .string ⟨#[]⟩, .slice (some ⟨w4.heap.size + 1, 0, none⟩) 1 kk] rfl rfl C1.out.there Tryd.codec6 (by simp [Value.oneCell']) ?_; intro wf ef; have F : Hid (Blk wf w.heap.size [.int .u8 pay, .string ⟨#[]⟩, .int .u32 0, .string ⟨#[]⟩, .string ⟨#[]⟩, .slice (some ⟨w4.heap.size + 1, 0, none⟩) 1 kk] ∧ Below w.heap.size w wf ∧ wf.cell? ⟨w4.heap.size + 1, 0, none⟩ = some (.string fb)) := Lib.hid (by rw [ef]; exact ⟨C1.out.all rfl, below_setCells _ (Nat.le_refl _) _ 0 C3.out, (setCells_other _ _ 0 _ (by show w4.heap.size + 1 ≠ w.heap.size; omega)).trans C2.out⟩); clear ef)
    have r0 := F.out.1.cell (j := 0) rfl
    have r1 := F.out.1.cell (j := 1) rfl
    have r2 := F.out.1.cell (j := 2) rfl
    have r3 := F.out.1.cell (j := 3) rfl
    have r4 := F.out.1.cell (j := 4) rfl
    have r5 := F.out.1.cell (j := 5) rfl
    refine bodyPost_ret (v := .tuple #[codV pay ⟨#[]⟩ 0 ⟨#[]⟩ ⟨#[]⟩ (.slice (some ⟨w4.heap.size + 1, 0, none⟩) 1 kk), .bool false, .nilIface]) (by simp [results, Tryd.results36, go_sem, codV, r0, r1, r2, r3, r4, r5]) rfl ⟨_, _, rfl, fun j x hx => ?_, F.out.2.1⟩
    match j, hx with
    | 0, hx => cases hx; exact ⟨_, _, rfl, by show w.heap.size ≤ w4.heap.size + 1; omega, F.out.2.2⟩
end Go.Proofs.YtkaelnfhohggeaaDoor
