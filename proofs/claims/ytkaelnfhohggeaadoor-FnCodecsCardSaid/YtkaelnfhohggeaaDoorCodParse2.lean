/- parseFmtp and parseRtcpFb on the attributes of FnCodecs. -/
import Derived.Test.YtkaelnfhohggeaaDoorCodParse
namespace Go.Proofs.YtkaelnfhohggeaaDoor
open Go.RowKit

theorem head_size {k : ByteArray} {n : Nat} (hk : k.size ≤ 100) (hn : n ≤ 4294967295) : (headB k n).size ≤ 4294967296 := by
  have e2 : (⟨#[58]⟩ : ByteArray).size = 1 := rfl
  have := dec_short hn
  unfold headB
  simp only [ByteArray.size_append, e2]; omega

set_option maxHeartbeats 4000000 in
set_option maxRecDepth 100000 in
theorem parseFmtp_any (pay : Nat) (line : ByteArray) (w : World) (ev : Value) (hpay : pay ≤ 255) (hl : line.size ≤ 100) (hg : w.cell? ⟨1, 0, none⟩ = some ev) :
    Calls Tryd.prog 35 #[.string (attrText kLine ((dec pay ++ ⟨#[32]⟩) ++ line))] w fun e w' => e = .returned (.tuple #[codV pay ⟨#[]⟩ 0 ⟨#[]⟩ line (.slice none 0 0), .nilIface]) ∧ Below w.heap.size w w' := by
  have hval := codVal_size pay line (by omega) hl
  have hat : (attrText kLine ((dec pay ++ ⟨#[32]⟩) ++ line)).size ≤ 4294967296 := by
    have : kLine.size = 4 := rfl
    rw [attrText_size]; omega
  have p2 := head_pieces (k := kLine) pay (by decide)
  have h1 := attr_index32 kLine pay line (by decide)
  have s1 := fun w => S.splitTwo_any _ _ _ w hat h1
  rw [attr_front kLine pay line, attr_back kLine pay line] at s1
  have s2 := fun w => S.split_any (headB kLine pay) 58 w (head_size (by decide) (by omega))
  rw [p2] at s2
  have S1 := Lib.hid s1
  have S2 := Lib.hid s2
  have PS := Lib.hid (PSt.start w 101 101)
  have sW : ((w.alloc (.cells zeroC.toArray 101)).alloc (.cells zeroC.toArray 101)).heap.size = w.heap.size + 2 := by simp
  have u8 := Lib.hid (fun w => Tryd.strconv_ParseUint_10_at8_ok (dec pay) (by have := dec_short (n := pay) (by omega); omega) pay (parseB_dec 8 pay (by decide) (by omega)) w)
  have hw8 : IntKind.u8.wrap (pay : Int) = pay := IntWalk.u8_in _ (by omega)
  have hgl : 1 < w.heap.size := World.block_lt_of_cell? _ _ hg
  have gl2 := cell_al (cell_al hg (.cells #[.int .u8 0, .string ⟨#[]⟩, .int .u32 0, .string ⟨#[]⟩, .string ⟨#[]⟩, .slice none 0 0] 101)) (.cells #[.int .u8 0, .string ⟨#[]⟩, .int .u32 0, .string ⟨#[]⟩, .string ⟨#[]⟩, .slice none 0 0] 101)
  clear p2 s1 s2 hat hval h1
  go_enter Tryd.func35, Tryd.ntmps35
  go_wp2_with (first
    | (go_at_call 46; refine (S1.out _).mono ?_; rintro e w1 ⟨A1, k1, rfl, hr1, hb1⟩; obtain ⟨b1, o1, rfl, hD, a0⟩ := hr1 0 _ rfl; obtain ⟨_, _, e1, _, a1⟩ := hr1 1 _ rfl; cases e1; simp only [Nat.add_zero] at a0; have P1 := Lib.hid (PS.out.below hb1); clear hr1)
    | (go_at_call 45; refine (S2.out _).mono ?_; rintro e w2 ⟨A2, k2, rfl, hr2, hb2⟩; obtain ⟨_, _, e2, _, d1⟩ := hr2 1 _ rfl; cases e2; simp only [List.length_cons, List.length_nil] at d1 ⊢; have P2 := Lib.hid (P1.out.below hb2); clear hr2)
    | (go_at_call 29; refine (u8.out _).mono ?_; rintro e w3 ⟨rfl, hb3'⟩; have hb3 := below_pu hb3'; clear hb3'; have P3 := Lib.hid (P2.out.below hb3))
    | (refine wpList_store_cell rfl _ _ _ rfl (w.heap.size + 1) 0 (.int .u8 pay) _ rfl rfl (by kernel_rfl) rfl (P3.out.cod.cell rfl) (P3.out.cod.frozen 0) ?_; intro w4 e4; have P4 : Hid (PSt w w.heap.size [.int .u8 pay, .string ⟨#[]⟩, .int .u32 0, .string ⟨#[]⟩, .string ⟨#[]⟩, .slice none 0 0] w4) := Lib.hid (by rw [e4]; exact P3.out.set 0 _); clear e4)
    | (refine wpList_store_cell rfl _ _ _ rfl (w.heap.size + 1) 4 (.string line) _ rfl rfl (by kernel_rfl) rfl (P4.out.cod.cell rfl) (P4.out.cod.frozen 4) ?_; intro w5 e5; have P5 : Hid (PSt w w.heap.size [.int .u8 pay, .string ⟨#[]⟩, .int .u32 0, .string ⟨#[]⟩, .string line, .slice none 0 0] w5) := Lib.hid (by rw [e5]; exact P4.out.set 4 _); clear e5; have f0 := P5.out.cod.cell (j := 0) rfl; have f1 := P5.out.cod.cell (j := 1) rfl; have f2 := P5.out.cod.cell (j := 2) rfl; have f3 := P5.out.cod.cell (j := 3) rfl; have f4 := P5.out.cod.cell (j := 4) rfl; have f5 := P5.out.cod.cell (j := 5) rfl)
    | (refine wpList_store_row rfl _ _ _ rfl w.heap.size 0 #[.int .u8 pay, .string ⟨#[]⟩, .int .u32 0, .string ⟨#[]⟩, .string line, .slice none 0 0] rfl rfl P5.out.res.there Tryd.codec6 (by simp [Value.oneCell']) ?_; intro wf ef; have F : Hid (Blk wf w.heap.size [.int .u8 pay, .string ⟨#[]⟩, .int .u32 0, .string ⟨#[]⟩, .string line, .slice none 0 0] ∧ Below w.heap.size w wf) := Lib.hid (by rw [ef]; exact P5.out.fin rfl); clear ef))
  have r0 := F.out.1.cell (j := 0) rfl
  have r1 := F.out.1.cell (j := 1) rfl
  have r2 := F.out.1.cell (j := 2) rfl
  have r3 := F.out.1.cell (j := 3) rfl
  have r4 := F.out.1.cell (j := 4) rfl
  have r5 := F.out.1.cell (j := 5) rfl
  exact bodyPost_ret (v := .tuple #[codV pay ⟨#[]⟩ 0 ⟨#[]⟩ line (.slice none 0 0), .nilIface]) (by simp [results, Tryd.results35, go_sem, codV, r0, r1, r2, r3, r4, r5]) rfl ⟨rfl, F.out.2⟩

end Go.Proofs.YtkaelnfhohggeaaDoor
