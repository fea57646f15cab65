/- parseRtpmap, parseFmtp, parseRtcpFb on the attributes of FnCodecs. -/
import Derived.Test.YtkaelnfhohggeaaDoorCodLaw
import Derived.Test.YtkaelnfhohggeaaDoorShelf
import Derived.Test.YtkaelnfhohggeaaDoorCells
namespace Go.Proofs.YtkaelnfhohggeaaDoor
open Go.RowKit

theorem below_pu {w w' : World} {s : ByteArray} (h : w' = w ∨ w' = Lib.bytesWorld w 5 s) : Below w.heap.size w w' := by
  rcases h with rfl | rfl
  · exact Below.refl _ _
  · exact ⟨rfl, rfl, rfl, by rw [Lib.bytesWorld_size]; omega, fun j hj => Lib.bytesWorld_at_old w _ s j hj⟩
theorem Tryd.infoCodec : (Tryd.prog.info? 101).map (fun i => (i.zero, i.size, i.bytes)) = some (some (.agg #[.int .u8 0, .string ByteArray.empty, .int .u32 0, .string ByteArray.empty, .string ByteArray.empty, .slice none 0 0]), 6, 88) := by kernel_rfl

theorem Tryd.codec6 : (Tryd.prog.info? 101).map (·.size) = some 6 := by kernel_rfl
/-- A codec as a value. -/
def codV (pay : Nat) (name : ByteArray) (rate : Nat) (enc line : ByteArray) (fb : Value) : Value := .agg #[.int .u8 pay, .string name, .int .u32 rate, .string enc, .string line, fb]

def zeroC : List Value := [.int .u8 0, .string ⟨#[]⟩, .int .u32 0, .string ⟨#[]⟩, .string ⟨#[]⟩, .slice none 0 0]
/-- Within a reader of an attribute: block N is its result's, block N + 1 its codec's. -/
structure PSt (w : World) (N : Nat) (cs : List Value) (w' : World) : Prop where
  res : Blk w' N zeroC
  cod : Blk w' (N + 1) cs
  bel : Below N w w'
theorem PSt.start (w : World) (T T' : TypeId) : PSt w w.heap.size zeroC ((w.alloc (.cells zeroC.toArray T)).alloc (.cells zeroC.toArray T')) := by
  refine ⟨(Blk.new w zeroC T).alloc _, ?_, ((Below.refl _ _).alloc (Nat.le_refl _) _).alloc (by simp) _⟩
  have := Blk.new (w.alloc (.cells zeroC.toArray T)) zeroC T'
  rw [World.size_alloc] at this
  exact this
section
variable {w w' w'' : World} {N : Nat} {cs : List Value}
theorem PSt.below (h : PSt w N cs w') (hb : Below w'.heap.size w' w'') : PSt w N cs w'' := ⟨h.res.below hb, h.cod.below hb, h.bel.trans (hb.mono (by have := h.res.lt; omega))⟩
theorem PSt.set (h : PSt w N cs w') (j : Nat) (v : Value) : PSt w N (cs.set j v) (w'.setCell ⟨N + 1, j, none⟩ v) := ⟨h.res.set_other v (by simp), h.cod.set j v, h.bel.setCell (by simp) v⟩
theorem PSt.fin (h : PSt w N cs w') {vs : List Value} (hl : vs.length = 6) : Blk (w'.setCells N 0 vs) N vs ∧ Below N w (w'.setCells N 0 vs) := ⟨h.res.all hl, below_setCells N (Nat.le_refl _) vs 0 h.bel⟩
end
theorem set_keep {w w' : World} {b o N j : Nat} {v u : Value} (e : w' = w.setCell ⟨N + 1, j, none⟩ u) (h : w.cell? ⟨b, o, none⟩ = some v) (hb : N + 2 ≤ b) : w'.cell? ⟨b, o, none⟩ = some v := by
  subst e
  exact (World.cell?_setCell_other _ _ _ _ (fun e => by injection e with e _ _; omega)).trans h

set_option maxHeartbeats 4000000 in
set_option maxRecDepth 100000 in
theorem parseRtpmap_any (c : Cod) (w : World) (ev : Value) (h : CodIs c) (hg : w.cell? ⟨0, 0, none⟩ = some ev) :
    Calls Tryd.prog 33 #[.string (attrText kMap (mapVal c))] w fun e w' => e = .returned (.tuple #[codV c.pay c.name c.rate (encB c) ⟨#[]⟩ (.slice none 0 0), .nilIface]) ∧ Below w.heap.size w w' := by
  have hz := restMap_size h
  have hpay := h.pay
  have hrate := h.rate
  have hval := codVal_size c.pay (restMap c) (by omega) (by omega)
  rw [← mapVal_rest] at hval
  have hat : (attrText kMap (mapVal c)).size ≤ 4294967296 := by
    have : kMap.size = 6 := rfl
    rw [attrText_size]; omega
  have p1 := attr_pieces kMap c.pay (restMap c) (by decide) (restMap_no h)
  rw [← mapVal_rest] at p1
  have p2 := head_pieces (k := kMap) c.pay (by decide)
  have p3 := restMap_pieces h
  have hh : (headB kMap c.pay).size ≤ 4294967296 := by
    have e1 : kMap.size = 6 := rfl
    have e2 : (⟨#[58]⟩ : ByteArray).size = 1 := rfl
    have := dec_short (n := c.pay) (by omega)
    unfold headB
    simp only [ByteArray.size_append, e1, e2]; omega
  have s1 := fun w => S.split_any (attrText kMap (mapVal c)) 32 w hat
  have s2 := fun w => S.split_any (headB kMap c.pay) 58 w hh
  have s3 := fun w => S.split_any (restMap c) 47 w (by omega)
  rw [p1] at s1
  rw [p2] at s2
  rw [p3] at s3
  have S1 := Lib.hid s1
  have S2 := Lib.hid s2
  have PS := Lib.hid (PSt.start w 101 101)
  have sW : ((w.alloc (.cells zeroC.toArray 101)).alloc (.cells zeroC.toArray 101)).heap.size = w.heap.size + 2 := by simp
  have u8 := Lib.hid (fun w => Tryd.strconv_ParseUint_10_at8_ok (dec c.pay) (by have := dec_short (n := c.pay) (by omega); omega) c.pay (parseB_dec 8 c.pay (by decide) (by omega)) w)
  have u32 := Lib.hid (fun w => Tryd.strconv_ParseUint_10_at32_ok (dec c.rate) (by have := dec_short (n := c.rate) (by omega); omega) c.rate (parseB_dec 32 c.rate (by decide) (by omega)) w)
  have hw8 : IntKind.u8.wrap (c.pay : Int) = c.pay := IntWalk.u8_in _ (by omega)
  have hw32 : IntKind.u32.wrap (c.rate : Int) = c.rate := IntWalk.u32_in _ (by omega)
  have hgl : 0 < w.heap.size := World.block_lt_of_cell? _ _ hg
  clear p1 p2 p3 s1 s2 hat hval hh h
  unfold encB
  by_cases hc : 0 < c.chans
  · simp only [if_pos hc] at s3 ⊢
    have S3 := Lib.hid s3
    clear s3
    go_enter Tryd.func33, Tryd.ntmps33
    go_wp2_with (first
      | (go_at_call_of 45 (attrText kMap (mapVal c)); refine (S1.out _).mono ?_; rintro e w1 ⟨A1, k1, rfl, hr1, hb1⟩; obtain ⟨b1, o1, rfl, hD, a0⟩ := hr1 0 _ rfl; obtain ⟨_, _, e1, _, a1⟩ := hr1 1 _ rfl; cases e1; simp only [Nat.add_zero, List.length_cons, List.length_nil] at a0 a1 ⊢; have hD : w.heap.size + 2 ≤ b1 := (by rw [← sW]; exact hD); have P1 := Lib.hid (PS.out.below hb1); clear hr1)
      | (go_at_call_of 45 (headB kMap c.pay); refine (S2.out _).mono ?_; rintro e w2 ⟨A2, k2, rfl, hr2, hb2⟩; obtain ⟨_, _, e2, _, d1⟩ := hr2 1 _ rfl; cases e2; simp only [List.length_cons, List.length_nil] at d1 ⊢; have P2 := Lib.hid (P1.out.below hb2); have a2 := kp_of_below hb2 _ _ a1; clear hr2)
      | (go_at_call_of 29 (dec c.pay); refine (u8.out _).mono ?_; rintro e w3 ⟨rfl, hb3'⟩; have hb3 := below_pu hb3'; clear hb3'; have P3 := Lib.hid (P2.out.below hb3); have a3 := kp_of_below hb3 _ _ a2)
      | (refine wpList_store_cell rfl _ _ _ rfl (w.heap.size + 1) 0 (.int .u8 c.pay) _ rfl rfl (by kernel_rfl) rfl (P3.out.cod.cell rfl) (P3.out.cod.frozen 0) ?_; intro w4 e4; have a4 := set_keep e4 a3 hD; have P4 : Hid (PSt w w.heap.size [.int .u8 c.pay, .string ⟨#[]⟩, .int .u32 0, .string ⟨#[]⟩, .string ⟨#[]⟩, .slice none 0 0] w4) := Lib.hid (by rw [e4]; exact P3.out.set 0 _); clear e4)
      | (go_at_call_of 45 (restMap c); refine (S3.out _).mono ?_; rintro e w5 ⟨A5, k5, rfl, hr5, hb5⟩; obtain ⟨b5, o5, rfl, hD5, c0⟩ := hr5 0 _ rfl; obtain ⟨_, _, e5, _, c1⟩ := hr5 1 _ rfl; cases e5; obtain ⟨_, _, e5, _, c2⟩ := hr5 2 _ rfl; cases e5; simp only [Nat.add_zero, List.length_cons, List.length_nil] at c0 c1 ⊢; have P5 := Lib.hid (P4.out.below hb5); have hD5 : w.heap.size + 2 ≤ b5 := (by have := P4.out.cod.lt; have h5 : w4.heap.size ≤ b5 := hD5; omega); clear hr5)
      | (refine wpList_store_cell rfl _ _ _ rfl (w.heap.size + 1) 1 (.string c.name) _ rfl rfl (by kernel_rfl) rfl (P5.out.cod.cell rfl) (P5.out.cod.frozen 1) ?_; intro w6 e6; have c1_6 := set_keep e6 c1 hD5; have c2_6 := set_keep e6 c2 hD5; have P6 : Hid (PSt w w.heap.size [.int .u8 c.pay, .string c.name, .int .u32 0, .string ⟨#[]⟩, .string ⟨#[]⟩, .slice none 0 0] w6) := Lib.hid (by rw [e6]; exact P5.out.set 1 _); clear e6)
      | (go_at_call_of 29 (dec c.rate); refine (u32.out _).mono ?_; rintro e w7 ⟨rfl, hb7'⟩; have hb7 := below_pu hb7'; clear hb7'; have P7 := Lib.hid (P6.out.below hb7); have c2_7 := kp_of_below hb7 _ _ c2_6)
      | (refine wpList_store_cell rfl _ _ _ rfl (w.heap.size + 1) 2 (.int .u32 c.rate) _ rfl rfl (by kernel_rfl) rfl (P7.out.cod.cell rfl) (P7.out.cod.frozen 2) ?_; intro w8 e8; have c2_8 := set_keep e8 c2_7 hD5; have P8 : Hid (PSt w w.heap.size [.int .u8 c.pay, .string c.name, .int .u32 c.rate, .string ⟨#[]⟩, .string ⟨#[]⟩, .slice none 0 0] w8) := Lib.hid (by rw [e8]; exact P7.out.set 2 _); clear e8)
      | (refine wpList_store_cell rfl _ _ _ rfl (w.heap.size + 1) 3 (.string (dec c.chans)) _ rfl rfl (by kernel_rfl) rfl (P8.out.cod.cell rfl) (P8.out.cod.frozen 3) ?_; intro w9 e9; have P9 : Hid (PSt w w.heap.size [.int .u8 c.pay, .string c.name, .int .u32 c.rate, .string (dec c.chans), .string ⟨#[]⟩, .slice none 0 0] w9) := Lib.hid (by rw [e9]; exact P8.out.set 3 _); clear e9; have f0 := P9.out.cod.cell (j := 0) rfl; have f1 := P9.out.cod.cell (j := 1) rfl; have f2 := P9.out.cod.cell (j := 2) rfl; have f3 := P9.out.cod.cell (j := 3) rfl; have f4 := P9.out.cod.cell (j := 4) rfl; have f5 := P9.out.cod.cell (j := 5) rfl)
      | (refine wpList_store_row rfl _ _ _ rfl w.heap.size 0 #[.int .u8 c.pay, .string c.name, .int .u32 c.rate, .string (dec c.chans), .string ⟨#[]⟩, .slice none 0 0] rfl rfl P9.out.res.there Tryd.codec6 (by simp [Value.oneCell']) ?_; intro wf ef; have F : Hid (Blk wf w.heap.size [.int .u8 c.pay, .string c.name, .int .u32 c.rate, .string (dec c.chans), .string ⟨#[]⟩, .slice none 0 0] ∧ Below w.heap.size w wf) := Lib.hid (by rw [ef]; exact P9.out.fin rfl); clear ef))
    have r0 := F.out.1.cell (j := 0) rfl
    have r1 := F.out.1.cell (j := 1) rfl
    have r2 := F.out.1.cell (j := 2) rfl
    have r3 := F.out.1.cell (j := 3) rfl
    have r4 := F.out.1.cell (j := 4) rfl
    have r5 := F.out.1.cell (j := 5) rfl
    exact bodyPost_ret (v := .tuple #[codV c.pay c.name c.rate (dec c.chans) ⟨#[]⟩ (.slice none 0 0), .nilIface]) (by simp [results, Tryd.results33, go_sem, codV, r0, r1, r2, r3, r4, r5]) rfl ⟨rfl, F.out.2⟩
  · simp only [if_neg hc] at s3 ⊢
    have S3 := Lib.hid s3
    clear s3
    go_enter Tryd.func33, Tryd.ntmps33
    go_wp2_with (first
      | (go_at_call_of 45 (attrText kMap (mapVal c)); refine (S1.out _).mono ?_; rintro e w1 ⟨A1, k1, rfl, hr1, hb1⟩; obtain ⟨b1, o1, rfl, hD, a0⟩ := hr1 0 _ rfl; obtain ⟨_, _, e1, _, a1⟩ := hr1 1 _ rfl; cases e1; simp only [Nat.add_zero, List.length_cons, List.length_nil] at a0 a1 ⊢; have hD : w.heap.size + 2 ≤ b1 := (by rw [← sW]; exact hD); have P1 := Lib.hid (PS.out.below hb1); clear hr1)
      | (go_at_call_of 45 (headB kMap c.pay); refine (S2.out _).mono ?_; rintro e w2 ⟨A2, k2, rfl, hr2, hb2⟩; obtain ⟨_, _, e2, _, d1⟩ := hr2 1 _ rfl; cases e2; simp only [List.length_cons, List.length_nil] at d1 ⊢; have P2 := Lib.hid (P1.out.below hb2); have a2 := kp_of_below hb2 _ _ a1; clear hr2)
      | (go_at_call_of 29 (dec c.pay); refine (u8.out _).mono ?_; rintro e w3 ⟨rfl, hb3'⟩; have hb3 := below_pu hb3'; clear hb3'; have P3 := Lib.hid (P2.out.below hb3); have a3 := kp_of_below hb3 _ _ a2)
      | (refine wpList_store_cell rfl _ _ _ rfl (w.heap.size + 1) 0 (.int .u8 c.pay) _ rfl rfl (by kernel_rfl) rfl (P3.out.cod.cell rfl) (P3.out.cod.frozen 0) ?_; intro w4 e4; have a4 := set_keep e4 a3 hD; have P4 : Hid (PSt w w.heap.size [.int .u8 c.pay, .string ⟨#[]⟩, .int .u32 0, .string ⟨#[]⟩, .string ⟨#[]⟩, .slice none 0 0] w4) := Lib.hid (by rw [e4]; exact P3.out.set 0 _); clear e4)
      | (go_at_call_of 45 (restMap c); refine (S3.out _).mono ?_; rintro e w5 ⟨A5, k5, rfl, hr5, hb5⟩; obtain ⟨b5, o5, rfl, hD5, c0⟩ := hr5 0 _ rfl; obtain ⟨_, _, e5, _, c1⟩ := hr5 1 _ rfl; cases e5; simp only [Nat.add_zero, List.length_cons, List.length_nil] at c0 c1 ⊢; have P5 := Lib.hid (P4.out.below hb5); have hD5 : w.heap.size + 2 ≤ b5 := (by have := P4.out.cod.lt; have h5 : w4.heap.size ≤ b5 := hD5; omega); clear hr5)
      | (refine wpList_store_cell rfl _ _ _ rfl (w.heap.size + 1) 1 (.string c.name) _ rfl rfl (by kernel_rfl) rfl (P5.out.cod.cell rfl) (P5.out.cod.frozen 1) ?_; intro w6 e6; have c1_6 := set_keep e6 c1 hD5; have P6 : Hid (PSt w w.heap.size [.int .u8 c.pay, .string c.name, .int .u32 0, .string ⟨#[]⟩, .string ⟨#[]⟩, .slice none 0 0] w6) := Lib.hid (by rw [e6]; exact P5.out.set 1 _); clear e6)
      | (go_at_call_of 29 (dec c.rate); refine (u32.out _).mono ?_; rintro e w7 ⟨rfl, hb7'⟩; have hb7 := below_pu hb7'; clear hb7'; have P7 := Lib.hid (P6.out.below hb7))
      | (refine wpList_store_cell rfl _ _ _ rfl (w.heap.size + 1) 2 (.int .u32 c.rate) _ rfl rfl (by kernel_rfl) rfl (P7.out.cod.cell rfl) (P7.out.cod.frozen 2) ?_; intro w8 e8; have P8 : Hid (PSt w w.heap.size [.int .u8 c.pay, .string c.name, .int .u32 c.rate, .string ⟨#[]⟩, .string ⟨#[]⟩, .slice none 0 0] w8) := Lib.hid (by rw [e8]; exact P7.out.set 2 _); clear e8; have f0 := P8.out.cod.cell (j := 0) rfl; have f1 := P8.out.cod.cell (j := 1) rfl; have f2 := P8.out.cod.cell (j := 2) rfl; have f3 := P8.out.cod.cell (j := 3) rfl; have f4 := P8.out.cod.cell (j := 4) rfl; have f5 := P8.out.cod.cell (j := 5) rfl)
      | (refine wpList_store_row rfl _ _ _ rfl w.heap.size 0 #[.int .u8 c.pay, .string c.name, .int .u32 c.rate, .string (⟨#[]⟩), .string ⟨#[]⟩, .slice none 0 0] rfl rfl P8.out.res.there Tryd.codec6 (by simp [Value.oneCell']) ?_; intro wf ef; have F : Hid (Blk wf w.heap.size [.int .u8 c.pay, .string c.name, .int .u32 c.rate, .string (⟨#[]⟩), .string ⟨#[]⟩, .slice none 0 0] ∧ Below w.heap.size w wf) := Lib.hid (by rw [ef]; exact P8.out.fin rfl); clear ef))
    have r0 := F.out.1.cell (j := 0) rfl
    have r1 := F.out.1.cell (j := 1) rfl
    have r2 := F.out.1.cell (j := 2) rfl
    have r3 := F.out.1.cell (j := 3) rfl
    have r4 := F.out.1.cell (j := 4) rfl
    have r5 := F.out.1.cell (j := 5) rfl
    exact bodyPost_ret (v := .tuple #[codV c.pay c.name c.rate (⟨#[]⟩) ⟨#[]⟩ (.slice none 0 0), .nilIface]) (by simp [results, Tryd.results33, go_sem, codV, r0, r1, r2, r3, r4, r5]) rfl ⟨rfl, F.out.2⟩
end Go.Proofs.YtkaelnfhohggeaaDoor
