/- The thin package's reader of tracks: its function. -/
import Derived.Test.YtkaelnfhohggeaaGreatDoorTracksClose
import Derived.Test.YtkaelnfhohggeaaGreatDoorTill
namespace Go.Proofs.YtkaelnfhohggeaaGreatDoor
open Go.RowKit Go.WideMaps Go.Maps

theorem Tryz.infoU32 : (Tryz.prog.info? 24).map (fun i => (i.zero, i.size, i.bytes)) = some (some (.int .u32 0), 1, 4) := by kernel_rfl
theorem Tryz.infoITrack : (Tryz.prog.info? 39).map (fun i => (i.zero, i.size, i.bytes)) = some (some (.agg #[.string ByteArray.empty, .string ByteArray.empty, .string ByteArray.empty, .string ByteArray.empty, .slice none 0 0, .int .u32 0, .int .u32 0, .slice none 0 0]), 8, 120) := by kernel_rfl

set_option maxHeartbeats 1000000 in
set_option maxRecDepth 100000 in
theorem clone_u32 (b n k : Nat) (w : World) (h : w.cell? ⟨b, 0, none⟩ = some (.int .u32 n)) :
    Calls Tryz.prog 14 #[.slice (some ⟨b, 0, none⟩) 1 k] w fun e w' => ∃ b' k', e = .returned (.slice (some ⟨b', 0, none⟩) 1 k') ∧ w.heap.size ≤ b' ∧ w'.cell? ⟨b', 0, none⟩ = some (.int .u32 n) ∧ Below w.heap.size w w' := by
  obtain ⟨i0, hi, hz0, hz1, hz2⟩ := info_parts Tryz.infoU32
  have qT : ∀ (w : World) (a : Option Addr) (n c n' c' : Nat), (binOp .eql 22 (.slice a n c) (.slice none n' c')).run Tryz.prog w = .ok (.bool a.isNone) w := fun w a n c n' c' => Lib.run_eql_slice_nil w _ _ a n c n' c' Tryz.underlying22
  have H := Lib.hid h
  clear h
  go_enter Tryz.func14, Tryz.ntmps14
  go_wp2_with (at_builtin; refine wpList_append_own _ rfl _ _ 22 rfl w.heap.size 24 i0 _ 1 4 Tryz.underlying22 hi hz0 hz1 hz2 rfl (by decide) _ _ _ rfl (World.ownsRow_made w #[] 0 (Nat.le_refl _) (Nat.zero_le _) rfl) ⟨b, 0, none⟩ 1 k [.int .u32 n] rfl rfl ?qc2 ?qc3 (by decide) (by decide) ?qc6 ?_)
  case qc2 =>
    intro j u hj
    match j, hj with
    | 0, hj =>
      cases hj
      rw [add_at]
      exact cell_al H.out _
  case qc3 => intro u hu; simp at hu; subst hu; rfl
  case qc6 => simp
  intro v' w1 hown hgrow _
  have hb : Below w.heap.size w w1 := ((Below.refl _ w).alloc (Nat.le_refl _) _).grown hgrow (by simp) (by intro k hk; simp [Value.ownBlock] at hk; omega)
  have hcl := @World.ownsRow.cells _ _ _ _ _ _ _ hown
  have hlt := hown.lt
  rcases hown.2 with ⟨rfl, hx⟩ | ⟨g, cap, cur, rfl, _⟩
  · cases hx
  · have c0 := hcl (g := g) rfl 0 (.int .u32 n) rfl
    rw [add_at] at c0
    have l0 := (hlt g rfl).1
    clear hgrow hown hcl hlt
    go_wp2
    go_ret
    exact ⟨g, cap, rfl, l0, c0, hb⟩

/-- The law's medium. -/
def trackMed (mid s t : ByteArray) (n : Nat) : MediaD := ⟨⟨#[97, 117, 100, 105, 111]⟩, [⟨#[57, 54]⟩], trackAttrs mid s t n⟩

/-- What the loads of the region read. -/
def TrackHeld (N sb ob sk n : Nat) (mid s t : ByteArray) (w' : World) : Prop := w'.cell? ⟨N, 0, none⟩ = some (.string mid) ∧ w'.cell? ⟨N, 1, none⟩ = some (.string ⟨#[97, 117, 100, 105, 111]⟩) ∧ w'.cell? ⟨N, 2, none⟩ = some (.string s) ∧ w'.cell? ⟨N, 3, none⟩ = some (.string t) ∧ w'.cell? ⟨N, 4, none⟩ = some (.slice (some ⟨sb, 0, none⟩) 1 sk) ∧ w'.cell? ⟨N, 5, none⟩ = some (.int .u32 0) ∧ w'.cell? ⟨N, 6, none⟩ = some (.int .u32 0) ∧ w'.cell? ⟨N, 7, none⟩ = some (.slice none 0 0) ∧ w'.cell? ⟨sb, 0, none⟩ = some (.int .u32 n) ∧ w'.cell? ⟨ob, 0, none⟩ = some (.slice none 0 0)
theorem TrackHeld.kp {N sb ob sk n : Nat} {mid s t : ByteArray} {w w' : World} (h : TrackHeld N sb ob sk n mid s t w) (k : Kp w w') : TrackHeld N sb ob sk n mid s t w' :=
  let ⟨a, b, c, d, e, f, g, i, j, l⟩ := h
  ⟨k _ _ a, k _ _ b, k _ _ c, k _ _ d, k _ _ e, k _ _ f, k _ _ g, k _ _ i, k _ _ j, k _ _ l⟩

set_option maxHeartbeats 4000000 in
set_option maxRecDepth 1000000 in
theorem tracks1_any (db ob : Nat) (aA mA : Option Addr) (ac mc : Nat) (mid s t : ByteArray) (n : Nat) (w : World) (hm : wordB mid = true) (hs : wordB s = true) (ht : wordB t = true) (hn : n ≤ 4294967295)
    (hmm : Meds w mA [trackMed mid s t n]) (c0 : w.cell? ⟨db, 0, none⟩ = some (.slice aA 0 ac)) (c1 : w.cell? ⟨db, 1, none⟩ = some (.slice mA 1 mc)) (co : w.cell? ⟨ob, 0, none⟩ = some (.slice none 0 0)) (zo : w.frozen? ⟨ob, 0, none⟩ = false) :
    Calls Tryz.prog 11 #[.pointer (some ⟨db, 0, none⟩), .pointer (some ⟨ob, 0, none⟩)] w fun e w' => e = .returned (.bool true) ∧ ∃ g k, w'.cell? ⟨ob, 0, none⟩ = some (.slice (some ⟨g, 0, none⟩) 1 k) ∧ w'.frozen? ⟨ob, 0, none⟩ = false ∧ ZTrack (w.heap.size ≤ ·) w' g mid s t n ∧ w.grownBy w' (some ob) := by
  obtain ⟨i0, hi, hz0, hz1, hz2⟩ := info_parts Tryz.infoITrack
  have HM := Lib.hid hmm
  have HDS := Lib.hid (description_any (D := fun _ => True) aA mA ac mc [] [trackMed mid s t n] w (by simp) (by simp) (fun m h => by simp at h; subst h; exact ⟨by simp [trackMed], by simp [trackMed, trackAttrs]⟩) (KVs.nil _ _ _) hmm)
  have lo : ob < w.heap.size := World.block_lt_of_cell? _ _ co
  clear hmm
  go_enter Tryz.func11, Tryz.ntmps11
  go_wp2_with (first
    | (go_at_call 13; refine HDS.out.mono ?_; rintro e w1 ⟨q, rfl, hsd, hb1⟩)
    | (go_at_call 12; refine (zzTracks_any q mid s t n _ _ hm hs ht hn hsd).mono ?_; rintro e w2 ⟨g, c, rfl, ⟨hg, t0, t1, t2, t3, ⟨sb, sk, hsb, tsb, t4⟩, t5, t6, t7⟩, hb2⟩; have co2 := kp_of_below hb2 _ _ (kp_of_below hb1 _ _ co); have s1 := hb1.size; have s2 := hb2.size; have zo2 : w2.frozen? ⟨ob, 0, none⟩ = false := (hb2.frozen (by simp; omega)).trans ((hb1.frozen (by simp; omega)).trans zo); have lsb : sb < w2.heap.size := World.block_lt_of_cell? _ _ tsb; have bb2 := Lib.hid (below_step hb1 s1 hb2)))
  refine wp_loop_rounds 2 ?_
  rw [rounds_succ]
  go_wp2_with fail
  have m0 := (Blk.new w2 [.string mid, .string ⟨#[97, 117, 100, 105, 111]⟩, .string s, .string t, .slice (some ⟨sb, 0, none⟩) 1 sk, .int .u32 0, .int .u32 0, .slice none 0 0] 48)
  have d0 := m0.cell (j := 0) rfl
  have d1 := m0.cell (j := 1) rfl
  have d2 := m0.cell (j := 2) rfl
  have d3 := m0.cell (j := 3) rfl
  have d4 := m0.cell (j := 4) rfl
  have d5 := m0.cell (j := 5) rfl
  have d6 := m0.cell (j := 6) rfl
  have d7 := m0.cell (j := 7) rfl
  have dO := cell_al co2 (.cells #[.string mid, .string ⟨#[97, 117, 100, 105, 111]⟩, .string s, .string t, .slice (some ⟨sb, 0, none⟩) 1 sk, .int .u32 0, .int .u32 0, .slice none 0 0] 48)
  have dZ := frozen_al co2 zo2 (.cells #[.string mid, .string ⟨#[97, 117, 100, 105, 111]⟩, .string s, .string t, .slice (some ⟨sb, 0, none⟩) 1 sk, .int .u32 0, .int .u32 0, .slice none 0 0] 48)
  have dS := cell_al tsb (.cells #[.string mid, .string ⟨#[97, 117, 100, 105, 111]⟩, .string s, .string t, .slice (some ⟨sb, 0, none⟩) 1 sk, .int .u32 0, .int .u32 0, .slice none 0 0] 48)
  have bb3 : Below w.heap.size w (w2.alloc (.cells #[.string mid, .string ⟨#[97, 117, 100, 105, 111]⟩, .string s, .string t, .slice (some ⟨sb, 0, none⟩) 1 sk, .int .u32 0, .int .u32 0, .slice none 0 0] 48)) := bb2.out.alloc (by omega) _
  have eN : w2.heap.size < (w2.alloc (.cells #[.string mid, .string ⟨#[97, 117, 100, 105, 111]⟩, .string s, .string t, .slice (some ⟨sb, 0, none⟩) 1 sk, .int .u32 0, .int .u32 0, .slice none 0 0] 48)).heap.size := by simp
  have lW : ob < (w2.alloc (.cells #[.string mid, .string ⟨#[97, 117, 100, 105, 111]⟩, .string s, .string t, .slice (some ⟨sb, 0, none⟩) 1 sk, .int .u32 0, .int .u32 0, .slice none 0 0] 48)).heap.size := by simp; omega
  clear m0 t0 t1 t2 t3 t4 t5 t6 t7 tsb co2 zo2 co c0 c1 zo hsd
  generalize (w2.alloc (.cells #[.string mid, .string ⟨#[97, 117, 100, 105, 111]⟩, .string s, .string t, .slice (some ⟨sb, 0, none⟩) 1 sk, .int .u32 0, .int .u32 0, .slice none 0 0] 48)) = W at *
  generalize w2.heap.size = N at *
  have hS : TrackHeld N sb ob sk n mid s t W.drew := ⟨d0, d1, d2, d3, d4, d5, d6, d7, dS, dO⟩
  refine wp_region_till (S := TrackHeld N sb ob sk n mid s t) (n := 22) (by kernel_rfl) ?_
  refine wpTill_take (i := 0) (oi := _) (v := ?_) rfl (by kernel_rfl) (by kernel_rfl) (by kernel_rfl) (by kernel_rfl) (fun _ _ _ h => h) hS (Or.inl ⟨by rfl, ?_⟩) ?_
  rotate_left
  · intro w0 hSw
    obtain ⟨i0, i1, i2, i3, i4, i5, i6, i7, i8, i9⟩ := hSw
    go_simp
    try rfl
  simp only [Act.put, List.getElem_toArray, List.getElem_cons_zero, List.getElem_cons_succ, List.setIfInBounds_toArray, List.set_cons_zero, List.set_cons_succ]
  refine wpTill_take (i := 1) (oi := _) (v := ?_) rfl (by kernel_rfl) (by kernel_rfl) (by kernel_rfl) (by kernel_rfl) (fun _ _ _ h => h) hS (Or.inl ⟨by rfl, ?_⟩) ?_
  rotate_left
  · intro w0 hSw
    obtain ⟨i0, i1, i2, i3, i4, i5, i6, i7, i8, i9⟩ := hSw
    go_simp
    try rfl
  simp only [Act.put, List.getElem_toArray, List.getElem_cons_zero, List.getElem_cons_succ, List.setIfInBounds_toArray, List.set_cons_zero, List.set_cons_succ]
  refine wpTill_take (i := 2) (oi := _) (v := ?_) rfl (by kernel_rfl) (by kernel_rfl) (by kernel_rfl) (by kernel_rfl) (fun _ _ _ h => h) hS (Or.inl ⟨by rfl, ?_⟩) ?_
  rotate_left
  · intro w0 hSw
    obtain ⟨i0, i1, i2, i3, i4, i5, i6, i7, i8, i9⟩ := hSw
    go_simp
    try rfl
  simp only [Act.put, List.getElem_toArray, List.getElem_cons_zero, List.getElem_cons_succ, List.setIfInBounds_toArray, List.set_cons_zero, List.set_cons_succ]
  refine wpTill_take (i := 3) (oi := _) (v := ?_) rfl (by kernel_rfl) (by kernel_rfl) (by kernel_rfl) (by kernel_rfl) (fun _ _ _ h => h) hS (Or.inl ⟨by rfl, ?_⟩) ?_
  rotate_left
  · intro w0 hSw
    obtain ⟨i0, i1, i2, i3, i4, i5, i6, i7, i8, i9⟩ := hSw
    go_simp
    try rfl
  simp only [Act.put, List.getElem_toArray, List.getElem_cons_zero, List.getElem_cons_succ, List.setIfInBounds_toArray, List.set_cons_zero, List.set_cons_succ]
  refine wpTill_take (i := 4) (oi := _) (v := ?_) rfl (by kernel_rfl) (by kernel_rfl) (by kernel_rfl) (by kernel_rfl) (fun _ _ _ h => h) hS (Or.inl ⟨by rfl, ?_⟩) ?_
  rotate_left
  · intro w0 hSw
    obtain ⟨i0, i1, i2, i3, i4, i5, i6, i7, i8, i9⟩ := hSw
    go_simp
    try rfl
  simp only [Act.put, List.getElem_toArray, List.getElem_cons_zero, List.getElem_cons_succ, List.setIfInBounds_toArray, List.set_cons_zero, List.set_cons_succ]
  refine wpTill_take (i := 5) (oi := _) (v := ?_) rfl (by kernel_rfl) (by kernel_rfl) (by kernel_rfl) (by kernel_rfl) (fun _ _ _ h => h) hS (Or.inl ⟨by rfl, ?_⟩) ?_
  rotate_left
  · intro w0 hSw
    obtain ⟨i0, i1, i2, i3, i4, i5, i6, i7, i8, i9⟩ := hSw
    go_simp
    try rfl
  simp only [Act.put, List.getElem_toArray, List.getElem_cons_zero, List.getElem_cons_succ, List.setIfInBounds_toArray, List.set_cons_zero, List.set_cons_succ]
  refine wpTill_take (i := 6) (oi := _) (v := ?_) rfl (by kernel_rfl) (by kernel_rfl) (by kernel_rfl) (by kernel_rfl) (fun _ _ _ h => h) hS (Or.inl ⟨by rfl, ?_⟩) ?_
  rotate_left
  · intro w0 hSw
    obtain ⟨i0, i1, i2, i3, i4, i5, i6, i7, i8, i9⟩ := hSw
    go_simp
    try rfl
  simp only [Act.put, List.getElem_toArray, List.getElem_cons_zero, List.getElem_cons_succ, List.setIfInBounds_toArray, List.set_cons_zero, List.set_cons_succ]
  refine wpTill_take (i := 7) (oi := _) (v := ?_) rfl (by kernel_rfl) (by kernel_rfl) (by kernel_rfl) (by kernel_rfl) (fun _ _ _ h => h) hS (Or.inl ⟨by rfl, ?_⟩) ?_
  rotate_left
  · intro w0 hSw
    obtain ⟨i0, i1, i2, i3, i4, i5, i6, i7, i8, i9⟩ := hSw
    go_simp
    try rfl
  simp only [Act.put, List.getElem_toArray, List.getElem_cons_zero, List.getElem_cons_succ, List.setIfInBounds_toArray, List.set_cons_zero, List.set_cons_succ]
  refine wpTill_take (i := 8) (oi := _) (v := ?_) rfl (by kernel_rfl) (by kernel_rfl) (by kernel_rfl) (by kernel_rfl) (fun _ _ _ h => h) hS (Or.inl ⟨by rfl, ?_⟩) ?_
  rotate_left
  · intro w0 hSw
    obtain ⟨i0, i1, i2, i3, i4, i5, i6, i7, i8, i9⟩ := hSw
    go_simp
    try rfl
  simp only [Act.put, List.getElem_toArray, List.getElem_cons_zero, List.getElem_cons_succ, List.setIfInBounds_toArray, List.set_cons_zero, List.set_cons_succ]
  refine wpTill_take (i := 9) (oi := _) (v := ?_) rfl (by kernel_rfl) (by kernel_rfl) (by kernel_rfl) (by kernel_rfl) (fun _ _ _ h => h) hS (Or.inl ⟨by rfl, ?_⟩) ?_
  rotate_left
  · intro w0 hSw
    obtain ⟨i0, i1, i2, i3, i4, i5, i6, i7, i8, i9⟩ := hSw
    go_simp
    try rfl
  simp only [Act.put, List.getElem_toArray, List.getElem_cons_zero, List.getElem_cons_succ, List.setIfInBounds_toArray, List.set_cons_zero, List.set_cons_succ]
  refine wpTill_take (i := 10) (oi := _) (v := ?_) rfl (by kernel_rfl) (by kernel_rfl) (by kernel_rfl) (by kernel_rfl) (fun _ _ _ h => h) hS (Or.inl ⟨by rfl, ?_⟩) ?_
  rotate_left
  · intro w0 hSw
    obtain ⟨i0, i1, i2, i3, i4, i5, i6, i7, i8, i9⟩ := hSw
    go_simp
    try rfl
  simp only [Act.put, List.getElem_toArray, List.getElem_cons_zero, List.getElem_cons_succ, List.setIfInBounds_toArray, List.set_cons_zero, List.set_cons_succ]
  refine wpTill_take (i := 12) (oi := _) (v := ?_) rfl (by kernel_rfl) (by kernel_rfl) (by kernel_rfl) (by kernel_rfl) (fun _ _ _ h => h) hS (Or.inl ⟨by rfl, ?_⟩) ?_
  rotate_left
  · intro w0 hSw
    obtain ⟨i0, i1, i2, i3, i4, i5, i6, i7, i8, i9⟩ := hSw
    go_simp
    try rfl
  simp only [Act.put, List.getElem_toArray, List.getElem_cons_zero, List.getElem_cons_succ, List.setIfInBounds_toArray, List.set_cons_zero, List.set_cons_succ]
  refine wpTill_take (i := 13) (oi := _) (v := ?_) rfl (by kernel_rfl) (by kernel_rfl) (by kernel_rfl) (by kernel_rfl) (fun _ _ _ h => h) hS (Or.inl ⟨by rfl, ?_⟩) ?_
  rotate_left
  · intro w0 hSw
    obtain ⟨i0, i1, i2, i3, i4, i5, i6, i7, i8, i9⟩ := hSw
    go_simp
    try rfl
  simp only [Act.put, List.getElem_toArray, List.getElem_cons_zero, List.getElem_cons_succ, List.setIfInBounds_toArray, List.set_cons_zero, List.set_cons_succ]
  refine wpTill_take (i := 14) (oi := _) (v := ?_) rfl (by kernel_rfl) (by kernel_rfl) (by kernel_rfl) (by kernel_rfl) (fun _ _ _ h => h) hS (Or.inl ⟨by rfl, ?_⟩) ?_
  rotate_left
  · intro w0 hSw
    obtain ⟨i0, i1, i2, i3, i4, i5, i6, i7, i8, i9⟩ := hSw
    go_simp
    try rfl
  simp only [Act.put, List.getElem_toArray, List.getElem_cons_zero, List.getElem_cons_succ, List.setIfInBounds_toArray, List.set_cons_zero, List.set_cons_succ]
  refine wpTill_take (i := 15) (oi := _) (v := ?_) rfl (by kernel_rfl) (by kernel_rfl) (by kernel_rfl) (by kernel_rfl) (fun _ _ _ h => h) hS (Or.inl ⟨by rfl, ?_⟩) ?_
  rotate_left
  · intro w0 hSw
    obtain ⟨i0, i1, i2, i3, i4, i5, i6, i7, i8, i9⟩ := hSw
    go_simp
    try rfl
  simp only [Act.put, List.getElem_toArray, List.getElem_cons_zero, List.getElem_cons_succ, List.setIfInBounds_toArray, List.set_cons_zero, List.set_cons_succ]
  refine wpTill_take (i := 16) (oi := _) (v := ?_) rfl (by kernel_rfl) (by kernel_rfl) (by kernel_rfl) (by kernel_rfl) (fun _ _ _ h => h) hS (Or.inl ⟨by rfl, ?_⟩) ?_
  rotate_left
  · intro w0 hSw
    obtain ⟨i0, i1, i2, i3, i4, i5, i6, i7, i8, i9⟩ := hSw
    go_simp
    try rfl
  simp only [Act.put, List.getElem_toArray, List.getElem_cons_zero, List.getElem_cons_succ, List.setIfInBounds_toArray, List.set_cons_zero, List.set_cons_succ]
  refine wpTill_take (i := 17) (oi := _) (v := ?_) rfl (by kernel_rfl) (by kernel_rfl) (by kernel_rfl) (by kernel_rfl) (fun _ _ _ h => h) hS (Or.inl ⟨by rfl, ?_⟩) ?_
  rotate_left
  · intro w0 hSw
    obtain ⟨i0, i1, i2, i3, i4, i5, i6, i7, i8, i9⟩ := hSw
    go_simp
    try rfl
  simp only [Act.put, List.getElem_toArray, List.getElem_cons_zero, List.getElem_cons_succ, List.setIfInBounds_toArray, List.set_cons_zero, List.set_cons_succ]
  refine wpTill_one (i := 11) (oi := _) (by kernel_rfl) rfl ?_
  intro K' hK
  have HK := Lib.hid hK
  clear hK
  go_simp
  go_at_call 14
  refine (clone_u32 sb n sk W.drew dS).mono ?_
  rintro e w3 ⟨b3, k3, rfl, hl3, c3, hb3⟩
  have hS3 := hS.kp (kp_of_below hb3)
  refine HK.out _ _ (fun _ => hS3) ?_
  try simp only [Act.put, List.getElem_toArray, List.getElem_cons_zero, List.getElem_cons_succ, List.setIfInBounds_toArray, List.set_cons_zero, List.set_cons_succ]
  refine wpTill_one (i := 18) (oi := _) (by kernel_rfl) rfl ?_
  intro K' hK
  have HK := Lib.hid hK
  clear hK
  go_simp
  go_at_call 15
  refine (clone_strs_none 0 0 _).mono ?_
  rintro e w4 ⟨rfl, hw4⟩
  subst hw4
  refine HK.out _ _ (fun _ => hS3) ?_
  try simp only [Act.put, List.getElem_toArray, List.getElem_cons_zero, List.getElem_cons_succ, List.setIfInBounds_toArray, List.set_cons_zero, List.set_cons_succ]
  have cO3 : w3.cell? ⟨ob, 0, none⟩ = some (.slice none 0 0) := kp_of_below hb3 _ _ dO
  have zO3 : w3.frozen? ⟨ob, 0, none⟩ = false := (hb3.frozen lW).trans dZ
  have lO3 : ob < w3.heap.size := Nat.lt_of_lt_of_le lW hb3.size
  have FIN := Lib.hid (fun kk Z => tracks_close (w := w) ob b3 k3 kk n mid s t _ (bb3.trans (Below.mono (⟨hb3.os, hb3.tape, hb3.output, hb3.size, hb3.block⟩ : Below W.heap.size W w3) bb3.size)) lo cO3 zO3 (Nat.le_trans bb3.size hl3) c3 _ Z rfl 39 39)
  refine wpTill_one (i := 19) (oi := _) (by kernel_rfl) rfl ?_
  intro K' hK
  have HK := Lib.hid hK
  clear hK
  go_simp
  refine HK.out _ _ (fun _ => hS3) ?_
  try simp only [Act.put, List.getElem_toArray, List.getElem_cons_zero, List.getElem_cons_succ, List.setIfInBounds_toArray, List.set_cons_zero, List.set_cons_succ]
  refine wpTill_one (i := 20) (oi := _) (by kernel_rfl) rfl ?_
  intro K' hK
  have HK := Lib.hid hK
  clear hK
  go_simp
  refine HK.out _ _ (fun _ => hS3.kp (Kp.alloc _ _)) ?_
  try simp only [Act.put, List.getElem_toArray, List.getElem_cons_zero, List.getElem_cons_succ, List.setIfInBounds_toArray, List.set_cons_zero, List.set_cons_succ]
  refine wpTill_one (i := 21) (oi := _) (by kernel_rfl) rfl ?_
  intro K' hK
  have HK := Lib.hid hK
  clear hK
  go_simp
  refine HK.out _ _ (fun _ => (hS3.kp (Kp.alloc _ _)).kp (Kp.alloc _ _)) ?_
  try simp only [Act.put, List.getElem_toArray, List.getElem_cons_zero, List.getElem_cons_succ, List.setIfInBounds_toArray, List.set_cons_zero, List.set_cons_succ]
  refine wpTill_one (i := 22) (oi := _) (by kernel_rfl) rfl ?_
  intro K' hK
  have HK := Lib.hid hK
  clear hK
  go_simp
  refine HK.out _ _ (fun e => absurd rfl e) ?_
  try simp only [Act.put, List.getElem_toArray, List.getElem_cons_zero, List.getElem_cons_succ, List.setIfInBounds_toArray, List.set_cons_zero, List.set_cons_succ]
  refine wpTill_done (by kernel_rfl) ?_ _
  go_wp2_with fail
  rw [rounds_succ]
  go_wp2_with fail
  go_ret
  exact ⟨rfl, _, _, FIN.out _ _⟩
end Go.Proofs.YtkaelnfhohggeaaGreatDoor
