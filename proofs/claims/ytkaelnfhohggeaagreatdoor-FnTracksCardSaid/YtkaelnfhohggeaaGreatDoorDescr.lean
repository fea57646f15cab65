/- The thin package's converter of a description: a new description of the package with the same attributes and media. -/
import Derived.Test.YtkaelnfhohggeaaGreatDoorMedium
import Derived.Deep.RegionLaw
namespace Go.Proofs.YtkaelnfhohggeaaGreatDoor
open Go.RowKit

/-- A medium as plain data. -/
structure MediaD where
  kind : ByteArray
  formats : List ByteArray
  attrs : List KV

/-- The slice at A reads as these media of the thin package (values: kind, formats, attributes). -/
def Meds (w : World) (A : Option Addr) (ms : List MediaD) : Prop :=
  ∀ k m, ms[k]? = some m → ∃ b o A1 c1 A2 c2, A = some ⟨b, o, none⟩ ∧ w.cell? ⟨b, o + k * 3, none⟩ = some (.string m.kind) ∧
    w.cell? ⟨b, o + k * 3 + 1, none⟩ = some (.slice A1 m.formats.length c1) ∧ Strs (fun _ => True) w A1 m.formats ∧ w.cell? ⟨b, o + k * 3 + 2, none⟩ = some (.slice A2 m.attrs.length c2) ∧ KVs (fun _ => True) w A2 m.attrs
theorem Meds.keep {w w' : World} {A : Option Addr} {ms : List MediaD} (h : Meds w A ms) (k : Kp w w') : Meds w' A ms := fun i m hm =>
  let ⟨b, o, A1, c1, A2, c2, e, h0, h1, h2, h3, h4⟩ := h i m hm
  ⟨b, o, A1, c1, A2, c2, e, k _ _ h0, k _ _ h1, h2.keep k, k _ _ h3, h4.keep k⟩
theorem Meds.nil (w : World) (A : Option Addr) : Meds w A [] := fun k s h => by simp at h

/-- These blocks are these media of the package. -/
def MDs (D : Nat → Prop) (w : World) (ps : List Nat) (ms : List MediaD) : Prop := ps.length = ms.length ∧ ∀ (k p : Nat) m, ps[k]? = some p → ms[k]? = some m → MD D w p m.kind m.formats m.attrs
def ptrs (ps : List Nat) : List Value := ps.map fun p => .pointer (some ⟨p, 0, none⟩)
/-- The slice at A reads as pointers to these blocks. -/
def Ptrs (D : Nat → Prop) (w : World) (A : Option Addr) (ps : List Nat) : Prop := ∀ (k q : Nat), ps[k]? = some q → ∃ b o, A = some ⟨b, o, none⟩ ∧ D b ∧ w.cell? ⟨b, o + k, none⟩ = some (.pointer (some ⟨q, 0, none⟩))
section
variable {D D' : Nat → Prop} {w w' : World} {ps : List Nat} {ms : List MediaD}
theorem MDs.keepOn (h : MDs D w ps ms) (k : KpOn D w w') : MDs D w' ps ms := ⟨h.1, fun i p m hp hm => (h.2 i p m hp hm).keepOn k⟩
theorem MDs.keep (h : MDs D w ps ms) (k : Kp w w') : MDs D w' ps ms := h.keepOn (k.on D)
theorem MDs.wide (h : MDs D w ps ms) (k : ∀ b, D b → b < w.heap.size → D' b) : MDs D' w ps ms := ⟨h.1, fun i p m hp hm => (h.2 i p m hp hm).wide k⟩
theorem Ptrs.keepOn {A : Option Addr} (h : Ptrs D w A ps) (k : KpOn D w w') : Ptrs D w' A ps := fun i q hq => let ⟨b, o, e, hd, hc⟩ := h i q hq; ⟨b, o, e, hd, k _ _ hd hc⟩
theorem Ptrs.keep {A : Option Addr} (h : Ptrs D w A ps) (k : Kp w w') : Ptrs D w' A ps := h.keepOn (k.on D)
theorem Ptrs.wide {A : Option Addr} (h : Ptrs D w A ps) (k : ∀ b, D b → b < w.heap.size → D' b) : Ptrs D' w A ps := fun i q hq => let ⟨b, o, e, hd, hc⟩ := h i q hq; ⟨b, o, e, k b hd (World.block_lt_of_cell? _ _ hc), hc⟩
theorem MDs.snoc (h : MDs D w ps ms) {q : Nat} {m : MediaD} (hq : MD D w q m.kind m.formats m.attrs) : MDs D w (ps ++ [q]) (ms ++ [m]) := by
  refine ⟨by simp [h.1], fun k p m' hp hm => ?_⟩
  by_cases hk : k < ps.length
  · rw [List.getElem?_append_left hk] at hp
    rw [List.getElem?_append_left (by have := h.1; omega)] at hm
    exact h.2 k p m' hp hm
  · rw [List.getElem?_append_right (by omega)] at hp
    rw [List.getElem?_append_right (by have := h.1; omega), ← h.1] at hm
    cases hj : k - ps.length with
    | zero => rw [hj] at hp hm; simp at hp hm; subst hp; subst hm; exact hq
    | succ j => rw [hj] at hp; simp at hp
end

/-- Block p is a description of the package with these attributes and media. -/
def SD (D : Nat → Prop) (w : World) (p : Nat) (ats : List KV) (ms : List MediaD) : Prop :=
  D p ∧ (∃ A c, w.cell? ⟨p, 17, none⟩ = some (.slice A ats.length c) ∧ KVs D w A ats) ∧
  ∃ A c ps, w.cell? ⟨p, 18, none⟩ = some (.slice A ms.length c) ∧ Ptrs D w A ps ∧ MDs D w ps ms
section
variable {D D' : Nat → Prop} {w w' : World} {p : Nat} {ats : List KV} {ms : List MediaD}
theorem SD.keepOn (h : SD D w p ats ms) (k : KpOn D w w') : SD D w' p ats ms :=
  let ⟨hd, ⟨A, c, h1, h2⟩, B, d, ps, h3, h4, h5⟩ := h
  ⟨hd, ⟨A, c, k _ _ hd h1, h2.keepOn k⟩, B, d, ps, k _ _ hd h3, h4.keepOn k, h5.keepOn k⟩
theorem SD.keep (h : SD D w p ats ms) (k : Kp w w') : SD D w' p ats ms := h.keepOn (k.on D)
theorem SD.wide (h : SD D w p ats ms) (k : ∀ b, D b → b < w.heap.size → D' b) : SD D' w p ats ms :=
  let ⟨hd, ⟨A, c, h1, h2⟩, B, d, ps, h3, h4, h5⟩ := h
  ⟨k p hd (World.block_lt_of_cell? _ _ h3), ⟨A, c, h1, h2.wide k⟩, B, d, ps, h3, h4.wide k, h5.wide k⟩
end

theorem Tryz.infoMdp : (Tryz.prog.info? 52).map (fun i => (i.zero, i.size, i.bytes)) = some (some (.pointer none), 1, 8) := by kernel_rfl

/-- The state of the loop over the media: block P0 is the description that is being made; k media are made. -/
structure DescAt (w0 : Nat) (P0 : Nat) (A1 : Option Addr) (c1 : Nat) (ats : List KV) (done : List MediaD) (v : Value) (k : Nat) (wr : World) : Prop where
  c18 : wr.cell? ⟨P0, 18, none⟩ = some v
  f18 : wr.frozen? ⟨P0, 18, none⟩ = false
  c17 : wr.cell? ⟨P0, 17, none⟩ = some (.slice A1 ats.length c1)
  kvs : KVs (fun b => w0 ≤ b ∧ b < P0) wr A1 ats
  own : ∃ ps, wr.ownsRow (P0 + 1) 52 1 v k (ptrs ps) ∧ MDs (fun b => w0 ≤ b ∧ b ≠ P0 ∧ v.ownBlock ≠ some b) wr ps done
  lt : w0 ≤ P0

theorem desc_step {w0 P0 : Nat} {A1 : Option Addr} {c1 : Nat} {ats : List KV} {done : List MediaD} {m : MediaD} {v : Value} {k : Nat} {wr w2 w3 : World} {o1 o2 : Obj} {q gg cap : Nat} {ps : List Nat}
    (h : DescAt w0 P0 A1 c1 ats done v k wr) (hb2 : Below (wr.alloc o1).drew.heap.size (wr.alloc o1).drew w2) (hq : MD ((wr.alloc o1).drew.heap.size ≤ ·) w2 q m.kind m.formats m.attrs)
    (hown : wr.ownsRow (P0 + 1) 52 1 v k (ptrs ps)) (hmd : MDs (fun b => w0 ≤ b ∧ b ≠ P0 ∧ v.ownBlock ≠ some b) wr ps done)
    (hown3 : w3.ownsRow (P0 + 1) 52 1 (.slice (some ⟨gg, 0, none⟩) (k + 1) cap) (k + 1) (ptrs ps ++ [.pointer (some ⟨q, 0, none⟩)]))
    (hgrow : (w2.alloc o2).grownBy w3 v.ownBlock) (hat : v.ownBlock = some gg ∨ gg = w2.heap.size + 1) :
    DescAt w0 P0 A1 c1 ats (done ++ [m]) (.slice (some ⟨gg, 0, none⟩) (k + 1) cap) (k + 1) (w3.setCell ⟨P0, 18, none⟩ (.slice (some ⟨gg, 0, none⟩) (k + 1) cap)) := by
  have hP : P0 < wr.heap.size := World.block_lt_of_cell? _ _ h.c18
  have hs2 : wr.heap.size + 1 ≤ w2.heap.size := by have := hb2.size; simpa using this
  have ag : v.ownBlock ≠ some P0 := fun e => by have := (hown.lt _ e).1; omega
  have vlt : ∀ g, v.ownBlock = some g → g < wr.heap.size := fun g e => (hown.lt _ e).2
  -- what a cell of a block other than P0 and v's own row reads, step by step
  have kp : ∀ p u, p.block ≠ P0 → v.ownBlock ≠ some p.block → w2.cell? p = some u → (w3.setCell ⟨P0, 18, none⟩ (.slice (some ⟨gg, 0, none⟩) (k + 1) cap)).cell? p = some u := fun p u h1 h2 hc => by
    rw [World.cell?_setCell_other _ _ _ _ (fun e => by subst e; exact h1 rfl), hgrow.cell_far p (by have := World.block_lt_of_cell? _ _ hc; simp; omega) (Ne.symm h2)]
    exact cell_al hc _
  have k12 : Kp wr w2 := fun p u hc => (hb2.cell (p := p) (by have := World.block_lt_of_cell? _ _ hc; simp; omega)).trans (cell_al hc o1)
  have c3 : w3.cell? ⟨P0, 18, none⟩ = some v := (hgrow.cell_far _ (by simp; omega) (Ne.symm ag)).trans (cell_al (k12 _ _ h.c18) _)
  have z3 : w3.frozen? ⟨P0, 18, none⟩ = false := (hgrow.frozen_far _ (by simp; omega) (Ne.symm ag)).trans (frozen_al (k12 _ _ h.c18) ((hb2.frozen (p := ⟨P0, 18, none⟩) (by simp; omega)).trans (frozen_al h.c18 h.f18 o1)) _)
  have c17 : w3.cell? ⟨P0, 17, none⟩ = some (.slice A1 ats.length c1) := (hgrow.cell_far _ (by simp; omega) (Ne.symm ag)).trans (cell_al (k12 _ _ h.c17) _)
  have gne : gg ≠ P0 := by rcases hat with e | e; exact fun e2 => ag (e2 ▸ e); omega
  refine ⟨World.cell?_setCell_same _ _ _ c3, by rw [World.frozen?_setCell]; exact z3, (World.cell?_setCell_other _ _ _ _ (fun e => by simp at e)).trans c17, ?_, ⟨ps ++ [q], ?_, ?_⟩, h.lt⟩
  · exact (h.kvs.keep k12).keepOn fun p u hd hc => kp p u (by have := hd.2; omega) (fun e => by have := (hown.lt _ e).1; have := hd.2; omega) hc
  · have e1 : ptrs (ps ++ [q]) = ptrs ps ++ [.pointer (some ⟨q, 0, none⟩)] := by simp [ptrs]
    rw [e1]
    exact ownsRow_setCell_below hown3 (Nat.lt_succ_self _) _
  · have D' : ∀ b, b < w2.heap.size → b ≠ P0 → v.ownBlock ≠ some b → (Value.slice (some ⟨gg, 0, none⟩) (k + 1) cap).ownBlock ≠ some b := fun b h1 _ h3 e => by
      have e : gg = b := by simpa [Value.ownBlock] using e
      rcases hat with e2 | e2
      · exact h3 (e ▸ e2)
      · omega
    have m1 : MDs (fun b => w0 ≤ b ∧ b ≠ P0 ∧ v.ownBlock ≠ some b) w2 (ps ++ [q]) (done ++ [m]) := (hmd.keep k12).snoc (hq.wide fun b hb _ => by
      have hb : wr.heap.size + 1 ≤ b := by simpa using hb
      exact ⟨by have := h.lt; omega, by omega, fun e => by have := vlt _ e; omega⟩)
    have m2 : MDs (fun b => (w0 ≤ b ∧ b ≠ P0 ∧ v.ownBlock ≠ some b) ∧ b < w2.heap.size) w2 (ps ++ [q]) (done ++ [m]) := m1.wide fun b hb hl => ⟨hb, hl⟩
    have m3 := m2.keepOn (w' := w3.setCell ⟨P0, 18, none⟩ (.slice (some ⟨gg, 0, none⟩) (k + 1) cap)) fun p u hd hc => kp p u hd.1.2.1 hd.1.2.2 hc
    exact m3.wide fun b hb _ => ⟨hb.1.1, hb.1.2.1, D' b hb.2 hb.1.2.1 hb.1.2.2⟩

theorem own_slice {w : World} {base : Nat} {e : TypeId} {v : Value} {n : Nat} {xs : List Value} (h : w.ownsRow base e 1 v n xs) : ∃ A c, v = .slice A n c ∧ ∀ j u, xs[j]? = some u → ∃ b, A = some ⟨b, 0, none⟩ ∧ base ≤ b ∧ v.ownBlock = some b ∧ w.cell? ⟨b, j, none⟩ = some u := by
  have hc := @World.ownsRow.cells _ _ _ _ _ _ _ h
  have hl := h.1
  rcases h.2 with ⟨rfl, hx⟩ | ⟨g, cap, cur, rfl, _⟩
  · subst hx
    have : xs = [] := by simpa using hl
    subst this
    exact ⟨none, 0, rfl, fun j u hu => by simp at hu⟩
  · exact ⟨_, _, rfl, fun j u hu => ⟨g, rfl, (h.lt g rfl).1, rfl, by have := hc (g := g) rfl j u hu; rwa [add_at] at this⟩⟩

/-- What the finished description is. -/
theorem desc_done {w0 P0 : Nat} {A1 : Option Addr} {c1 : Nat} {ats : List KV} {ms : List MediaD} {v : Value} {wr : World} (h : DescAt w0 P0 A1 c1 ats ms v ms.length wr) : SD (w0 ≤ ·) wr P0 ats ms := by
  obtain ⟨ps, hown, hmd⟩ := h.own
  obtain ⟨A, c, hv, hx⟩ := own_slice hown
  refine ⟨h.lt, ⟨A1, c1, h.c17, h.kvs.wide fun b hb _ => hb.1⟩, A, c, ps, by rw [← hv]; exact h.c18, fun k q hq => ?_, hmd.wide fun b hb _ => hb.1⟩
  obtain ⟨b, hA, hb, _, hc⟩ := hx k (.pointer (some ⟨q, 0, none⟩)) (by simp [ptrs, hq])
  exact ⟨b, 0, hA, by have := h.lt; omega, by simpa using hc⟩

attribute [local go_sem ↓] Go.wp_at_zero Go.wp_at_succ

set_option maxHeartbeats 4000000 in
set_option maxRecDepth 100000 in
theorem description_any {D : Nat → Prop} (aA mA : Option Addr) (ac mc : Nat) (ats : List KV) (ms : List MediaD) (w : World) (hats : ats.length * 32 ≤ 140737488355328) (hms : ms.length * 8 ≤ 140737488355328)
    (hm : ∀ m ∈ ms, m.formats.length * 16 ≤ 140737488355328 ∧ m.attrs.length * 32 ≤ 140737488355328)
    (ha : KVs D w aA ats) (hmm : Meds w mA ms) :
    Calls Tryz.prog 13 #[.agg #[.slice aA ats.length ac, .slice mA ms.length mc]] w fun e w' => ∃ p, e = .returned (.pointer (some ⟨p, 0, none⟩)) ∧ SD (w.heap.size ≤ ·) w' p ats ms ∧ Below w.heap.size w w' := by
  have HA := Lib.hid ha
  have HM := Lib.hid hmm
  have HB := Lib.hid hm
  obtain ⟨i0, hi, hz0, hz1, hz2⟩ := info_parts Tryz.infoMdp
  clear ha hmm hm
  go_enter Tryz.func13, Tryz.ntmps13
  go_wp2_with (go_at_call 21; refine (attributes_any (D := D) aA ac ats _ hats ?_).mono ?_; (exact HA.out.keep (fun p v hp => (Kp.alloc _ _ _ _ hp))); rintro e w1 ⟨A1, c1, rfl, hr1, hb1⟩; have hc1 : w1.cell? ⟨w.heap.size, 1, none⟩ = some (.slice mA ms.length mc) := (hb1.cell (by simp)).trans (by simp [go_sem]); have s1 : w.heap.size < w1.heap.size := (by have := hb1.size; simp at this; omega))
  have hb0 : Below w.heap.size w w1 := ((Below.refl w.heap.size w).alloc (Nat.le_refl _) _).trans (hb1.mono (by simp))
  clear hc1
  go_loopw [14] (fun i wr => ∃ (k : Nat) (v : Value), k ≤ ms.length ∧ i = .int .i64 k ∧ DescAt w.heap.size w1.heap.size A1 c1 ats (ms.take k) v k wr ∧ Below w.heap.size w wr) (fun i _ => ms.length - (intOf i).toNat)
  case atStart =>
    refine ⟨0, .slice none 0 0, Nat.zero_le _, rfl, ⟨by simp [go_sem], by simp [go_sem], by simp [go_sem], (hr1.wide fun b hb hl => ⟨by have hb : _ ≤ b := hb; simp at hb; omega, hl⟩).keep (Kp.alloc w1 _), ⟨[], World.ownsRow_nil _ _ _ _, rfl, by simp⟩, by omega⟩, hb0.alloc (by omega) _⟩
  case round =>
    obtain ⟨k, v, hk, rfl, hda, hb⟩ := hrel
    have HDA := Lib.hid hda
    have h18 := hda.c18
    have hz18 := hda.f18
    have hsz := World.block_lt_of_cell? _ _ h18
    clear hda
    by_cases hlt : k < ms.length
    · obtain ⟨ps, hown, hmd⟩ := HDA.out.own
      have HOWN := Lib.hid hown
      have HMD := Lib.hid hmd
      clear hown hmd
      obtain ⟨b, o, F1, f1, G2, g2, rfl, c0, c1', hs1, c2, hs2⟩ := HM.out k ms[k] (by simp [hlt])
      have HS1 := Lib.hid hs1
      have HS2 := Lib.hid hs2
      have d0 := (hb.cell (p := ⟨b, o + k * 3, none⟩) (World.block_lt_of_cell? _ _ c0)).trans c0
      have d1 := (hb.cell (p := ⟨b, o + k * 3 + 1, none⟩) (World.block_lt_of_cell? _ _ c1')).trans c1'
      have d2 := (hb.cell (p := ⟨b, o + k * 3 + 2, none⟩) (World.block_lt_of_cell? _ _ c2)).trans c2
      have kb : Kp w wr := kp_of_below hb
      have HK := Lib.hid kb
      clear c0 c1' c2 hs1 hs2 kb
      have hmb := HB.out ms[k] (List.getElem_mem _)
      have ag : v.ownBlock ≠ some w1.heap.size := fun e => by have := (HOWN.out.lt _ e).1; omega
      have h18' : ∀ o, (wr.alloc o).cell? ⟨w1.heap.size, 18, none⟩ = some v := fun o => cell_al h18 o
      have hz' : ∀ o, (wr.alloc o).frozen? ⟨w1.heap.size, 18, none⟩ = false := fun o => frozen_al h18 hz18 o
      go_wp2_with fail
      go_region_law
        (first
          | (refine step_append_lies _ (by rfl) _ _ _ (by rfl) (w1.heap.size + 1) 52 i0 _ 1 8 Tryz.underlying78 hi hz0 hz1 hz2 rfl (by omega) v k (ptrs ps) (by rfl) (HO2.out.alloc _) ⟨w2.heap.size, 0, none⟩ 1 1 [.pointer (some ⟨q, 0, none⟩)] (by rfl) (by rfl) (World.news_of_block (cs := #[.pointer (some ⟨q, 0, none⟩)]) (t := 52) (fr := (0, 0)) (heap_alloc_new w2 _)) (by simp [Value.oneCell']) (by omega) (by unfold maxLen; omega) (by omega) (by have := hb2.size; simp at this ⊢; omega) (w2.heap.size + 1) (by simp) ?_; intro gg cap w3 hown3 hgrow hat hlt3; have h183 : w3.cell? ⟨w1.heap.size, 18, none⟩ = some v := (hgrow.cell_far _ (by simp; omega) (Ne.symm ag)).trans (cell_al h182 _); have hz3 : w3.frozen? ⟨w1.heap.size, 18, none⟩ = false := (hgrow.frozen_far _ (by simp; omega) (Ne.symm ag)).trans (frozen_al h182 hzz2 _))
          | (go_simp; go_at_call 18; refine (medium_any (D := fun _ => True) (D' := fun _ => True) ms[k].kind F1 G2 f1 g2 ms[k].formats ms[k].attrs _ hmb.1 hmb.2 ?_ ?_).mono ?_; (exact (HS1.out.keep HK.out).keep (Kp.alloc _ _)); (exact (HS2.out.keep HK.out).keep (Kp.alloc _ _)); rintro e w2 ⟨q, rfl, hq, hb2⟩; have HO2 := Lib.hid (own_below ((HOWN.out.alloc _).drew) hb2); have h182 : w2.cell? ⟨w1.heap.size, 18, none⟩ = some v := (hb2.cell (by simp; omega)).trans (h18' _); have hzz2 : w2.frozen? ⟨w1.heap.size, 18, none⟩ = false := (hb2.frozen (by simp; omega)).trans (hz' _); have hs2 : w1.heap.size < w2.heap.size := (by have := hb2.size; simp at this; omega)))
      all_goals
        have hq' : MD ((wr.alloc (Obj.cells #[Value.string ms[k].kind, Value.slice F1 ms[k].formats.length f1, Value.slice G2 ms[k].attrs.length g2] 32)).drew.heap.size ≤ ·) w2 q ms[k].kind ms[k].formats ms[k].attrs := hq
        have st := desc_step HDA.out hb2 hq' HOWN.out HMD.out hown3 hgrow hat
        have bel : Below w.heap.size w (w3.setCell ⟨w1.heap.size, 18, none⟩ (.slice (some ⟨gg, 0, none⟩) (k + 1) cap)) :=
          (((((hb.alloc (below_le hb (Nat.le_refl _)) _).drew.trans (hb2.mono (by have := hb.size; simp; omega))).alloc (by omega) _).grown hgrow (by simp; omega) (fun j hj => by have := (HOWN.out.lt _ hj).1; omega)).setCell (by show w.heap.size ≤ w1.heap.size; omega) _)
        have e1 : ms.take (k + 1) = ms.take k ++ [ms[k]] := by rw [List.take_succ_eq_append_getElem hlt]
        rw [← e1] at st
        have ST := Lib.hid st
        have BEL := Lib.hid bel
        clear st bel e1 hq hq' hown3 hgrow hat hb2 h183 hz3 h182 hzz2 d0 d1 d2 h18' hz' h18 hz18
        go_wp2
        go_roundw
        case rel => exact ⟨k + 1, _, by omega, by go_num, ST.out, BEL.out⟩
        case measure => simp [intOf]; omega
    · obtain rfl : k = ms.length := by omega
      have hd := HDA.out
      rw [List.take_length] at hd
      have hsd := desc_done hd
      clear hd h18 hz18
      go_wp2
      go_ret
      exact ⟨_, rfl, hsd, hb⟩
end Go.Proofs.YtkaelnfhohggeaaGreatDoor
