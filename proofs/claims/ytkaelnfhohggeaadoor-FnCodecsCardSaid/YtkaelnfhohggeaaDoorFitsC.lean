/- The size guards of FnCodecs. -/
import Derived.Test.YtkaelnfhohggeaaDoorBase
import Derived.Test.YtkaelnfhohggeaaDoorCells
namespace Go.Proofs.YtkaelnfhohggeaaDoor
open Go.RowKit

def fitP (p : KV) : Bool := decide (p.1.size ≤ 2147483647) && decide (p.2.size ≤ 2147483647)
/-- The list and its texts are no longer than the laws speak of. -/
def fitsP (l : List KV) : Bool := decide (l.length ≤ 2147483647) && l.all fitP
theorem fitsP_drop {l : List KV} {k : Nat} (hk : k < l.length) : (l.drop k).all fitP = (fitP l[k] && (l.drop (k + 1)).all fitP) := by
  rw [List.drop_eq_getElem_cons hk, List.all_cons]
theorem fitsP_mem {l : List KV} (h : fitsP l = true) : l.length ≤ 2147483647 ∧ ∀ p ∈ l, p.1.size ≤ 2147483647 ∧ p.2.size ≤ 2147483647 := by
  unfold fitsP at h
  rw [Bool.and_eq_true] at h
  refine ⟨of_decide_eq_true h.1, fun p hp => ?_⟩
  have := List.all_eq_true.1 h.2 p hp
  unfold fitP at this
  simpa using this

set_option maxHeartbeats 1000000 in
theorem fits7_any (p : KV) (w : World) (h1 : p.1.size ≤ 9223372036854775807) (h2 : p.2.size ≤ 9223372036854775807) :
    Calls Tryd.prog 26 #[.agg #[.string p.1, .string p.2]] w fun e w' => e = .returned (.bool (fitP p)) ∧ Below w.heap.size w w' := by
  have bel : ∀ o, Below w.heap.size w (w.alloc o) := fun o => (Below.refl _ _).alloc (Nat.le_refl _) _
  have BEL := Lib.hid bel
  clear bel
  by_cases g1 : 2147483647 < p.1.size
  · have fin : fitP p = false := by unfold fitP; rw [decide_eq_false (by omega)]; rfl
    have FIN := Lib.hid fin
    clear fin
    go_enter Tryd.func26, Tryd.ntmps26
    go_wp2
    go_ret
    exact ⟨congrArg (fun b => Ending.returned (.bool b)) FIN.out.symm, BEL.out _⟩
  · by_cases g2 : 2147483647 < p.2.size
    · have fin : fitP p = false := by unfold fitP; rw [decide_eq_true (by omega), decide_eq_false (by omega)]; rfl
      have FIN := Lib.hid fin
      clear fin
      go_enter Tryd.func26, Tryd.ntmps26
      go_wp2
      go_ret
      exact ⟨congrArg (fun b => Ending.returned (.bool b)) FIN.out.symm, BEL.out _⟩
    · have fin : fitP p = true := by unfold fitP; rw [decide_eq_true (by omega), decide_eq_true (by omega)]; rfl
      have FIN := Lib.hid fin
      clear fin
      go_enter Tryd.func26, Tryd.ntmps26
      go_wp2
      go_ret
      exact ⟨congrArg (fun b => Ending.returned (.bool b)) FIN.out.symm, BEL.out _⟩

set_option maxHeartbeats 1000000 in
theorem fits6_any {D : Nat → Prop} (A : Option Addr) (c : Nat) (l : List KV) (w : World) (hl : l.length * 32 ≤ 140737488351232) (h : KVs D w A l) (hz : ∀ p ∈ l, p.1.size ≤ 9223372036854775807 ∧ p.2.size ≤ 9223372036854775807) :
    Calls Tryd.prog 19 #[.slice A l.length c] w fun e w' => e = .returned (.bool (fitsP l)) ∧ Below w.heap.size w w' := by
  have H := Lib.hid h
  have HZ := Lib.hid hz
  clear h hz
  by_cases hb : 2147483647 < l.length
  · have fin : fitsP l = false := by unfold fitsP; rw [decide_eq_false (by omega)]; rfl
    have FIN := Lib.hid fin
    clear fin
    go_enter Tryd.func19, Tryd.ntmps19
    go_wp2
    go_ret
    exact ⟨congrArg (fun b => Ending.returned (.bool b)) FIN.out.symm, Below.refl _ _⟩
  · have fin : (l.drop 0).all fitP = fitsP l := by unfold fitsP; rw [decide_eq_true (by omega)]; rfl
    have FIN := Lib.hid fin
    clear fin
    go_enter Tryd.func19, Tryd.ntmps19
    go_wp2
    go_loopw [10] (fun i wr => ∃ k : Nat, i = .int .i64 k ∧ k ≤ l.length ∧ (l.drop k).all fitP = fitsP l ∧ Below w.heap.size w wr) (fun i _ => l.length - (intOf i).toNat)
    case atStart => exact ⟨0, rfl, by omega, FIN.out, Below.refl _ _⟩
    case round =>
      obtain ⟨k, rfl, hk, hall, hbw⟩ := hrel
      have HALL := Lib.hid hall
      clear hall
      have hs0 := hbw.size
      by_cases hlt : k < l.length
      · obtain ⟨b, o, rfl, _, c0, c1⟩ := H.out k l[k] (by simp [hlt])
        have d0 := (hbw.cell (p := ⟨b, o + k * 2, none⟩) (World.block_lt_of_cell? _ _ c0)).trans c0
        have d1 := (hbw.cell (p := ⟨b, o + k * 2 + 1, none⟩) (World.block_lt_of_cell? _ _ c1)).trans c1
        clear c0 c1
        have hsz := HZ.out l[k] (List.getElem_mem _)
        cases hf : fitP l[k] with
        | false =>
          have fin : fitsP l = false := by rw [← HALL.out, fitsP_drop hlt, hf]; rfl
          have FIN2 := Lib.hid fin
          have hc : ∀ w, Calls Tryd.prog 26 #[.agg #[.string l[k].1, .string l[k].2]] w fun e w' => e = .returned (.bool false) ∧ Below w.heap.size w w' := fun w => by
            have := fits7_any l[k] w hsz.1 hsz.2
            rw [hf] at this
            exact this
          have HC := Lib.hid hc
          clear fin hc hf
          go_wp2_with (go_at_call 26; refine (HC.out _).mono ?_; rintro e w1 ⟨rfl, hb1⟩)
          go_ret
          exact ⟨congrArg (fun b => Ending.returned (.bool b)) FIN2.out.symm, (hbw.alloc hs0 _).trans (hb1.mono (by simp; omega))⟩
        | true =>
          have nx : (l.drop (k + 1)).all fitP = fitsP l := by rw [← HALL.out, fitsP_drop hlt, hf]; rfl
          have NX := Lib.hid nx
          have hc : ∀ w, Calls Tryd.prog 26 #[.agg #[.string l[k].1, .string l[k].2]] w fun e w' => e = .returned (.bool true) ∧ Below w.heap.size w w' := fun w => by
            have := fits7_any l[k] w hsz.1 hsz.2
            rw [hf] at this
            exact this
          have HC := Lib.hid hc
          clear nx hc hf
          go_wp2_with (go_at_call 26; refine (HC.out _).mono ?_; rintro e w1 ⟨rfl, hb1⟩)
          go_roundw
          case rel => exact ⟨k + 1, by go_num, by omega, NX.out, (hbw.alloc hs0 _).trans (hb1.mono (by simp; omega))⟩
          case measure => simp [intOf]; omega
      · obtain rfl : k = l.length := by omega
        have fin : fitsP l = true := by rw [← HALL.out, List.drop_length]; rfl
        have FIN2 := Lib.hid fin
        clear fin
        go_wp2
        go_ret
        exact ⟨congrArg (fun b => Ending.returned (.bool b)) FIN2.out.symm, hbw⟩

theorem Tryd.infoKVs : (Tryd.prog.info? 41).map (fun i => (i.zero, i.size, i.bytes)) = some (some (.agg #[.string ByteArray.empty, .string ByteArray.empty]), 2, 32) := by kernel_rfl


/-- A codec as the law is given it. -/
structure RCod where
  name : ByteArray
  rate : Int
  chans : Int
  pay : Int
  line : ByteArray
  fb : List KV
/-- The slice at A reads as these codecs. -/
def RCods (w : World) (A : Option Addr) (l : List RCod) : Prop := ∀ (k : Nat) (c : RCod), l[k]? = some c → ∃ b o A5 c5, A = some ⟨b, o, none⟩ ∧ w.cell? ⟨b, o + k * 6, none⟩ = some (.string c.name) ∧ w.cell? ⟨b, o + k * 6 + 1, none⟩ = some (.int .i64 c.rate) ∧ w.cell? ⟨b, o + k * 6 + 2, none⟩ = some (.int .i64 c.chans) ∧
  w.cell? ⟨b, o + k * 6 + 3, none⟩ = some (.int .i64 c.pay) ∧ w.cell? ⟨b, o + k * 6 + 4, none⟩ = some (.string c.line) ∧ w.cell? ⟨b, o + k * 6 + 5, none⟩ = some (.slice A5 c.fb.length c5) ∧ KVs (fun _ => True) w A5 c.fb
theorem RCods.keep {w w' : World} {A : Option Addr} {l : List RCod} (h : RCods w A l) (k : Kp w w') : RCods w' A l := fun i c hc =>
  let ⟨b, o, A5, c5, e, h0, h1, h2, h3, h4, h5, h6⟩ := h i c hc
  ⟨b, o, A5, c5, e, k _ _ h0, k _ _ h1, k _ _ h2, k _ _ h3, k _ _ h4, k _ _ h5, h6.keep k⟩
/-- What of a codec is known ahead: its texts and lists are no longer than a machine bears. -/
structure RSmall (c : RCod) : Prop where
  name : c.name.size ≤ 9223372036854775807
  line : c.line.size ≤ 9223372036854775807
  len : c.fb.length * 32 ≤ 140737488351232
  fb : ∀ p ∈ c.fb, p.1.size ≤ 9223372036854775807 ∧ p.2.size ≤ 9223372036854775807
def RFit (c : RCod) : Prop := c.name.size ≤ 2147483647 ∧ c.line.size ≤ 2147483647 ∧ c.fb.length ≤ 2147483647 ∧ ∀ p ∈ c.fb, p.1.size ≤ 2147483647 ∧ p.2.size ≤ 2147483647

set_option maxHeartbeats 1000000 in
theorem fits5_any (c : RCod) (A5 : Option Addr) (c5 : Nat) (w : World) (hs : RSmall c) (h : KVs (fun _ => True) w A5 c.fb) :
    Calls Tryd.prog 11 #[.agg #[.string c.name, .int .i64 c.rate, .int .i64 c.chans, .int .i64 c.pay, .string c.line, .slice A5 c.fb.length c5]] w fun e w' => ∃ r : Bool, e = .returned (.bool r) ∧ (r = true → RFit c) ∧ Below w.heap.size w w' := by
  have H := Lib.hid h
  have hn := hs.name
  have hl := hs.line
  have HF := Lib.hid (fun w h => fits6_any (D := fun _ => True) A5 c5 c.fb w hs.len h hs.fb)
  clear h
  by_cases g1 : 2147483647 < c.name.size
  · go_enter Tryd.func11, Tryd.ntmps11
    go_wp2
    go_ret
    exact ⟨false, rfl, (fun e => by cases e), (Below.refl _ _).alloc (Nat.le_refl _) _⟩
  · by_cases g2 : 2147483647 < c.line.size
    · go_enter Tryd.func11, Tryd.ntmps11
      go_wp2
      go_ret
      exact ⟨false, rfl, (fun e => by cases e), (Below.refl _ _).alloc (Nat.le_refl _) _⟩
    · cases hf : fitsP c.fb with
      | false =>
        rw [hf] at HF
        go_enter Tryd.func11, Tryd.ntmps11
        go_wp2_with (go_at_call 19; refine (HF.out _ (H.out.keep (Kp.alloc _ _))).mono ?_; rintro e w1 ⟨rfl, hb1⟩)
        go_ret
        exact ⟨false, rfl, (fun e => by cases e), ((Below.refl _ _).alloc (Nat.le_refl _) _).trans (hb1.mono (by simp))⟩
      | true =>
        rw [hf] at HF
        go_enter Tryd.func11, Tryd.ntmps11
        go_wp2_with (go_at_call 19; refine (HF.out _ (H.out.keep (Kp.alloc _ _))).mono ?_; rintro e w1 ⟨rfl, hb1⟩)
        go_ret
        have hm := fitsP_mem hf
        exact ⟨true, rfl, fun _ => ⟨by omega, by omega, hm.1, hm.2⟩, ((Below.refl _ _).alloc (Nat.le_refl _) _).trans (hb1.mono (by simp))⟩

set_option maxHeartbeats 1000000 in
theorem fits4_any (A : Option Addr) (c : Nat) (l : List RCod) (w : World) (hl : l.length ≤ 140737488351232) (h : RCods w A l) (hs : ∀ c ∈ l, RSmall c) :
    Calls Tryd.prog 4 #[.slice A l.length c] w fun e w' => ∃ r : Bool, e = .returned (.bool r) ∧ (r = true → l.length ≤ 2147483647 ∧ ∀ c ∈ l, RFit c) ∧ Below w.heap.size w w' := by
  have H := Lib.hid h
  have HS := Lib.hid hs
  clear h hs
  by_cases hb : 2147483647 < l.length
  · go_enter Tryd.func4, Tryd.ntmps4
    go_wp2
    go_ret
    exact ⟨false, rfl, (fun e => by cases e), Below.refl _ _⟩
  · go_enter Tryd.func4, Tryd.ntmps4
    go_wp2
    go_loopw [10] (fun i wr => ∃ k : Nat, i = .int .i64 k ∧ k ≤ l.length ∧ (∀ (j : Nat) (x : RCod), j < k → l[j]? = some x → RFit x) ∧ Below w.heap.size w wr) (fun i _ => l.length - (intOf i).toNat)
    case atStart => exact ⟨0, rfl, by omega, fun j x hj => by omega, Below.refl _ _⟩
    case round =>
      obtain ⟨k, rfl, hk, hall, hbw⟩ := hrel
      have HALL := Lib.hid hall
      have HB := Lib.hid hbw
      clear hall hbw
      by_cases hlt : k < l.length
      · have hd : decide ((k : Int) < (l.length : Int)) = true := by simp; omega
        obtain ⟨b, o, A5, c5, rfl, e0, e1, e2, e3, e4, e5, hkv⟩ := H.out k l[k] (List.getElem?_eq_getElem hlt)
        have kb := kp_of_below HB.out
        have e0 := kb _ _ e0
        have e1 := kb _ _ e1
        have e2 := kb _ _ e2
        have e3 := kb _ _ e3
        have e4 := kb _ _ e4
        have e5 := kb _ _ e5
        have HK := Lib.hid (hkv.keep (kb.trans (Kp.alloc _ (.cells #[.string l[k].name, .int .i64 l[k].rate, .int .i64 l[k].chans, .int .i64 l[k].pay, .string l[k].line, .slice A5 l[k].fb.length c5] 31))))
        have HF := Lib.hid (fun (wx : World) (hx : KVs (fun _ => True) wx A5 l[k].fb) => fits5_any l[k] A5 c5 wx (HS.out _ (List.getElem_mem hlt)) hx)
        have hlk := List.getElem?_eq_getElem hlt
        clear hkv kb
        generalize l[k] = x at e0 e1 e2 e3 e4 e5 HK HF hlk
        go_wp2_with (go_at_call 11; refine (HF.out _ HK.out).mono ?_; rintro e w1 ⟨r, rfl, hr, hb1⟩; have B1 := Lib.hid ((HB.out.alloc HB.out.size _).trans (hb1.mono (Nat.le_trans HB.out.size (by simp)))); have HRR := Lib.hid hr; clear hr hb1; cases r)
        · go_ret
          exact ⟨false, rfl, (fun e => by cases e), B1.out⟩
        · go_roundw
          case rel =>
            refine ⟨k + 1, by go_num, hlt, fun j y hj hy => ?_, B1.out⟩
            by_cases e : j = k
            · subst e
              rw [hlk] at hy
              cases hy
              exact HRR.out trivial
            · exact HALL.out j y (by omega) hy
          case measure => simp [intOf]; omega
      · obtain rfl : k = l.length := by omega
        have hd : decide ((l.length : Int) < (l.length : Int)) = false := by simp
        go_wp2
        go_ret
        exact ⟨true, rfl, fun _ => ⟨by omega, fun x hx => by obtain ⟨j, hj⟩ := List.getElem?_of_mem hx; exact HALL.out j x (List.getElem?_eq_some_iff.1 hj).1 hj⟩, HB.out⟩
end Go.Proofs.YtkaelnfhohggeaaDoor
