/- The reference's test of codecs. -/
import Derived.Test.YtkaelnfhohggeaaDoorSpecLine
import Derived.Test.YtkaelnfhohggeaaDoorFitsC
namespace Go.Proofs.YtkaelnfhohggeaaDoor
open Go.RowKit

/-- A codec that is compared. -/
structure RIs (c : RCod) : Prop where
  name : wordB c.name = true
  rate : 1 ≤ c.rate ∧ c.rate ≤ 200000
  chans : 0 ≤ c.chans ∧ c.chans ≤ 8
  pay : 96 ≤ c.pay ∧ c.pay ≤ 127
  len : c.fb.length ≤ 3
  line : lineB c.line = true
  fb : ∀ f ∈ c.fb, wordB f.1 = true ∧ (f.2.size = 0 ∨ wordB f.2 = true)
/-- The first k codecs are ones that are compared, with different payloads. -/
def RTo (l : List RCod) (k : Nat) : Prop := (∀ (j : Nat) (c : RCod), j < k → l[j]? = some c → RIs c) ∧ ∀ (i j : Nat) (a b : RCod), i < j → j < k → l[i]? = some a → l[j]? = some b → a.pay ≠ b.pay
theorem RTo.step {l : List RCod} {k : Nat} {c : RCod} (h : RTo l k) (hk : l[k]? = some c) (hc : RIs c) (hd : ∀ (j : Nat) (a : RCod), j < k → l[j]? = some a → a.pay ≠ c.pay) : RTo l (k + 1) := by
  refine ⟨fun j x hj hx => ?_, fun i j a b hi hj ha hb => ?_⟩
  · by_cases e : j = k
    · subst e; rw [hk] at hx; cases hx; exact hc
    · exact h.1 j x (by omega) hx
  · by_cases e : j = k
    · subst e; rw [hk] at hb; cases hb; exact hd i a hi ha
    · exact h.2 i j a b hi (by omega) ha hb
def RGood (l : List RCod) : Prop := l.length ≤ 5 ∧ RTo l l.length

/-- The first test that a codec's numbers fail, if one. -/
theorem first_bad (x : RCod) : (decide (x.rate < 1) = true) ∨ (decide (x.rate < 1) = false ∧ decide (200000 < x.rate) = true) ∨ (decide (x.rate < 1) = false ∧ decide (200000 < x.rate) = false ∧ decide (x.chans < 0) = true) ∨
    (decide (x.rate < 1) = false ∧ decide (200000 < x.rate) = false ∧ decide (x.chans < 0) = false ∧ decide (8 < x.chans) = true) ∨ (decide (x.rate < 1) = false ∧ decide (200000 < x.rate) = false ∧ decide (x.chans < 0) = false ∧ decide (8 < x.chans) = false ∧ decide (x.pay < 96) = true) ∨
    (decide (x.rate < 1) = false ∧ decide (200000 < x.rate) = false ∧ decide (x.chans < 0) = false ∧ decide (8 < x.chans) = false ∧ decide (x.pay < 96) = false ∧ decide (127 < x.pay) = true) ∨
    (decide (x.rate < 1) = false ∧ decide (200000 < x.rate) = false ∧ decide (x.chans < 0) = false ∧ decide (8 < x.chans) = false ∧ decide (x.pay < 96) = false ∧ decide (127 < x.pay) = false ∧ decide (3 < x.fb.length) = true ∧ decide ((3 : Int) < (x.fb.length : Int)) = true) ∨
    (decide (x.rate < 1) = false ∧ decide (200000 < x.rate) = false ∧ decide (x.chans < 0) = false ∧ decide (8 < x.chans) = false ∧ decide (x.pay < 96) = false ∧ decide (127 < x.pay) = false ∧ decide (3 < x.fb.length) = false ∧ decide ((3 : Int) < (x.fb.length : Int)) = false) := by
  simp only [decide_eq_true_eq, decide_eq_false_iff_not]
  omega

set_option maxHeartbeats 4000000 in
set_option maxRecDepth 100000 in
theorem specCodecs_any (A : Option Addr) (c : Nat) (l : List RCod) (w : World) (hl : l.length ≤ 2147483647) (hcap : l.length ≤ c) (h : RCods w A l) (hf : ∀ c ∈ l, RFit c) :
    Calls Tryd.prog 5 #[.slice A l.length c] w fun e w' => ∃ r : Bool, e = .returned (.bool r) ∧ (r = true → RGood l) ∧ Below w.heap.size w w' := by
  have H := Lib.hid h
  have HF := Lib.hid hf
  clear h hf
  go_enter Tryd.func5, Tryd.ntmps5
  go_wp2
  go_loopw [11] (fun i wr => ∃ k : Nat, i = .int .i64 k ∧ k ≤ l.length ∧ RTo l k ∧ Below w.heap.size w wr) (fun i _ => l.length - (intOf i).toNat)
  case atStart => exact ⟨0, rfl, by omega, ⟨fun j x hj => by omega, fun i j a b hi hj => by omega⟩, Below.refl _ _⟩
  case round =>
    obtain ⟨k, rfl, hk, hall, hbw⟩ := hrel
    have HALL := Lib.hid hall
    have HB := Lib.hid hbw
    clear hall hbw
    by_cases hlt : k < l.length
    · have hd : decide ((k : Int) < (l.length : Int)) = true := by simp; omega
      obtain ⟨b, o, A5, c5, rfl, e0, e1, e2, e3, e4, e5, hkv⟩ := H.out k l[k] (List.getElem?_eq_getElem hlt)
      have kb := kp_of_below HB.out
      have e0 := kb _ _ e0
      have e1 := kb _ _ e1
      have e2 := kb _ _ e2
      have e3 := kb _ _ e3
      have e4 := kb _ _ e4
      have e5 := kb _ _ e5
      have HK := Lib.hid (hkv.keep kb)
      have hlk := List.getElem?_eq_getElem hlt
      have HLK := Lib.hid hlk
      have hfit := HF.out _ (List.getElem_mem hlt)
      clear hkv kb hlk
      generalize l[k] = x at e0 e1 e2 e3 e4 e5 HK HLK hfit
      have HFIT := Lib.hid hfit
      have hwn := fun w => word_any x.name w (by have := hfit.1; omega)
      have HLN := Lib.hid (fun w => line_any x.line w (by have := hfit.2.1; omega))
      have HBN := Lib.hid (fun (o : Obj) => HB.out.alloc HB.out.size o)
      clear hfit
      cases hwb : wordB x.name with
      | false =>
        rw [hwb] at hwn
        have HWN := Lib.hid hwn
        clear hwn
        go_wp2_with (go_at_call 12; refine (HWN.out _).mono ?_; rintro e w1 ⟨rfl, rfl⟩)
        go_ret
        exact ⟨false, rfl, (fun e => by cases e), HBN.out _⟩
      | true =>
        rw [hwb] at hwn
        have HWN := Lib.hid hwn
        clear hwn
        have hq := first_bad x
        rcases hq with q1 | ⟨q1, q2⟩ | ⟨q1, q2, q3⟩ | ⟨q1, q2, q3, q4⟩ | ⟨q1, q2, q3, q4, q5⟩ | ⟨q1, q2, q3, q4, q5, q6⟩ | ⟨q1, q2, q3, q4, q5, q6, q7, q8⟩ | ⟨q1, q2, q3, q4, q5, q6, q7, q8⟩
        iterate 7
          · go_wp2_with (go_at_call 12; refine (HWN.out _).mono ?_; rintro e w1 ⟨rfl, rfl⟩)
            go_ret
            exact ⟨false, rfl, (fun e => by cases e), HBN.out _⟩
        go_wp2_with (first
          | (go_at_call 12; refine (HWN.out _).mono ?_; rintro e w1 ⟨rfl, rfl⟩)
          | (go_at_call 13; refine (HLN.out _).mono ?_; rintro e w1 ⟨r, rfl, hr, rfl⟩; have HRR := Lib.hid hr; clear hr; cases r))
        · go_ret
          exact ⟨false, rfl, (fun e => by cases e), HBN.out _⟩
        · obtain ⟨wo, rfl⟩ : ∃ wo : World, wo = wr := ⟨_, rfl⟩
          have hline := HRR.out trivial
          have B0 := Lib.hid (Blk.new wo [.string x.name, .int .i64 x.rate, .int .i64 x.chans, .int .i64 x.pay, .string x.line, .slice A5 x.fb.length c5] 31)
          go_loopw [66] (fun i w2 => ∃ j : Nat, i = .int .i64 j ∧ j ≤ k ∧ (∀ (t : Nat) (y : RCod), t < j → l[t]? = some y → y.pay ≠ x.pay) ∧ Blk w2 wo.heap.size [.string x.name, .int .i64 x.rate, .int .i64 x.chans, .int .i64 x.pay, .string x.line, .slice A5 x.fb.length c5] ∧ Below wo.heap.size wo w2) (fun i _ => k - (intOf i).toNat)
          case atStart => exact ⟨0, rfl, by omega, fun t y ht => by omega, B0.out, (Below.refl _ _).alloc (Nat.le_refl _) _⟩
          case round =>
            obtain ⟨j, rfl, hj, hall2, hblk, hb2⟩ := hrel
            have HALL2 := Lib.hid hall2
            have HBLK := Lib.hid hblk
            have HB2 := Lib.hid hb2
            have hs2 := hb2.size
            have hl2 := hblk.lt
            clear hall2 hb2
            by_cases hjk : j < k
            · have hd2 : decide ((j : Int) < (k : Int)) = true := by simp; omega
              have hjl : j < l.length := by omega
              obtain ⟨b', o', A6, c6, e', r0, r1, r2, r3, r4, r5, _⟩ := H.out j l[j] (List.getElem?_eq_getElem hjl)
              cases e'
              have kb := (kp_of_below HB.out).trans (kp_of_below HB2.out)
              have r0 := kb _ _ r0
              have r1 := kb _ _ r1
              have r2 := kb _ _ r2
              have r3 := kb _ _ r3
              have r4 := kb _ _ r4
              have r5 := kb _ _ r5
              have hlj := Lib.hid (List.getElem?_eq_getElem hjl)
              have p3 : wr.cell? ⟨wo.heap.size, 3, none⟩ = some (.int .i64 x.pay) := hblk.cell (j := 3) rfl
              have P3 := cell_al p3 (.cells #[.string l[j].name, .int .i64 l[j].rate, .int .i64 l[j].chans, .int .i64 l[j].pay, .string l[j].line, .slice A6 l[j].fb.length c6] 31)
              clear kb hblk p3
              generalize l[j] = y at r0 r1 r2 r3 r4 r5 hlj P3
              have hbn := Lib.hid (fun (o : Obj) => HB2.out.alloc HB2.out.size o)
              by_cases hpp : y.pay = x.pay
              · have q9 : decide (y.pay = x.pay) = true := by simp [hpp]
                have q10 : (y.pay == x.pay) = true := by simp [hpp]
                clear hpp
                go_wp2
                go_ret
                exact ⟨false, rfl, (fun e => by cases e), HB.out.trans ((hbn.out _).mono HB.out.size)⟩
              · have q9 : decide (y.pay = x.pay) = false := by simp [hpp]
                have q10 : (y.pay == x.pay) = false := by simp [hpp]
                have HPP := Lib.hid hpp
                clear hpp
                go_wp2
                go_roundw
                case rel =>
                  refine ⟨j + 1, by go_num, by omega, fun t z ht hz => ?_, HBLK.out.alloc _, hbn.out _⟩
                  by_cases e : t = j
                  · subst e; rw [hlj.out] at hz; cases hz; exact HPP.out
                  · exact HALL2.out t z (by omega) hz
                case measure => simp [intOf]; omega
            · obtain rfl : j = k := by omega
              have hd2 : decide ((j : Int) < (j : Int)) = false := by simp
              have p5 : wr.cell? ⟨wo.heap.size, 5, none⟩ = some (.slice A5 x.fb.length c5) := hblk.cell (j := 5) rfl
              clear hblk
              obtain ⟨wi, rfl⟩ : ∃ wi : World, wi = wr := ⟨_, rfl⟩
              go_wp2
              go_loopw [79] (fun i w2 => ∃ n : Nat, i = .int .i64 n ∧ n ≤ x.fb.length ∧ (∀ (t : Nat) (f : KV), t < n → x.fb[t]? = some f → wordB f.1 = true ∧ (f.2.size = 0 ∨ wordB f.2 = true)) ∧ Below wo.heap.size wo w2) (fun i _ => x.fb.length - (intOf i).toNat)
              case atStart => exact ⟨0, rfl, by omega, fun t y ht => by omega, HB2.out⟩
              case round =>
                obtain ⟨n, rfl, hn, hall3, hb3⟩ := hrel
                have HALL3 := Lib.hid hall3
                have HB3 := Lib.hid hb3
                clear hall3 hb3
                by_cases hnl : n < x.fb.length
                · have hd3 : decide ((n : Int) < (x.fb.length : Int)) = true := by simp; omega
                  obtain ⟨b7, o7, rfl, _, s0, s1⟩ := HK.out n x.fb[n] (List.getElem?_eq_getElem hnl)
                  have s0 := kp_of_below HB3.out _ _ s0
                  have s1 := kp_of_below HB3.out _ _ s1
                  have hz := HFIT.out.2.2.2 _ (List.getElem_mem hnl)
                  have hfl := HFIT.out.2.2.1
                  have hln := Lib.hid (List.getElem?_eq_getElem hnl)
                  generalize x.fb[n] = f at s0 s1 hz hln
                  have hw1 := fun w => word_any f.1 w (by omega)
                  have hw2 := fun w => word_any f.2 w (by omega)
                  have hbn := Lib.hid (fun (o : Obj) => HB3.out.alloc HB3.out.size o)
                  clear hz
                  have hem : (f.2.toList.isEmpty = true ∧ f.2.size = 0) ∨ f.2.toList.isEmpty = false := by
                    rw [Lib.toList_data, Lib.size_eq]; cases f.2.data.toList <;> simp
                  cases hb1 : wordB f.1 with
                  | false =>
                    rw [hb1] at hw1
                    have HW1 := Lib.hid hw1
                    clear hw1 hw2 hb1
                    go_wp2_with (go_at_call 12; refine (HW1.out _).mono ?_; rintro e w1 ⟨rfl, rfl⟩)
                    go_ret
                    exact ⟨false, rfl, (fun e => by cases e), HB.out.trans ((hbn.out _).mono HB.out.size)⟩
                  | true =>
                    rw [hb1] at hw1
                    have HW1 := Lib.hid hw1
                    clear hw1
                    rcases hem with ⟨hem, hem2⟩ | hem
                    · have HEM := Lib.hid hem2
                      clear hw2 hem2
                      go_wp2_with (go_at_call 12; refine (HW1.out _).mono ?_; rintro e w1 ⟨rfl, rfl⟩)
                      go_roundw
                      case rel =>
                        refine ⟨n + 1, by go_num, by omega, fun t z ht hz => ?_, hbn.out _⟩
                        by_cases e : t = n
                        · subst e; rw [hln.out] at hz; cases hz; exact ⟨hb1, .inl HEM.out⟩
                        · exact HALL3.out t z (by omega) hz
                      case measure => simp [intOf]; omega
                    · cases hb4 : wordB f.2 with
                      | false =>
                        rw [hb4] at hw2
                        have HW2 := Lib.hid hw2
                        clear hw2 hb4
                        go_wp2_with (first
                          | (go_at_call_of 12 f.1; refine (HW1.out _).mono ?_; rintro e w1 ⟨rfl, rfl⟩)
                          | (go_at_call_of 12 f.2; refine (HW2.out _).mono ?_; rintro e w1 ⟨rfl, rfl⟩))
                        go_ret
                        exact ⟨false, rfl, (fun e => by cases e), HB.out.trans ((hbn.out _).mono HB.out.size)⟩
                      | true =>
                        rw [hb4] at hw2
                        have HW2 := Lib.hid hw2
                        clear hw2
                        go_wp2_with (first
                          | (go_at_call_of 12 f.1; refine (HW1.out _).mono ?_; rintro e w1 ⟨rfl, rfl⟩)
                          | (go_at_call_of 12 f.2; refine (HW2.out _).mono ?_; rintro e w1 ⟨rfl, rfl⟩))
                        go_roundw
                        case rel =>
                          refine ⟨n + 1, by go_num, by omega, fun t z ht hz => ?_, hbn.out _⟩
                          by_cases e : t = n
                          · subst e; rw [hln.out] at hz; cases hz; exact ⟨hb1, .inr hb4⟩
                          · exact HALL3.out t z (by omega) hz
                        case measure => simp [intOf]; omega
                · obtain rfl : n = x.fb.length := by omega
                  have hd3 : decide ((x.fb.length : Int) < (x.fb.length : Int)) = false := by simp
                  have his : RIs x := by
                    simp only [decide_eq_false_iff_not] at q1 q2 q3 q4 q5 q6 q7
                    exact ⟨hwb, ⟨by omega, by omega⟩, ⟨by omega, by omega⟩, ⟨by omega, by omega⟩, by omega, hline, fun f hf => by obtain ⟨t, ht⟩ := List.getElem?_of_mem hf; exact HALL3.out t f (List.getElem?_eq_some_iff.1 ht).1 ht⟩
                  have HTO := Lib.hid (HALL.out.step HLK.out his HALL2.out)
                  clear his
                  go_wp2
                  go_roundw
                  case rel => exact ⟨j + 1, by go_num, by omega, HTO.out, HB.out.trans (HB3.out.mono HB.out.size)⟩
                  case measure => simp [intOf]; omega
    · obtain rfl : k = l.length := by omega
      have hd : decide ((l.length : Int) < (l.length : Int)) = false := by simp
      by_cases h5 : l.length ≤ 5
      · have h6 : decide ((l.length : Int) ≤ 5) = true := by simp; omega
        go_wp2
        go_ret
        exact ⟨true, rfl, fun _ => ⟨h5, HALL.out⟩, HB.out⟩
      · have h6 : decide ((l.length : Int) ≤ 5) = false := by simp; omega
        go_wp2
        go_ret
        exact ⟨false, rfl, (fun e => by cases e), HB.out⟩
end Go.Proofs.YtkaelnfhohggeaaDoor
