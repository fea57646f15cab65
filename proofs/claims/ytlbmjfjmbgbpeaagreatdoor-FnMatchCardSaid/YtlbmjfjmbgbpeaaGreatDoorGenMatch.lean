/- Whether two formats of no kind of their own go together. -/
import Derived.Test.YtlbmjfjmbgbpeaaGreatDoorGeneric
import Derived.Test.YtlbmjfjmbgbpeaaGreatDoorLater
import Derived.Sort.KeysCollected
namespace Go.Proofs.YtlbmjfjmbgbpeaaGreatDoor
open Go.RowKit Go.WideMaps Go.Maps

/-- Texts of maps: short, of ASCII. -/
def PlainT (s : ByteArray) : Prop := s.size < 4294967281 ∧ ∀ (j : Nat) b, s.data.toList[j]? = some b → b.toNat < 128
theorem fold_any (s t : ByteArray) (w : World) (hs : PlainT s) (ht : PlainT t) : Calls Tryz.prog 38 #[.string s, .string t] w fun e w' => e = .returned (.bool (Lib.equalFold s.data.toList t.data.toList)) ∧ Below w.heap.size w w' :=
  (Tryz.strings_EqualFold s t w hs.1 hs.2 ht.2).mono fun _ _ ⟨he, hw⟩ => ⟨he, hw ▸ Below.refl _ _⟩

/-- All values of D are short texts of ASCII. -/
def PlainM {H : Type} (D : DataW H) : Prop := ∀ k : List UInt8, PlainT (valAt D k)
/-- At each key that both have the values are equal in whatever letters. -/
def AgreeM {H : Type} (D1 D2 : DataW H) : Prop := ∀ k : List UInt8, has D1 (.string k) = true → has D2 (.string k) = true → Lib.equalFold (valAt D2 k).data.toList (valAt D1 k).data.toList = true
theorem fold_comm : ∀ s t : List UInt8, Lib.equalFold s t = Lib.equalFold t s
  | [], [] => rfl
  | [], _ :: _ => rfl
  | _ :: _, [] => rfl
  | x :: s, y :: t => by
    rw [fold_small, fold_small, Bool.eq_iff_iff, beq_iff_eq, beq_iff_eq]
    exact ⟨Eq.symm, Eq.symm⟩
theorem AgreeM.symm {H : Type} {D1 D2 : DataW H} (h : AgreeM D1 D2) : AgreeM D2 D1 := fun k h1 h2 => by rw [fold_comm]; exact h k h2 h1
/-- .. at the keys that are no longer to come. -/
def AgreeL {H : Type} (D1 D2 : DataW H) (left : Lit → Bool) : Prop := ∀ k : List UInt8, has D1 (.string k) = true → left (.string k) = false → has D2 (.string k) = true → Lib.equalFold (valAt D2 k).data.toList (valAt D1 k).data.toList = true
theorem AgreeL.start {H : Type} (D1 D2 : DataW H) : AgreeL D1 D2 (has D1) := fun k h1 h2 => by rw [h1] at h2; cases h2
theorem AgreeL.step {H : Type} {D1 D2 : DataW H} {left : Lit → Bool} (h : AgreeL D1 D2 left) {x : List UInt8} (hx : has D2 (.string x) = true → Lib.equalFold (valAt D2 x).data.toList (valAt D1 x).data.toList = true) : AgreeL D1 D2 (fun z => left z && !z.sameKey (.string x)) := fun k h1 h2 h3 => by
  by_cases e : k = x
  · subst e; exact hx h3
  · refine h k h1 ?_ h3
    simpa [Lit.sameKey, e] using h2
theorem AgreeL.done {H : Type} {D1 D2 : DataW H} {left : Lit → Bool} (h : AgreeL D1 D2 left) (hl : ∀ kl, left kl = false) : AgreeM D1 D2 := fun k h1 h2 => h k h1 (hl _) h2

/-- What comes back of a comparison: whether the maps agree. -/
def Says {H : Type} (D1 D2 : DataW H) (b : Bool) : Prop := b = true ↔ AgreeM D1 D2

set_option maxHeartbeats 2000000 in
set_option maxRecDepth 100000 in
theorem paramsEqual_any {H : Type} (b1 b2 n1 n2 : Nat) (D1 D2 : DataW H) (w : World) (h1 : w.ownsMap Tryz.prog 9 (plainElem Tryz.prog 9) b1 n1 D1) (h2 : w.ownsMap Tryz.prog 9 (plainElem Tryz.prog 9) b2 n2 D2) (p1 : PlainM D1) (p2 : PlainM D2) :
    Calls Tryz.prog 185 #[.map (some b1), .map (some b2)] w fun e w' => ∃ b, e = .returned (.bool b) ∧ Says D1 D2 b ∧ Below w.heap.size w w' := by
  have H2 := Lib.hid h2
  have HP1 := Lib.hid p1
  have HP2 := Lib.hid p2
  have l1 := h1.lt
  have l2 := h2.lt
  clear h2 p1 p2
  go_enter Tryz.func185, Tryz.ntmps185
  go_wp2_with (at_range; refine wpList_range_own _ rfl _ 111 rfl 9 9 Tryz.keyedS Tryz.underlying111 _ b1 n1 _ rfl h1 ?_; intro w0 hrg0 hg0 hs0)
  go_frame
  have hm0 := H2.out.kept hg0 (by simp)
  go_loopw [5] (fun _ wr => ∃ (left : Lit → Bool) (cnt : Nat), wr.ranges Tryz.prog 9 (plainElem Tryz.prog 9) b1 w.heap.size n1 D1 left cnt ∧ wr.ownsMap Tryz.prog 9 (plainElem Tryz.prog 9) b2 n2 D2 ∧ AgreeL D1 D2 left ∧ Below w.heap.size w wr) (fun _ wr => wr.rangeLeft b1 w.heap.size)
  case atStart => exact ⟨_, _, hrg0, hm0, AgreeL.start _ _, (Below.refl _ _).grown hg0 (Nat.le_refl _) (fun j hj => by cases hj)⟩
  case round =>
    obtain ⟨left, cnt, hrg, hm, hA, hnx⟩ := hrel
    have HA := Lib.hid hA
    have HM := Lib.hid hm
    clear hA hm
    go_wp2_with (at_next; refine wpList_next_ranges _ rfl _ rfl 9 Tryz.keyedS (plainElem Tryz.prog 9) Go.Proofs.encStr Value.string (fun key kl hk => by obtain ⟨x, hx, _⟩ := Maps.keyOf_str Tryz.underlying9 hk; exact ⟨x, hx⟩) (fun v y hv => by obtain ⟨c, rfl, _⟩ := plainElem_string_inv Tryz.underlying9 hv; exact ⟨c, rfl⟩) b1 w.heap.size n1 _ _ _ rfl hrg ?_ ?_)
    · intro _ hl0
      obtain ⟨wo, rfl⟩ : ∃ wo : World, wo = wr := ⟨_, rfl⟩
      have hA1 : AgreeM D1 D2 := HA.out.done hl0
      have hm1 := hrg.owns
      have s0 := hnx.size
      have HA1 := Lib.hid hA1
      have HM1 := Lib.hid hm1
      have HX := Lib.hid hnx
      clear hA1 hm1 hnx hrg HA hrg0 hm0 hg0 hs0
      go_wp2_with (at_range; refine wpList_range_own _ rfl _ 111 rfl 9 9 Tryz.keyedS Tryz.underlying111 _ b2 n2 _ rfl HM.out ?_; intro w0 hrg0 hg0 hs0)
      go_frame
      have hm0 := HM1.out.kept hg0 (by simp)
      go_loopw [9] (fun _ wr => ∃ (left : Lit → Bool) (cnt : Nat), wr.ranges Tryz.prog 9 (plainElem Tryz.prog 9) b2 wo.heap.size n2 D2 left cnt ∧ wr.ownsMap Tryz.prog 9 (plainElem Tryz.prog 9) b1 n1 D1 ∧ Below w.heap.size w wr) (fun _ wr => wr.rangeLeft b2 wo.heap.size)
      case atStart => exact ⟨_, _, hrg0, hm0, HX.out.grown hg0 s0 (fun j hj => by cases hj)⟩
      case round =>
        obtain ⟨left, cnt, hrg, hm, hnx⟩ := hrel
        have HM := Lib.hid hm
        have HX2 := Lib.hid hnx
        have s2 := hnx.size
        clear hm hnx
        go_wp2_with (at_next; refine wpList_next_ranges _ rfl _ rfl 9 Tryz.keyedS (plainElem Tryz.prog 9) Go.Proofs.encStr Value.string (fun key kl hk => by obtain ⟨x, hx, _⟩ := Maps.keyOf_str Tryz.underlying9 hk; exact ⟨x, hx⟩) (fun v y hv => by obtain ⟨c, rfl, _⟩ := plainElem_string_inv Tryz.underlying9 hv; exact ⟨c, rfl⟩) b2 wo.heap.size n2 _ _ _ rfl hrg ?_ ?_)
        · intro _ hl0
          go_wp2
          go_ret
          exact ⟨true, rfl, ⟨fun _ => HA1.out, fun _ => rfl⟩, HX2.out⟩
        · intro x c kl yd yp w2 cnt2 hkey hlk hv hat hrg2 hlt hg2 hs2 hen
          obtain ⟨x', ex, rfl, hxl⟩ := Maps.keyOf_str Tryz.underlying9 hkey
          obtain rfl : x = x' := encStr_inj ex
          have hva : valAt D2 x = c := valAt_of (by rw [hat]; obtain ⟨c', e', hz, _⟩ := plainElem_string_inv Tryz.underlying9 hv; cases e'; cases hz; rfl)
          have hh1 : has D2 (.string x) = true := has_true_of_atKey hat
          have hpc : PlainT c := hva ▸ HP2.out x
          have hp1 := HP1.out x
          have hfold := HA1.out x
          clear hs2
          have hm2 := HM.out.kept hg2 (by intro e; injection e with e; omega)
          have HM2 := Lib.hid hm2
          have HRG := Lib.hid hrg2
          have HLT := Lib.hid (show w2.rangeLeft b2 wo.heap.size < wr.rangeLeft b2 wo.heap.size by rw [hrg2.left_eq, hrg.left_eq]; exact hlt)
          have HB := Lib.hid (HX2.out.grown hg2 s2 (fun j hj => by cases hj; exact s0))
          have HKEY := Lib.hid hkey
          have HPC := Lib.hid hpc
          have HP1x := Lib.hid hp1
          have HFO := Lib.hid hfold
          clear hm2 hrg hrg2 hg2 hkey hv hat hlk hlt hpc hp1 hfold
          cases hh2 : has D1 (.string x) with
          | false =>
            clear hva hh1
            go_wp2_with (at_lookup; refine wpList_lookup_own_ok_str _ rfl _ _ 111 rfl 9 9 Tryz.keyedS Tryz.underlying111 Tryz.underlying9 (Tryz.zeroS _) b1 n1 D1 rfl HM2.out _ _ rfl HKEY.out ?_; intro vs hvs hvl; clear hvs)
            go_roundw
            case rel => exact ⟨_, cnt2, HRG.out, HM2.out, HB.out⟩
            case measure => exact HLT.out
          | true =>
            have hfe := HFO.out hh2 hh1
            have hcl : ∀ vs, valAt D1 x = vs → ∀ w, Calls Tryz.prog 38 #[.string vs, .string c] w fun e w' => e = .returned (.bool true) ∧ Below w.heap.size w w' := fun vs h w => by
              have h1 := fold_any vs c w (h ▸ HP1x.out) HPC.out
              rw [show Lib.equalFold vs.data.toList c.data.toList = true by rw [fold_comm, ← h, ← hva]; exact hfe] at h1
              exact h1
            have HCL := Lib.hid hcl
            clear hfe hh1 hva hcl
            go_wp2_with (first
              | (at_lookup; refine wpList_lookup_own_ok_str _ rfl _ _ 111 rfl 9 9 Tryz.keyedS Tryz.underlying111 Tryz.underlying9 (Tryz.zeroS _) b1 n1 D1 rfl HM2.out _ _ rfl HKEY.out ?_; intro vs hvs hvl; have hv1 := Lib.hid (valAt_of hvs); clear hvs)
              | (go_at_call 38; refine (HCL.out _ hv1.out _).mono ?_; rintro e w3 ⟨rfl, hb3⟩))
            have hrg3 : w3.ranges Tryz.prog 9 (plainElem Tryz.prog 9) b2 wo.heap.size n2 D2 _ cnt2 := HRG.out.kept (grown_of_below hb3 none) (by simp) (by simp)
            have hlt3 : w3.rangeLeft b2 wo.heap.size < wr.rangeLeft b2 wo.heap.size := by rw [hrg3.left_eq, ← HRG.out.left_eq]; exact HLT.out
            go_roundw
            case rel => exact ⟨_, cnt2, hrg3, HM2.out.kept (grown_of_below hb3 none) (by simp), below_step HB.out HB.out.size hb3⟩
            case measure => exact hlt3
    · intro x c kl yd yp w2 cnt2 hkey hlk hv hat hrg2 hlt hg2 hs2 hen
      obtain ⟨x', ex, rfl, hxl⟩ := Maps.keyOf_str Tryz.underlying9 hkey
      obtain rfl : x = x' := encStr_inj ex
      have hva : valAt D1 x = c := valAt_of (by rw [hat]; obtain ⟨c', e', hz, _⟩ := plainElem_string_inv Tryz.underlying9 hv; cases e'; cases hz; rfl)
      have hh1 : has D1 (.string x) = true := has_true_of_atKey hat
      have hpc : PlainT c := hva ▸ HP1.out x
      have hp2 := HP2.out x
      have s2 := hnx.size
      clear hs2
      have hm2 := HM.out.kept hg2 (by intro e; injection e with e; omega)
      have HM2 := Lib.hid hm2
      have HRG := Lib.hid hrg2
      have HLT := Lib.hid (show w2.rangeLeft b1 w.heap.size < wr.rangeLeft b1 w.heap.size by rw [hrg2.left_eq, hrg.left_eq]; exact hlt)
      have HB := Lib.hid (hnx.grown hg2 s2 (fun j hj => by cases hj; exact Nat.le_refl _))
      have HKEY := Lib.hid hkey
      have HPC := Lib.hid hpc
      have HP2x := Lib.hid hp2
      clear hm2 hrg hrg2 hg2 hkey hv hat hlk hlt hpc hp2 hnx
      cases hh2 : has D2 (.string x) with
      | false =>
        have HN := Lib.hid (HA.out.step (x := x) (fun h => by rw [hh2] at h; cases h))
        clear hva hh1
        go_wp2_with (at_lookup; refine wpList_lookup_own_ok_str _ rfl _ _ 111 rfl 9 9 Tryz.keyedS Tryz.underlying111 Tryz.underlying9 (Tryz.zeroS _) b2 n2 D2 rfl HM2.out _ _ rfl HKEY.out ?_; intro vs hvs hvl; clear hvs)
        go_roundw
        case rel => exact ⟨_, cnt2, HRG.out, HM2.out, HN.out, HB.out⟩
        case measure => exact HLT.out
      | true =>
        have hcl : ∀ vs, valAt D2 x = vs → ∀ w, Calls Tryz.prog 38 #[.string vs, .string c] w fun e w' => e = .returned (.bool (Lib.equalFold (valAt D2 x).data.toList (valAt D1 x).data.toList)) ∧ Below w.heap.size w w' := fun vs h w => by
          have h1 := fold_any vs c w (h ▸ HP2x.out) HPC.out
          rw [h, hva]
          exact h1
        cases hef : Lib.equalFold (valAt D2 x).data.toList (valAt D1 x).data.toList with
        | false =>
          have hno : ¬ AgreeM D1 D2 := fun h => by have := h x hh1 hh2; rw [hef] at this; cases this
          rw [hef] at hcl
          have HCL := Lib.hid hcl
          have HNO := Lib.hid hno
          clear hva hh1 hcl hno hef
          go_wp2_with (first
            | (at_lookup; refine wpList_lookup_own_ok_str _ rfl _ _ 111 rfl 9 9 Tryz.keyedS Tryz.underlying111 Tryz.underlying9 (Tryz.zeroS _) b2 n2 D2 rfl HM2.out _ _ rfl HKEY.out ?_; intro vs hvs hvl; have hv1 := Lib.hid (valAt_of hvs); clear hvs)
            | (go_at_call 38; refine (HCL.out _ hv1.out _).mono ?_; rintro e w3 ⟨rfl, hb3⟩))
          go_ret
          exact ⟨false, rfl, ⟨fun h => Bool.noConfusion h, fun h => absurd h HNO.out⟩, below_step HB.out HB.out.size hb3⟩
        | true =>
          have HN := Lib.hid (HA.out.step (x := x) (fun _ => hef))
          rw [hef] at hcl
          have HCL := Lib.hid hcl
          clear hva hh1 hcl hef
          go_wp2_with (first
            | (at_lookup; refine wpList_lookup_own_ok_str _ rfl _ _ 111 rfl 9 9 Tryz.keyedS Tryz.underlying111 Tryz.underlying9 (Tryz.zeroS _) b2 n2 D2 rfl HM2.out _ _ rfl HKEY.out ?_; intro vs hvs hvl; have hv1 := Lib.hid (valAt_of hvs); clear hvs)
            | (go_at_call 38; refine (HCL.out _ hv1.out _).mono ?_; rintro e w3 ⟨rfl, hb3⟩))
          have hrg3 : w3.ranges Tryz.prog 9 (plainElem Tryz.prog 9) b1 w.heap.size n1 D1 _ cnt2 := HRG.out.kept (grown_of_below hb3 none) (by simp) (by simp)
          have hlt3 : w3.rangeLeft b1 w.heap.size < wr.rangeLeft b1 w.heap.size := by rw [hrg3.left_eq, ← HRG.out.left_eq]; exact HLT.out
          go_roundw
          case rel => exact ⟨_, cnt2, hrg3, HM2.out.kept (grown_of_below hb3 none) (by simp), HN.out, below_step HB.out HB.out.size hb3⟩
          case measure => exact hlt3

set_option maxHeartbeats 400000 in
theorem rateEqG_any (mime : ByteArray) (a b : Int) (w : World) (ha : 1 ≤ a) (hb : 1 ≤ b) :
    Calls Tryz.prog 183 #[.string mime, .int .u32 a, .int .u32 b] w fun e w' => e = .returned (.bool (a == b)) ∧ Below w.heap.size w w' := by
  have a1 : (a == 0) = false := by simp; omega
  have b1 : (b == 0) = false := by simp; omega
  have a2 : ¬ a = 0 := by omega
  have b2 : ¬ b = 0 := by omega
  go_enter Tryz.func183, Tryz.ntmps183
  go_wp2
  go_ret
  exact ⟨rfl, Below.refl _ _⟩

set_option maxHeartbeats 400000 in
theorem chanEqG_any (mime : ByteArray) (a b : Int) (w : World) (ha : 1 ≤ a) (hb : 1 ≤ b) :
    Calls Tryz.prog 184 #[.string mime, .int .u16 a, .int .u16 b] w fun e w' => e = .returned (.bool (a == b)) ∧ Below w.heap.size w w' := by
  have a1 : (a == 0) = false := by simp; omega
  have b1 : (b == 0) = false := by simp; omega
  have a2 : ¬ a = 0 := by omega
  have b2 : ¬ b = 0 := by omega
  go_enter Tryz.func184, Tryz.ntmps184
  go_wp2
  go_ret
  exact ⟨rfl, Below.refl _ _⟩

set_option maxHeartbeats 400000 in
theorem mimeType_any (g : Nat) (mime : ByteArray) (w : World) (c0 : w.cell? ⟨g, 0, none⟩ = some (.string mime)) :
    Calls Tryz.prog 181 #[.pointer (some ⟨g, 0, none⟩)] w fun e w' => e = .returned (.string mime) ∧ Below w.heap.size w w' := by
  go_enter Tryz.func181, Tryz.ntmps181
  go_wp2
  go_ret
  exact ⟨rfl, Below.refl _ _⟩

/-- Whether the maps agree, as an answer. -/
noncomputable def agreeB {H : Type} (D1 D2 : DataW H) : Bool := @decide (AgreeM D1 D2) (Classical.propDecidable _)
theorem agreeB_iff {H : Type} (D1 D2 : DataW H) : agreeB D1 D2 = true ↔ AgreeM D1 D2 := by unfold agreeB; exact @decide_eq_true_iff _ (Classical.propDecidable _)
theorem says_agreeB {H : Type} {D1 D2 : DataW H} {b : Bool} (h : Says D1 D2 b) : b = agreeB D1 D2 := by
  rw [Bool.eq_iff_iff, agreeB_iff]; exact h
theorem paramsEqual_is {H : Type} (b1 b2 n1 n2 : Nat) (D1 D2 : DataW H) (w : World) (h1 : w.ownsMap Tryz.prog 9 (plainElem Tryz.prog 9) b1 n1 D1) (h2 : w.ownsMap Tryz.prog 9 (plainElem Tryz.prog 9) b2 n2 D2) (p1 : PlainM D1) (p2 : PlainM D2) :
    Calls Tryz.prog 185 #[.map (some b1), .map (some b2)] w fun e w' => e = .returned (.bool (agreeB D1 D2)) ∧ Below w.heap.size w w' :=
  (paramsEqual_any b1 b2 n1 n2 D1 D2 w h1 h2 p1 p2).mono fun _ _ ⟨_, he, hs, hb⟩ => ⟨says_agreeB hs ▸ he, hb⟩

/-- Whether formats go together: their kinds in whatever letters, their rates, their channels, their parameters. -/
noncomputable def togetherB {H : Type} (m1 m2 : ByteArray) (r1 r2 c1 c2 : Int) (D1 D2 : DataW H) : Bool := Lib.equalFold m1.data.toList m2.data.toList && (r1 == r2 && (c1 == c2 && agreeB D1 D2))

set_option maxHeartbeats 4000000 in
set_option maxRecDepth 100000 in
theorem genMatch_any {H : Type} {B1 B2 : Nat} (g1 g2 : Nat) (m1 m2 : ByteArray) (r1 r2 c1 c2 : Int) (n1 n2 : Nat) (D1 D2 : DataW H) (w : World) (k1 : PlainT m1) (k2 : PlainT m2) (hr1 : 1 ≤ r1) (hr2 : 1 ≤ r2) (hc1 : 1 ≤ c1) (hc2 : 1 ≤ c2)
    (h1 : GenAt B1 w g1 m1 r1 c1 n1 D1) (h2 : GenAt B2 w g2 m2 r2 c2 n2 D2) (p1 : PlainM D1) (p2 : PlainM D2) :
    Calls Tryz.prog 180 #[.pointer (some ⟨g1, 0, none⟩), .iface 123 (.pointer (some ⟨g2, 0, none⟩))] w fun e w' => e = .returned (.bool (togetherB m1 m2 r1 r2 c1 c2 D1 D2)) ∧ Below w.heap.size w w' := by
  have hta : ∀ (a : Addr) (w : World), (Instr.typeAssert (.iface 123 (.pointer (some a))) 57 123 true).run Tryz.prog w = .ok (.tuple #[.pointer (some a), .bool true]) w := fun _ _ => by kernel_rfl
  have hfo := fun w => fold_any m1 m2 w k1 k2
  have hra := fun w => rateEqG_any m1 r1 r2 w hr1 hr2
  have hch := fun w => chanEqG_any m1 c1 c2 w hc1 hc2
  obtain ⟨b1, _, d1, o1⟩ := h1.mp
  obtain ⟨b2, _, d2, o2⟩ := h2.mp
  have HPE : Hid (∀ x : Later w, Calls Tryz.prog 185 #[.map (some b1), .map (some b2)] x.W fun e w' => e = .returned (.bool (agreeB D1 D2)) ∧ Below x.W.heap.size x.W w') := Lib.hid fun x =>
    paramsEqual_is b1 b2 n1 n2 D1 D2 x.W (o1.kept (grown_of_below x.h none) (by simp)) (o2.kept (grown_of_below x.h none) (by simp)) p1 p2
  have a0 : ∀ x : Later w, x.W.cell? ⟨g1, 0, none⟩ = some (.string m1) := fun x => x.cell h1.c0
  have a1 : ∀ x : Later w, x.W.cell? ⟨g1, 1, none⟩ = some (.int .u32 r1) := fun x => x.cell h1.c1
  have a2 : ∀ x : Later w, x.W.cell? ⟨g1, 2, none⟩ = some (.int .u16 c1) := fun x => x.cell h1.c2
  have a3 : ∀ x : Later w, x.W.cell? ⟨g1, 3, none⟩ = some (.map (some b1)) := fun x => x.cell d1
  have e1 : ∀ x : Later w, x.W.cell? ⟨g2, 1, none⟩ = some (.int .u32 r2) := fun x => x.cell h2.c1
  have e2 : ∀ x : Later w, x.W.cell? ⟨g2, 2, none⟩ = some (.int .u16 c2) := fun x => x.cell h2.c2
  have e3 : ∀ x : Later w, x.W.cell? ⟨g2, 3, none⟩ = some (.map (some b2)) := fun x => x.cell d2
  clear o1 o2 k1 k2 p1 p2 h1 d1 d2
  cases ef : Lib.equalFold m1.data.toList m2.data.toList with
  | false =>
    rw [ef] at hfo
    have FIN := Lib.hid (show togetherB m1 m2 r1 r2 c1 c2 D1 D2 = false by unfold togetherB; rw [ef]; rfl)
    have HFO := Lib.hid hfo
    have HRA := Lib.hid hra
    have HCH := Lib.hid hch
    clear ef hfo hra hch
    go_enter Tryz.func180, Tryz.ntmps180
    go_wp2_with fail
    refine wp_region_later (by kernel_rfl) (by kernel_rfl) ?_
    repeat (go_big_quiet_step (first | (go_at_call 181; exact Calls.later (mimeType_any g2 m2 _ (Later.cell _ h2.c0))) | (go_at_call 38; exact Calls.later (HFO.out _)) | (go_at_call 183; exact Calls.later (HRA.out _)) | (go_at_call 184; exact Calls.later (HCH.out _)) | (go_at_call 185; exact Calls.later (HPE.out _))))
    refine wpQuiet_nil ?_
    rintro _ ⟨x, rfl⟩
    go_wp2
    go_ret
    exact ⟨congrArg (fun b => Ending.returned (.bool b)) FIN.out.symm, x.h⟩
  | true =>
    rw [ef] at hfo
    cases er : (r1 == r2) with
    | false =>
      rw [er] at hra
      have FIN := Lib.hid (show togetherB m1 m2 r1 r2 c1 c2 D1 D2 = false by unfold togetherB; rw [ef, er]; rfl)
      have HFO := Lib.hid hfo
      have HRA := Lib.hid hra
      have HCH := Lib.hid hch
      clear ef er hfo hra hch
      go_enter Tryz.func180, Tryz.ntmps180
      go_wp2_with fail
      refine wp_region_later (by kernel_rfl) (by kernel_rfl) ?_
      repeat (go_big_quiet_step (first | (go_at_call 181; exact Calls.later (mimeType_any g2 m2 _ (Later.cell _ h2.c0))) | (go_at_call 38; exact Calls.later (HFO.out _)) | (go_at_call 183; exact Calls.later (HRA.out _)) | (go_at_call 184; exact Calls.later (HCH.out _)) | (go_at_call 185; exact Calls.later (HPE.out _))))
      refine wpQuiet_nil ?_
      rintro _ ⟨x, rfl⟩
      go_wp2
      go_ret
      exact ⟨congrArg (fun b => Ending.returned (.bool b)) FIN.out.symm, x.h⟩
    | true =>
      rw [er] at hra
      cases ec : (c1 == c2) with
      | false =>
        rw [ec] at hch
        have FIN := Lib.hid (show togetherB m1 m2 r1 r2 c1 c2 D1 D2 = false by unfold togetherB; rw [ef, er, ec]; rfl)
        have HFO := Lib.hid hfo
        have HRA := Lib.hid hra
        have HCH := Lib.hid hch
        clear ef er ec hfo hra hch
        go_enter Tryz.func180, Tryz.ntmps180
        go_wp2_with fail
        refine wp_region_later (by kernel_rfl) (by kernel_rfl) ?_
        repeat (go_big_quiet_step (first | (go_at_call 181; exact Calls.later (mimeType_any g2 m2 _ (Later.cell _ h2.c0))) | (go_at_call 38; exact Calls.later (HFO.out _)) | (go_at_call 183; exact Calls.later (HRA.out _)) | (go_at_call 184; exact Calls.later (HCH.out _)) | (go_at_call 185; exact Calls.later (HPE.out _))))
        refine wpQuiet_nil ?_
        rintro _ ⟨x, rfl⟩
        go_wp2
        go_ret
        exact ⟨congrArg (fun b => Ending.returned (.bool b)) FIN.out.symm, x.h⟩
      | true =>
        rw [ec] at hch
        have FIN := Lib.hid (show togetherB m1 m2 r1 r2 c1 c2 D1 D2 = agreeB D1 D2 by unfold togetherB; rw [ef, er, ec]; rfl)
        have HFO := Lib.hid hfo
        have HRA := Lib.hid hra
        have HCH := Lib.hid hch
        clear ef er ec hfo hra hch
        go_enter Tryz.func180, Tryz.ntmps180
        go_wp2_with fail
        refine wp_region_later (by kernel_rfl) (by kernel_rfl) ?_
        repeat (go_big_quiet_step (first | (go_at_call 181; exact Calls.later (mimeType_any g2 m2 _ (Later.cell _ h2.c0))) | (go_at_call 38; exact Calls.later (HFO.out _)) | (go_at_call 183; exact Calls.later (HRA.out _)) | (go_at_call 184; exact Calls.later (HCH.out _)) | (go_at_call 185; exact Calls.later (HPE.out _))))
        refine wpQuiet_nil ?_
        rintro _ ⟨x, rfl⟩
        go_wp2
        go_ret
        exact ⟨congrArg (fun b => Ending.returned (.bool b)) FIN.out.symm, x.h⟩
end Go.Proofs.YtlbmjfjmbgbpeaaGreatDoor
