/- The flags of a description and the greatest message of a medium: the package's readers and the thin package's. -/
import Derived.Test.YtlbmjfjmbgbpeaaDoorMid
import Derived.Test.YtlbmjfjmbgbpeaaDoorDescr
import Derived.Test.YtlbmjfjmbgbpeaaDoorDecimal
import Derived.Test.YtlbmjfjmbgbpeaaDoorSpaces
namespace Go.Proofs.YtlbmjfjmbgbpeaaDoor
open Go.RowKit

/-- A key without white space ahead or behind, of ASCII bytes. -/
def Tight (k : ByteArray) : Prop := Lib.trimSpace k.data.toList = k.data.toList ∧ (∀ (j : Nat) b, k.data.toList[j]? = some b → b.toNat < 128) ∧ k.size ≤ 9223372036854775807
theorem trim_tight (k : ByteArray) (w : World) (hk : Tight k) (hs : Spaces w) :
    Calls Tryd.prog 76 #[.string k] w fun e w' => e = .returned (.string k) ∧ Below w.heap.size w w' := by
  refine (Tryd.strings_TrimSpace k w hk.2.2 hk.2.1 hs).mono ?_
  rintro e w' ⟨rfl, rfl⟩
  refine ⟨?_, below_bytes _ _ _⟩
  rw [hk.1, Lib.mk_data]

/-- Is there an attribute of this key? -/
def hasKey (key : List UInt8) (l : List KV) : Bool := l.any fun p => p.1.toList == key
theorem hasKey_hit {key : List UInt8} {l : List KV} {k : Nat} (hk : k < l.length) (hp : (l[k].1.toList == key) = true) : hasKey key (l.drop k) = true := by
  rw [List.drop_eq_getElem_cons hk, hasKey, List.any_cons, hp]; rfl
theorem hasKey_miss {key : List UInt8} {l : List KV} {k : Nat} (hk : k < l.length) (hp : (l[k].1.toList == key) = false) : hasKey key (l.drop k) = hasKey key (l.drop (k + 1)) := by
  rw [List.drop_eq_getElem_cons hk, hasKey, List.any_cons, hp]; rfl

set_option maxHeartbeats 1000000 in
theorem iceSet_any {D : Nat → Prop} (p : Nat) (l : List KV) (ms : List MediaD) (w : World) (hl : l.length * 32 ≤ 140737488355328) (ht : ∀ p ∈ l, Tight p.1) (hsp : Spaces w) (h : SD D w p l ms) :
    Calls Tryd.prog 63 #[.pointer (some ⟨p, 0, none⟩)] w fun e w' => e = .returned (.bool (hasKey [105, 99, 101, 45, 108, 105, 116, 101] l)) ∧ Below w.heap.size w w' := by
  obtain ⟨_, ⟨A, c, h9, hkv⟩, _⟩ := h
  have H := Lib.hid hkv
  have HT := Lib.hid ht
  have HSP := Lib.hid hsp
  clear hkv ht hsp
  go_enter Tryd.func63, Tryd.ntmps63
  go_wp2
  go_loopw [10] (fun i wr => ∃ k : Nat, k ≤ l.length ∧ i = .int .i64 k ∧ hasKey [105, 99, 101, 45, 108, 105, 116, 101] (l.drop k) = hasKey [105, 99, 101, 45, 108, 105, 116, 101] l ∧ Below w.heap.size w wr) (fun i _ => l.length - (intOf i).toNat)
  case atStart => exact ⟨0, Nat.zero_le _, rfl, rfl, Below.refl _ _⟩
  case round =>
    obtain ⟨k, hk, rfl, hah, hb⟩ := hrel
    have HAH := Lib.hid hah
    clear hah
    have hsz := hb.size
    by_cases hlt : k < l.length
    · obtain ⟨b, o, rfl, _, c0, c1⟩ := H.out k l[k] (by simp [hlt])
      have d0 := (hb.cell (p := ⟨b, o + k * 2, none⟩) (World.block_lt_of_cell? _ _ c0)).trans c0
      have d1 := (hb.cell (p := ⟨b, o + k * 2 + 1, none⟩) (World.block_lt_of_cell? _ _ c1)).trans c1
      clear c0 c1
      have hc : ∀ o, Calls Tryd.prog 76 #[.string l[k].1] (wr.alloc o) fun e w' => e = .returned (.string l[k].1) ∧ Below (wr.alloc o).heap.size (wr.alloc o) w' := fun o => trim_tight _ _ (HT.out _ (List.getElem_mem _)) (HSP.out.below (hb.alloc hsz _))
      have HC := Lib.hid hc
      clear hc
      cases ht : (l[k].1.toList == [105, 99, 101, 45, 108, 105, 116, 101]) with
      | true =>
        have e2 : hasKey [105, 99, 101, 45, 108, 105, 116, 101] l = true := by rw [← HAH.out]; exact hasKey_hit hlt ht
        have E2 := Lib.hid e2
        clear e2
        go_wp2_with (go_at_call 76; refine (HC.out _).mono ?_; rintro e w1 ⟨rfl, hb1⟩)
        go_ret
        exact ⟨congrArg (fun b => Ending.returned (.bool b)) E2.out.symm, (hb.alloc hsz _).trans (hb1.mono (by simp; omega))⟩
      | false =>
        have e2 : hasKey [105, 99, 101, 45, 108, 105, 116, 101] (l.drop (k + 1)) = hasKey [105, 99, 101, 45, 108, 105, 116, 101] l := by rw [← HAH.out]; exact (hasKey_miss hlt ht).symm
        have E2 := Lib.hid e2
        clear e2
        go_wp2_with (go_at_call 76; refine (HC.out _).mono ?_; rintro e w1 ⟨rfl, hb1⟩)
        go_roundw
        case rel => exact ⟨k + 1, by omega, by go_num, E2.out, (hb.alloc hsz _).trans (hb1.mono (by simp; omega))⟩
        case measure => simp [intOf]; omega
    · obtain rfl : k = l.length := by omega
      have e2 : hasKey [105, 99, 101, 45, 108, 105, 116, 101] l = false := by rw [← HAH.out, List.drop_length]; rfl
      have E2 := Lib.hid e2
      clear e2
      go_wp2
      go_ret
      exact ⟨congrArg (fun b => Ending.returned (.bool b)) E2.out.symm, hb⟩

set_option maxHeartbeats 1000000 in
theorem mixSet_any {D : Nat → Prop} (p : Nat) (l : List KV) (ms : List MediaD) (w : World) (hl : l.length * 32 ≤ 140737488355328) (ht : ∀ p ∈ l, Tight p.1) (hsp : Spaces w) (h : SD D w p l ms) :
    Calls Tryd.prog 65 #[.pointer (some ⟨p, 0, none⟩)] w fun e w' => e = .returned (.bool (hasKey [101, 120, 116, 109, 97, 112, 45, 97, 108, 108, 111, 119, 45, 109, 105, 120, 101, 100] l)) ∧ Below w.heap.size w w' := by
  obtain ⟨_, ⟨A, c, h9, hkv⟩, _⟩ := h
  have H := Lib.hid hkv
  have HT := Lib.hid ht
  have HSP := Lib.hid hsp
  clear hkv ht hsp
  go_enter Tryd.func65, Tryd.ntmps65
  go_wp2
  go_loopw [10] (fun i wr => ∃ k : Nat, k ≤ l.length ∧ i = .int .i64 k ∧ hasKey [101, 120, 116, 109, 97, 112, 45, 97, 108, 108, 111, 119, 45, 109, 105, 120, 101, 100] (l.drop k) = hasKey [101, 120, 116, 109, 97, 112, 45, 97, 108, 108, 111, 119, 45, 109, 105, 120, 101, 100] l ∧ Below w.heap.size w wr) (fun i _ => l.length - (intOf i).toNat)
  case atStart => exact ⟨0, Nat.zero_le _, rfl, rfl, Below.refl _ _⟩
  case round =>
    obtain ⟨k, hk, rfl, hah, hb⟩ := hrel
    have HAH := Lib.hid hah
    clear hah
    have hsz := hb.size
    by_cases hlt : k < l.length
    · obtain ⟨b, o, rfl, _, c0, c1⟩ := H.out k l[k] (by simp [hlt])
      have d0 := (hb.cell (p := ⟨b, o + k * 2, none⟩) (World.block_lt_of_cell? _ _ c0)).trans c0
      have d1 := (hb.cell (p := ⟨b, o + k * 2 + 1, none⟩) (World.block_lt_of_cell? _ _ c1)).trans c1
      clear c0 c1
      have hc : ∀ o, Calls Tryd.prog 76 #[.string l[k].1] (wr.alloc o) fun e w' => e = .returned (.string l[k].1) ∧ Below (wr.alloc o).heap.size (wr.alloc o) w' := fun o => trim_tight _ _ (HT.out _ (List.getElem_mem _)) (HSP.out.below (hb.alloc hsz _))
      have HC := Lib.hid hc
      clear hc
      cases ht : (l[k].1.toList == [101, 120, 116, 109, 97, 112, 45, 97, 108, 108, 111, 119, 45, 109, 105, 120, 101, 100]) with
      | true =>
        have e2 : hasKey [101, 120, 116, 109, 97, 112, 45, 97, 108, 108, 111, 119, 45, 109, 105, 120, 101, 100] l = true := by rw [← HAH.out]; exact hasKey_hit hlt ht
        have E2 := Lib.hid e2
        clear e2
        go_wp2_with (go_at_call 76; refine (HC.out _).mono ?_; rintro e w1 ⟨rfl, hb1⟩)
        go_ret
        exact ⟨congrArg (fun b => Ending.returned (.bool b)) E2.out.symm, (hb.alloc hsz _).trans (hb1.mono (by simp; omega))⟩
      | false =>
        have e2 : hasKey [101, 120, 116, 109, 97, 112, 45, 97, 108, 108, 111, 119, 45, 109, 105, 120, 101, 100] (l.drop (k + 1)) = hasKey [101, 120, 116, 109, 97, 112, 45, 97, 108, 108, 111, 119, 45, 109, 105, 120, 101, 100] l := by rw [← HAH.out]; exact (hasKey_miss hlt ht).symm
        have E2 := Lib.hid e2
        clear e2
        go_wp2_with (go_at_call 76; refine (HC.out _).mono ?_; rintro e w1 ⟨rfl, hb1⟩)
        go_roundw
        case rel => exact ⟨k + 1, by omega, by go_num, E2.out, (hb.alloc hsz _).trans (hb1.mono (by simp; omega))⟩
        case measure => simp [intOf]; omega
    · obtain rfl : k = l.length := by omega
      have e2 : hasKey [101, 120, 116, 109, 97, 112, 45, 97, 108, 108, 111, 119, 45, 109, 105, 120, 101, 100] l = false := by rw [← HAH.out, List.drop_length]; rfl
      have E2 := Lib.hid e2
      clear e2
      go_wp2
      go_ret
      exact ⟨congrArg (fun b => Ending.returned (.bool b)) E2.out.symm, hb⟩

/-- The function answers this, and all that it leaves is new. -/
def AnsDone (W : World) (r0 : Bool) (r : Bool) (w' : World) : Prop := r = r0 ∧ Below W.heap.size W w'

set_option maxHeartbeats 400000 in
theorem zzIceLite_any {D : Nat → Prop} (p : Nat) (l : List KV) (ms : List MediaD) (w : World) (hl : l.length * 32 ≤ 140737488355328) (ht : ∀ p ∈ l, Tight p.1) (hsp : Spaces w) (h : SD D w p l ms) :
    Calls Tryd.prog 37 #[.pointer (some ⟨p, 0, none⟩)] w fun e w' => e = .returned (.bool (hasKey [105, 99, 101, 45, 108, 105, 116, 101] l)) ∧ Below w.heap.size w w' := by
  have H := Lib.hid (iceSet_any p l ms w hl ht hsp h)
  clear h ht
  go_enter Tryd.func37, Tryd.ntmps37
  go_wp2_with (go_at_call 63; refine H.out.mono ?_; rintro e w1 ⟨rfl, hb⟩)
  go_ret
  exact ⟨rfl, hb⟩

set_option maxHeartbeats 1000000 in
theorem iceSet1_any {E : Nat → Prop} (db : Nat) (bA nA : Option Addr) (bc nc : Nat) (l : List KV) (ms : List MediaD) (w : World)
    (hl : l.length * 32 ≤ 140737488355328) (hms : ms.length * 8 ≤ 140737488355328) (hm : ∀ m ∈ ms, m.formats.length * 16 ≤ 140737488355328 ∧ m.attrs.length * 32 ≤ 140737488355328)
    (ht : ∀ p ∈ l, Tight p.1) (hsp : Spaces w) (hb : KVs E w bA l) (hmm : Meds w nA ms)
    (e0 : w.cell? ⟨db, 0, none⟩ = some (.slice bA l.length bc)) (e1 : w.cell? ⟨db, 1, none⟩ = some (.slice nA ms.length nc)) :
    Calls Tryd.prog 36 #[.pointer (some ⟨db, 0, none⟩)] w fun e w' => e = .returned (.bool (hasKey [105, 99, 101, 45, 108, 105, 116, 101] l)) ∧ Below w.heap.size w w' := by
  have HB := Lib.hid hb
  have HM := Lib.hid hmm
  have HS := Lib.hid hm
  have HT := Lib.hid ht
  have HSP := Lib.hid hsp
  clear hb hmm hm ht hsp
  go_enter Tryd.func36, Tryd.ntmps36
  go_wp2_with (first
    | (go_at_call 38; refine (description_any (D := E) bA nA bc nc l ms _ hl hms HS.out HB.out HM.out).mono ?_; rintro e w1 ⟨q, rfl, hsd, hb1⟩)
    | (go_at_call 37; refine (zzIceLite_any q l ms _ hl HT.out (HSP.out.below hb1) hsd).mono ?_; rintro e w2 ⟨rfl, hb2⟩))
  go_ret
  exact ⟨rfl, below_step hb1 hb1.size hb2⟩

theorem Tryd.enterIceLite1 (cap : Array Value) (w : World) : Sem.run Tryd.prog (callFunc 36 cap) w = .ok (.enter 36 cap) w := by kernel_rfl

set_option maxHeartbeats 1000000 in
theorem iceSetFn_any {E : Nat → Prop} (bA nA : Option Addr) (bc nc : Nat) (l : List KV) (ms : List MediaD) (w : World)
    (hl : l.length * 32 ≤ 140737488355328) (hms : ms.length * 8 ≤ 140737488355328) (hm : ∀ m ∈ ms, m.formats.length * 16 ≤ 140737488355328 ∧ m.attrs.length * 32 ≤ 140737488355328)
    (ht : ∀ p ∈ l, Tight p.1) (hsp : Spaces w) (hb : KVs E w bA l) (hmm : Meds w nA ms) :
    Calls Tryd.prog 12 #[.agg #[.slice bA l.length bc, .slice nA ms.length nc]] w fun e w' => e = .returned (.bool (hasKey [105, 99, 101, 45, 108, 105, 116, 101] l)) ∧ Below w.heap.size w w' := by
  have hmf : ∀ (fn : Fn) (first cap : Array Value) (w : World), (Instr.makeFunc fn first cap).run Tryd.prog w = .ok (.func fn first cap) w := fun _ _ _ _ => rfl
  have hg : Calls Tryd.prog 36 #[.pointer (some ⟨w.heap.size, 0, none⟩)] ((w.alloc (.cells #[.slice bA l.length bc, .slice nA ms.length nc] 30)).alloc (.cells #[.bool false] 4)) fun e w' => ∃ b, e = .returned (.bool b) ∧
      AnsDone ((w.alloc (.cells #[.slice bA l.length bc, .slice nA ms.length nc] 30)).alloc (.cells #[.bool false] 4)) (hasKey [105, 99, 101, 45, 108, 105, 116, 101] l) b w' ∧ w'.cell? ⟨(w.alloc (.cells #[.slice bA l.length bc, .slice nA ms.length nc] 30)).heap.size, 0, none⟩ = some (.bool false) ∧ w'.frozen? ⟨(w.alloc (.cells #[.slice bA l.length bc, .slice nA ms.length nc] 30)).heap.size, 0, none⟩ = false := by
    have k3 : Kp w ((w.alloc (.cells #[.slice bA l.length bc, .slice nA ms.length nc] 30)).alloc (.cells #[.bool false] 4)) := (Kp.alloc _ _).trans (Kp.alloc _ _)
    have b3 : Below w.heap.size w ((w.alloc (.cells #[.slice bA l.length bc, .slice nA ms.length nc] 30)).alloc (.cells #[.bool false] 4)) := ((Below.refl _ _).alloc (Nat.le_refl _) _).alloc (by simp) _
    refine (iceSet1_any w.heap.size bA nA bc nc l ms _ hl hms hm ht (hsp.below b3) (hb.keep k3) (hmm.keep k3) (by simp [go_sem]) (by simp [go_sem])).mono ?_
    rintro e w' ⟨rfl, hb⟩
    refine ⟨_, rfl, ⟨rfl, hb⟩, ?_, ?_⟩
    · rw [hb.cell (by simp)]
      simp [go_sem]
    · rw [hb.frozen (by simp)]
      simp [go_sem]
  have HG := Lib.hid hg
  clear hg hb hmm hm ht hsp
  go_enter Tryd.func12, Tryd.ntmps12
  go_wp2_with (go_at_call 35; refine (try_any _ _ _ _ (Tryd.enterIceLite1 _) HG).mono ?_; rintro e w' ⟨b, w1, rfl, ⟨rfl, hb⟩, rfl⟩)
  have hb0 : Below w.heap.size w w1 := ((((Below.refl w.heap.size w).alloc (Nat.le_refl _) _).alloc (by simp) _).trans (hb.mono (by simp; omega)))
  go_ret
  exact ⟨rfl, hb0.setCell (by simp) _⟩

set_option maxHeartbeats 400000 in
theorem zzAllowMixed_any {D : Nat → Prop} (p : Nat) (l : List KV) (ms : List MediaD) (w : World) (hl : l.length * 32 ≤ 140737488355328) (ht : ∀ p ∈ l, Tight p.1) (hsp : Spaces w) (h : SD D w p l ms) :
    Calls Tryd.prog 40 #[.pointer (some ⟨p, 0, none⟩)] w fun e w' => e = .returned (.bool (hasKey [101, 120, 116, 109, 97, 112, 45, 97, 108, 108, 111, 119, 45, 109, 105, 120, 101, 100] l)) ∧ Below w.heap.size w w' := by
  have H := Lib.hid (mixSet_any p l ms w hl ht hsp h)
  clear h ht
  go_enter Tryd.func40, Tryd.ntmps40
  go_wp2_with (go_at_call 65; refine H.out.mono ?_; rintro e w1 ⟨rfl, hb⟩)
  go_ret
  exact ⟨rfl, hb⟩

set_option maxHeartbeats 1000000 in
theorem mixSet1_any {E : Nat → Prop} (db : Nat) (bA nA : Option Addr) (bc nc : Nat) (l : List KV) (ms : List MediaD) (w : World)
    (hl : l.length * 32 ≤ 140737488355328) (hms : ms.length * 8 ≤ 140737488355328) (hm : ∀ m ∈ ms, m.formats.length * 16 ≤ 140737488355328 ∧ m.attrs.length * 32 ≤ 140737488355328)
    (ht : ∀ p ∈ l, Tight p.1) (hsp : Spaces w) (hb : KVs E w bA l) (hmm : Meds w nA ms)
    (e0 : w.cell? ⟨db, 0, none⟩ = some (.slice bA l.length bc)) (e1 : w.cell? ⟨db, 1, none⟩ = some (.slice nA ms.length nc)) :
    Calls Tryd.prog 39 #[.pointer (some ⟨db, 0, none⟩)] w fun e w' => e = .returned (.bool (hasKey [101, 120, 116, 109, 97, 112, 45, 97, 108, 108, 111, 119, 45, 109, 105, 120, 101, 100] l)) ∧ Below w.heap.size w w' := by
  have HB := Lib.hid hb
  have HM := Lib.hid hmm
  have HS := Lib.hid hm
  have HT := Lib.hid ht
  have HSP := Lib.hid hsp
  clear hb hmm hm ht hsp
  go_enter Tryd.func39, Tryd.ntmps39
  go_wp2_with (first
    | (go_at_call 38; refine (description_any (D := E) bA nA bc nc l ms _ hl hms HS.out HB.out HM.out).mono ?_; rintro e w1 ⟨q, rfl, hsd, hb1⟩)
    | (go_at_call 40; refine (zzAllowMixed_any q l ms _ hl HT.out (HSP.out.below hb1) hsd).mono ?_; rintro e w2 ⟨rfl, hb2⟩))
  go_ret
  exact ⟨rfl, below_step hb1 hb1.size hb2⟩

theorem Tryd.enterAllowMixed1 (cap : Array Value) (w : World) : Sem.run Tryd.prog (callFunc 39 cap) w = .ok (.enter 39 cap) w := by kernel_rfl

set_option maxHeartbeats 1000000 in
theorem mixSetFn_any {E : Nat → Prop} (bA nA : Option Addr) (bc nc : Nat) (l : List KV) (ms : List MediaD) (w : World)
    (hl : l.length * 32 ≤ 140737488355328) (hms : ms.length * 8 ≤ 140737488355328) (hm : ∀ m ∈ ms, m.formats.length * 16 ≤ 140737488355328 ∧ m.attrs.length * 32 ≤ 140737488355328)
    (ht : ∀ p ∈ l, Tight p.1) (hsp : Spaces w) (hb : KVs E w bA l) (hmm : Meds w nA ms) :
    Calls Tryd.prog 13 #[.agg #[.slice bA l.length bc, .slice nA ms.length nc]] w fun e w' => e = .returned (.bool (hasKey [101, 120, 116, 109, 97, 112, 45, 97, 108, 108, 111, 119, 45, 109, 105, 120, 101, 100] l)) ∧ Below w.heap.size w w' := by
  have hmf : ∀ (fn : Fn) (first cap : Array Value) (w : World), (Instr.makeFunc fn first cap).run Tryd.prog w = .ok (.func fn first cap) w := fun _ _ _ _ => rfl
  have hg : Calls Tryd.prog 39 #[.pointer (some ⟨w.heap.size, 0, none⟩)] ((w.alloc (.cells #[.slice bA l.length bc, .slice nA ms.length nc] 30)).alloc (.cells #[.bool false] 4)) fun e w' => ∃ b, e = .returned (.bool b) ∧
      AnsDone ((w.alloc (.cells #[.slice bA l.length bc, .slice nA ms.length nc] 30)).alloc (.cells #[.bool false] 4)) (hasKey [101, 120, 116, 109, 97, 112, 45, 97, 108, 108, 111, 119, 45, 109, 105, 120, 101, 100] l) b w' ∧ w'.cell? ⟨(w.alloc (.cells #[.slice bA l.length bc, .slice nA ms.length nc] 30)).heap.size, 0, none⟩ = some (.bool false) ∧ w'.frozen? ⟨(w.alloc (.cells #[.slice bA l.length bc, .slice nA ms.length nc] 30)).heap.size, 0, none⟩ = false := by
    have k3 : Kp w ((w.alloc (.cells #[.slice bA l.length bc, .slice nA ms.length nc] 30)).alloc (.cells #[.bool false] 4)) := (Kp.alloc _ _).trans (Kp.alloc _ _)
    have b3 : Below w.heap.size w ((w.alloc (.cells #[.slice bA l.length bc, .slice nA ms.length nc] 30)).alloc (.cells #[.bool false] 4)) := ((Below.refl _ _).alloc (Nat.le_refl _) _).alloc (by simp) _
    refine (mixSet1_any w.heap.size bA nA bc nc l ms _ hl hms hm ht (hsp.below b3) (hb.keep k3) (hmm.keep k3) (by simp [go_sem]) (by simp [go_sem])).mono ?_
    rintro e w' ⟨rfl, hb⟩
    refine ⟨_, rfl, ⟨rfl, hb⟩, ?_, ?_⟩
    · rw [hb.cell (by simp)]
      simp [go_sem]
    · rw [hb.frozen (by simp)]
      simp [go_sem]
  have HG := Lib.hid hg
  clear hg hb hmm hm ht hsp
  go_enter Tryd.func13, Tryd.ntmps13
  go_wp2_with (go_at_call 35; refine (try_any _ _ _ _ (Tryd.enterAllowMixed1 _) HG).mono ?_; rintro e w' ⟨b, w1, rfl, ⟨rfl, hb⟩, rfl⟩)
  have hb0 : Below w.heap.size w w1 := ((((Below.refl w.heap.size w).alloc (Nat.le_refl _) _).alloc (by simp) _).trans (hb.mono (by simp; omega)))
  go_ret
  exact ⟨rfl, hb0.setCell (by simp) _⟩

/-! A medium whose one attribute tells the greatest message. -/
theorem tight_max : Tight ⟨#[109, 97, 120, 45, 109, 101, 115, 115, 97, 103, 101, 45, 115, 105, 122, 101]⟩ := ⟨by decide, fun j b h => by
  have : b ∈ ([109, 97, 120, 45, 109, 101, 115, 115, 97, 103, 101, 45, 115, 105, 122, 101] : List UInt8) := List.mem_of_getElem? h
  simp at this
  rcases this with rfl | rfl | rfl | rfl | rfl | rfl | rfl | rfl | rfl | rfl | rfl | rfl | rfl | rfl | rfl | rfl <;> decide, by show 16 ≤ _; omega⟩

set_option maxHeartbeats 1000000 in
theorem maxSize_any {D : Nat → Prop} (p : Nat) (kind : ByteArray) (fs : List ByteArray) (n : Nat) (w : World) (hn : n ≤ 4294967295) (hsp : Spaces w) (h : MD D w p kind fs [(⟨#[109, 97, 120, 45, 109, 101, 115, 115, 97, 103, 101, 45, 115, 105, 122, 101]⟩, dec n)]) :
    Calls Tryd.prog 66 #[.pointer (some ⟨p, 0, none⟩)] w fun e w' => e = .returned (.int .u32 n) ∧ Below w.heap.size w w' := by
  obtain ⟨_, _, _, A, c, h9, hkv⟩ := h
  obtain ⟨b, o, rfl, _, c0, c1⟩ := hkv 0 _ rfl
  simp only [Nat.zero_mul, Nat.add_zero] at c0 c1
  simp only [List.length_cons, List.length_nil, Nat.zero_add] at h9
  have HSP := Lib.hid hsp
  have z := dec_size n
  have hpu : ∀ w, Calls Tryd.prog 77 #[.string (dec n), .int .i64 10, .int .i64 32] w fun e w' => e = .returned (.tuple #[.int .u64 n, .nilIface]) ∧ Below w.heap.size w w' := fun w =>
    (Tryd.strconv_ParseUint_10_at32_ok (dec n) (by omega) n (parseB_dec 32 n (by decide) (by omega)) w).mono fun e w' ⟨h1, h2⟩ => ⟨h1, by rcases h2 with rfl | rfl; exact Below.refl _ _; exact below_bytes _ _ _⟩
  have HPU := Lib.hid hpu
  clear hkv hsp hpu
  go_enter Tryd.func66, Tryd.ntmps66
  go_wp2
  go_loopw [12] (fun i wr => i = .int .i64 0 ∧ wr = w) (fun i _ => 0)
  case atStart => exact ⟨rfl, rfl⟩
  case round =>
    obtain ⟨rfl, rfl⟩ := hrel
    have hc : ∀ o, Calls Tryd.prog 76 #[.string ⟨#[109, 97, 120, 45, 109, 101, 115, 115, 97, 103, 101, 45, 115, 105, 122, 101]⟩] (wr.alloc o) fun e w' => e = .returned (.string ⟨#[109, 97, 120, 45, 109, 101, 115, 115, 97, 103, 101, 45, 115, 105, 122, 101]⟩) ∧ Below (wr.alloc o).heap.size (wr.alloc o) w' := fun o => trim_tight _ _ tight_max (HSP.out.below ((Below.refl _ _).alloc (Nat.le_refl _) _))
    have HC := Lib.hid hc
    clear hc
    go_wp2_with (first
      | (go_at_call 76; refine (HC.out _).mono ?_; rintro e w1 ⟨rfl, hb1⟩; have k1 : w1.cell? ⟨wr.heap.size, 1, none⟩ = some (.string (dec n)) := (hb1.cell (by simp)).trans (by simp [go_sem]))
      | (go_at_call 77; refine (HPU.out _).mono ?_; rintro e w2 ⟨rfl, hb2⟩))
    go_ret
    exact ⟨rfl, (((Below.refl wr.heap.size wr).alloc (Nat.le_refl _) _).trans (hb1.mono (by simp))).trans (hb2.mono (by have := hb1.size; simp at this; omega))⟩
end Go.Proofs.YtlbmjfjmbgbpeaaDoor
