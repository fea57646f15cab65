/- A description's fingerprint, where the session tells it, or where every medium tells the same. -/
import Derived.Test.YtlbmjfjmbgbpeaaBundle
namespace Go.Proofs.Ytlbmjfjmbgbpeaa
open Go.RowKit

/-- The key's bytes. -/
def fpK : List UInt8 := (⟨#[102, 105, 110, 103, 101, 114, 112, 114, 105, 110, 116]⟩ : ByteArray).toList
theorem group_nil : groupOf [] = ⟨#[]⟩ := rfl
theorem bundleIn_nil : bundleIn ⟨#[]⟩ = ⟨#[]⟩ := by
  unfold bundleIn
  rw [if_neg (by decide)]

attribute [local go_sem ↓] Go.wp_at_zero Go.wp_at_succ

set_option maxHeartbeats 1000000 in
set_option maxRecDepth 100000 in
theorem extractS_any {D : Nat → Prop} (p : Nat) (v x y : ByteArray) (l : List KV) (ms : List MediaD) (w : World) (hl : l.length * 32 ≤ 140737488355328) (hv : v.size ≤ 4294967296) (h0 : (v.toList == []) = false) (hp : piecesB 32 v = [x, y])
    (h1 : attrHas fpK l = true) (h2 : attrOf fpK l = v) (h : SD D w p l ms) :
    Calls Try.prog 44 #[.pointer (some ⟨p, 0, none⟩)] w fun e w' => e = .returned (.tuple #[.string y, .string x, .nilIface]) ∧ Below w.heap.size w w' := by
  have hat := sdAttr_any p ⟨#[102, 105, 110, 103, 101, 114, 112, 114, 105, 110, 116]⟩ l ms w hl h
  change Calls _ _ _ _ (fun e w' => e = .returned (.tuple #[.string (attrOf fpK l), .bool (attrHas fpK l)]) ∧ _) at hat
  rw [h1, h2] at hat
  have hsp : ∀ w, Calls Try.prog 46 #[.string v, .string ⟨#[32]⟩] w fun e w' => ∃ A k, e = .returned (.slice A 2 k) ∧ Strs (w.heap.size ≤ ·) w' A [x, y] ∧ Below w.heap.size w w' := fun w => by
    have := split_any v 32 w hv
    rw [hp] at this
    exact this
  have HAT := Lib.hid hat
  have HSP := Lib.hid hsp
  clear hat hsp h h1 h2 hp
  go_enter Try.func44, Try.ntmps44
  go_wp2_with (first
    | (go_at_call 48; refine HAT.out.mono ?_; rintro e w1 ⟨rfl, hb1⟩)
    | (go_at_call 46; refine (HSP.out _).mono ?_; rintro e w3 ⟨A, k, rfl, hr, hb3⟩; obtain ⟨b, o, rfl, _, c0⟩ := hr 0 x rfl; obtain ⟨b', o', he, _, c1⟩ := hr 1 y rfl; cases he; simp only [Nat.add_zero] at c0))
  have hb := below_step hb1 hb1.size hb3
  go_region
  go_wp2
  go_ret3
  exact ⟨rfl, hb.drew⟩

set_option maxHeartbeats 2000000 in
set_option maxRecDepth 100000 in
theorem extractM_any {D : Nat → Prop} (p : Nat) (v x y : ByteArray) (ms : List MediaD) (w : World) (hv : v.size ≤ 4294967296) (h0 : (v.toList == []) = false) (hp : piecesB 32 v = [x, y]) (hms : ms.length * 8 ≤ 140737488355328)
    (hne : 0 < ms.length) (hm : ∀ m ∈ ms, attrHas fpK m.attrs = true ∧ attrOf fpK m.attrs = v ∧ m.attrs.length * 32 ≤ 140737488355328) (h : SD D w p [] ms) :
    Calls Try.prog 44 #[.pointer (some ⟨p, 0, none⟩)] w fun e w' => e = .returned (.tuple #[.string y, .string x, .nilIface]) ∧ Below w.heap.size w w' := by
  have hat : ∀ w, SD D w p [] ms → Calls Try.prog 48 #[.pointer (some ⟨p, 0, none⟩), .string ⟨#[102, 105, 110, 103, 101, 114, 112, 114, 105, 110, 116]⟩] w fun e w' => e = .returned (.tuple #[.string ⟨#[]⟩, .bool false]) ∧ Below w.heap.size w w' := fun w h => by
    exact sdAttr_any p ⟨#[102, 105, 110, 103, 101, 114, 112, 114, 105, 110, 116]⟩ [] ms w (by simp) h
  have hbu : ∀ w, SD D w p [] ms → Calls Try.prog 41 #[.pointer (some ⟨p, 0, none⟩)] w fun e w' => e = .returned (.string ⟨#[]⟩) ∧ Below w.heap.size w w' := fun w h => by
    have := extractBundle_any p [] ms w (by simp) (by rw [group_nil]; show 0 ≤ _; omega) h
    rw [group_nil, bundleIn_nil] at this
    exact this
  have hsp : ∀ w, Calls Try.prog 46 #[.string v, .string ⟨#[32]⟩] w fun e w' => ∃ A k, e = .returned (.slice A 2 k) ∧ Strs (w.heap.size ≤ ·) w' A [x, y] ∧ Below w.heap.size w w' := fun w => by
    have := split_any v 32 w hv
    rw [hp] at this
    exact this
  have hma : ∀ (w : World) (k q : Nat) (ps : List Nat), MDs D w ps ms → ps[k]? = some q → k < ms.length → Calls Try.prog 53 #[.pointer (some ⟨q, 0, none⟩), .string ⟨#[102, 105, 110, 103, 101, 114, 112, 114, 105, 110, 116]⟩] w fun e w' => e = .returned (.tuple #[.string v, .bool true]) ∧ Below w.heap.size w w' := fun w k q ps hps hq hk => by
    have hmk := hps.2 k q ms[k] hq (by simp [hk])
    obtain ⟨g1, g2, g3⟩ := hm ms[k] (List.getElem_mem _)
    have := mdAttr_any q _ _ ⟨#[102, 105, 110, 103, 101, 114, 112, 114, 105, 110, 116]⟩ _ w g3 hmk
    change Calls _ _ _ _ (fun e w' => e = .returned (.tuple #[.string (attrOf fpK ms[k].attrs), .bool (attrHas fpK ms[k].attrs)]) ∧ _) at this
    rw [g1, g2] at this
    exact this
  have HAT := Lib.hid hat
  have HBU := Lib.hid hbu
  have HSP := Lib.hid hsp
  have HMA := Lib.hid hma
  have H := Lib.hid h
  clear hat hbu hsp hma hp hm h
  go_enter Try.func44, Try.ntmps44
  go_wp2_with (first
    | (go_at_call 48; refine (HAT.out _ H.out).mono ?_; rintro e w1 ⟨rfl, hb1⟩)
    | (go_at_call 41; refine (HBU.out _ (H.out.keep (kp_of_below hb1))).mono ?_; rintro e w2 ⟨rfl, hb2⟩; obtain ⟨_, _, A, c, ps, c18, hP, hM⟩ := (H.out.keep (kp_of_below hb1)).keep (kp_of_below hb2)))
  have bel := below_step hb1 hb1.size hb2
  have HP := Lib.hid hP
  have HM := Lib.hid hM
  clear hP hM
  have hs2 := bel.size
  go_loopw [5, 68] (fun f i wr => ∃ (k : Nat) (u : ByteArray), f = .string u ∧ i = .int .i64 k ∧ k ≤ ms.length ∧ ((k = 0 ∧ u = ⟨#[]⟩) ∨ (0 < k ∧ u = v)) ∧ Below w2.heap.size w2 wr) (fun _ i _ => ms.length - (intOf i).toNat)
  case atStart => exact ⟨0, _, rfl, rfl, Nat.zero_le _, .inl ⟨rfl, rfl⟩, Below.refl _ _⟩
  case round =>
    obtain ⟨k, u, rfl, rfl, hk, hku, hb⟩ := hrel
    have hsz := hb.size
    by_cases hlt : k < ms.length
    · obtain ⟨q, hq⟩ : ∃ q, ps[k]? = some q := ⟨ps[k]'(by rw [HM.out.1]; exact hlt), by simp⟩
      obtain ⟨b, o, rfl, _, c0⟩ := HP.out k q hq
      have HQ := Lib.hid hq
      have d0 := (hb.cell (p := ⟨b, o + k, none⟩) (World.block_lt_of_cell? _ _ c0)).trans c0
      clear c0 hq
      rcases hku with ⟨rfl, rfl⟩ | ⟨hpos, rfl⟩
      · simp only [Nat.add_zero] at d0
        go_wp2_with (go_at_call 53; refine (HMA.out _ _ q ps (HM.out.keep (kp_of_below hb)) HQ.out hlt).mono ?_; rintro e w4 ⟨rfl, hb4⟩)
        go_roundw
        case rel => exact ⟨1, v, rfl, by go_num, by omega, .inr ⟨by omega, rfl⟩, below_step hb hsz hb4⟩
        case measure => simp [intOf]; omega
      · go_wp2_with (go_at_call 53; refine (HMA.out _ k q ps (HM.out.keep (kp_of_below hb)) HQ.out hlt).mono ?_; rintro e w4 ⟨rfl, hb4⟩)
        go_roundw
        case rel => exact ⟨k + 1, _, rfl, by go_num, by omega, .inr ⟨by omega, rfl⟩, below_step hb hsz hb4⟩
        case measure => simp [intOf]; omega
    · obtain rfl : k = ms.length := by omega
      rcases hku with ⟨h1, rfl⟩ | ⟨hpos, rfl⟩
      · omega
      · go_wp2_with (go_at_call 46; refine (HSP.out _).mono ?_; rintro e w3 ⟨A', k', rfl, hr, hb3⟩; obtain ⟨b, o, rfl, _, c0⟩ := hr 0 x rfl; obtain ⟨b', o', he, _, c1⟩ := hr 1 y rfl; cases he; simp only [Nat.add_zero] at c0)
        have belf := below_step (below_step bel hs2 hb) (by omega) hb3
        go_region
        go_wp2
        go_ret3
        exact ⟨rfl, belf.drew⟩

/-- The session tells this fingerprint, or it tells nothing and every medium tells this one. -/
def FpSays (l : List KV) (ms : List MediaD) (v : ByteArray) : Prop :=
  (attrHas fpK l = true ∧ attrOf fpK l = v) ∨ (l = [] ∧ 0 < ms.length ∧ ∀ m ∈ ms, attrHas fpK m.attrs = true ∧ attrOf fpK m.attrs = v ∧ m.attrs.length * 32 ≤ 140737488355328)
theorem extractF_any {D : Nat → Prop} (p : Nat) (v x y : ByteArray) (l : List KV) (ms : List MediaD) (w : World) (hl : l.length * 32 ≤ 140737488355328) (hms : ms.length * 8 ≤ 140737488355328) (hv : v.size ≤ 4294967296) (h0 : (v.toList == []) = false) (hp : piecesB 32 v = [x, y])
    (hc : FpSays l ms v) (h : SD D w p l ms) :
    Calls Try.prog 44 #[.pointer (some ⟨p, 0, none⟩)] w fun e w' => e = .returned (.tuple #[.string y, .string x, .nilIface]) ∧ Below w.heap.size w w' := by
  rcases hc with ⟨h1, h2⟩ | ⟨rfl, h1, h2⟩
  · exact extractS_any p v x y l ms w hl hv h0 hp h1 h2 h
  · exact extractM_any p v x y ms w hv h0 hp hms h1 h2 h

set_option maxHeartbeats 400000 in
theorem zzFinger_any {D : Nat → Prop} (p : Nat) (v x y : ByteArray) (l : List KV) (ms : List MediaD) (w : World) (hl : l.length * 32 ≤ 140737488355328) (hms : ms.length * 8 ≤ 140737488355328) (hv : v.size ≤ 4294967296) (h0 : (v.toList == []) = false) (hp : piecesB 32 v = [x, y])
    (hc : FpSays l ms v) (h : SD D w p l ms) :
    Calls Try.prog 36 #[.pointer (some ⟨p, 0, none⟩)] w fun e w' => e = .returned (.tuple #[.string y, .string x, .nilIface]) ∧ Below w.heap.size w w' := by
  have H := Lib.hid (extractF_any p v x y l ms w hl hms hv h0 hp hc h)
  clear h hc hp
  go_enter Try.func36, Try.ntmps36
  go_wp2_with (go_at_call 44; refine H.out.mono ?_; rintro e w1 ⟨rfl, hb⟩)
  go_ret3
  exact ⟨rfl, hb⟩
end Go.Proofs.Ytlbmjfjmbgbpeaa
