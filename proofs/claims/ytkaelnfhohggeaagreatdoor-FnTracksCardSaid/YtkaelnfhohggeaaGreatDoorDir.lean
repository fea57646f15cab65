/- The direction of a medium: the first attribute of the medium, then of the session, that names one. -/
import Derived.Test.YtkaelnfhohggeaaGreatDoorDescr
namespace Go.Proofs.YtkaelnfhohggeaaGreatDoor
open Go.RowKit

/-- The direction that a text names; 0: none. -/
def dirOf (s : List UInt8) : Int :=
  if s == [115, 101, 110, 100, 114, 101, 99, 118] then 1
  else if s == [115, 101, 110, 100, 111, 110, 108, 121] then 2
  else if s == [114, 101, 99, 118, 111, 110, 108, 121] then 3
  else if s == [105, 110, 97, 99, 116, 105, 118, 101] then 4
  else 0

set_option maxHeartbeats 1000000 in
theorem newDir_any (s : ByteArray) (w : World) :
    Calls Tryz.prog 31 #[.string s] w fun e w' => e = .returned (.int .i64 (dirOf s.toList)) ∧ w = w' := by
  cases h1 : (s.toList == [115, 101, 110, 100, 114, 101, 99, 118]) with
  | true =>
    go_enter Tryz.func31, Tryz.ntmps31
    go_wp2
    go_ret
    exact ⟨by simp [dirOf, h1], rfl⟩
  | false =>
    cases h2 : (s.toList == [115, 101, 110, 100, 111, 110, 108, 121]) with
    | true =>
      go_enter Tryz.func31, Tryz.ntmps31
      go_wp2
      go_ret
      exact ⟨by simp [dirOf, h1, h2], rfl⟩
    | false =>
      cases h3 : (s.toList == [114, 101, 99, 118, 111, 110, 108, 121]) with
      | true =>
        go_enter Tryz.func31, Tryz.ntmps31
        go_wp2
        go_ret
        exact ⟨by simp [dirOf, h1, h2, h3], rfl⟩
      | false =>
        cases h4 : (s.toList == [105, 110, 97, 99, 116, 105, 118, 101]) with
        | true =>
          go_enter Tryz.func31, Tryz.ntmps31
          go_wp2
          go_ret
          exact ⟨by simp [dirOf, h1, h2, h3, h4], rfl⟩
        | false =>
          go_enter Tryz.func31, Tryz.ntmps31
          go_wp2
          go_ret
          exact ⟨by simp [dirOf, h1, h2, h3, h4], rfl⟩

/-- The first direction that the attributes name; 0: none. -/
def firstDir : List KV → Int
  | [] => 0
  | p :: r => if dirOf p.1.toList = 0 then firstDir r else dirOf p.1.toList
theorem firstDir_hit {l : List KV} {k : Nat} (hk : k < l.length) (h : ¬ dirOf l[k].1.toList = 0) : firstDir (l.drop k) = dirOf l[k].1.toList := by
  rw [List.drop_eq_getElem_cons hk, firstDir, if_neg h]
theorem firstDir_miss {l : List KV} {k : Nat} (hk : k < l.length) (h : dirOf l[k].1.toList = 0) : firstDir (l.drop k) = firstDir (l.drop (k + 1)) := by
  rw [List.drop_eq_getElem_cons hk, firstDir, if_pos h]
/-- The direction of a medium with these attributes in a session with those. -/
def peerDir (l1 l2 : List KV) : Int := if firstDir l1 = 0 then (if firstDir l2 = 0 then 1 else firstDir l2) else firstDir l1

/-- Which attributes round k of the outer loop reads. -/
def rowOf (l1 l2 : List KV) (k : Nat) : List KV := if k = 0 then l1 else l2

set_option maxHeartbeats 2000000 in
set_option maxRecDepth 100000 in
theorem getPeer_any {D D' : Nat → Prop} (p q : Nat) (kind : ByteArray) (fs : List ByteArray) (l1 l2 : List KV) (ms : List MediaD) (w : World) (hl1 : l1.length * 32 ≤ 140737488355328) (hl2 : l2.length * 32 ≤ 140737488355328)
    (h1 : MD D w p kind fs l1) (h2 : SD D' w q l2 ms) :
    Calls Tryz.prog 23 #[.pointer (some ⟨p, 0, none⟩), .pointer (some ⟨q, 0, none⟩)] w fun e w' => e = .returned (.int .i64 (peerDir l1 l2)) ∧ Below w.heap.size w w' := by
  obtain ⟨_, _, _, A1, a1, c9, kv1⟩ := h1
  obtain ⟨_, ⟨A2, a2, c17, kv2⟩, _⟩ := h2
  have H1 := Lib.hid kv1
  have H2 := Lib.hid kv2
  clear kv1 kv2
  go_enter Tryz.func23, Tryz.ntmps23
  go_wp2_with fail
  go_region
  go_wp2
  go_loopw [20] (fun i wr => ∃ k : Nat, k ≤ 2 ∧ i = .int .i64 k ∧ (1 ≤ k → firstDir l1 = 0) ∧ (2 ≤ k → firstDir l2 = 0) ∧ Below (w.heap.size + 1) (w.alloc (.cells #[.slice A1 l1.length a1, .slice A2 l2.length a2] 62)).drew wr) (fun i _ => 2 - (intOf i).toNat)
  case atStart => exact ⟨0, by omega, rfl, fun h => by omega, fun h => by omega, Below.refl _ _⟩
  case round =>
    obtain ⟨k, hk, rfl, hf1, hf2, hb⟩ := hrel
    have HF1 := Lib.hid hf1
    have HF2 := Lib.hid hf2
    clear hf1 hf2
    obtain ⟨wo, rfl⟩ : ∃ wo : World, wo = wr := ⟨_, rfl⟩
    have hsz : w.heap.size + 1 ≤ wo.heap.size := by have := hb.size; simpa using this
    have hW : Below w.heap.size w wo := ((Below.refl w.heap.size w).alloc (Nat.le_refl _) (.cells #[.slice A1 l1.length a1, .slice A2 l2.length a2] 62)).drew.trans (hb.mono (by omega))
    have HW := Lib.hid hW
    clear hW
    by_cases hlt : k < 2
    · obtain ⟨A, c, l, hcell, hkv, hlen, hfact⟩ : ∃ A c l, wo.cell? ⟨w.heap.size, k, none⟩ = some (.slice A l.length c) ∧ Hid (∀ i p, l[i]? = some p → ∃ b o, A = some ⟨b, o, none⟩ ∧ w.cell? ⟨b, o + i * 2, none⟩ = some (.string p.1) ∧ w.cell? ⟨b, o + i * 2 + 1, none⟩ = some (.string p.2)) ∧ l.length * 32 ≤ 140737488355328 ∧ (k = 0 ∧ l = l1 ∨ k = 1 ∧ l = l2) := by
        rcases (show k = 0 ∨ k = 1 by omega) with rfl | rfl
        · exact ⟨A1, a1, l1, (hb.cell (by simp)).trans (by simp [go_sem]), fun i p hp => let ⟨b, o, e, _, h, h'⟩ := H1.out i p hp; ⟨b, o, e, h, h'⟩, hl1, .inl ⟨rfl, rfl⟩⟩
        · exact ⟨A2, a2, l2, (hb.cell (by simp)).trans (by simp [go_sem]), fun i p hp => let ⟨b, o, e, _, h, h'⟩ := H2.out i p hp; ⟨b, o, e, h, h'⟩, hl2, .inr ⟨rfl, rfl⟩⟩
      have HFACT := Lib.hid hfact
      clear hfact
      have hd : decide ((k : Int) < 2) = true := by simp; omega
      go_wp2
      go_loopw [26] (fun i wx => ∃ j : Nat, j ≤ l.length ∧ i = .int .i64 j ∧ firstDir (l.drop j) = firstDir l ∧ Below wo.heap.size wo wx) (fun i _ => l.length - (intOf i).toNat)
      case atStart => exact ⟨0, Nat.zero_le _, rfl, rfl, Below.refl _ _⟩
      case round =>
        obtain ⟨wx, rfl⟩ : ∃ wx : World, wx = wr := ⟨_, rfl⟩
        obtain ⟨j, hj, rfl, hat, hbx⟩ := hrel
        have HAT := Lib.hid hat
        clear hat
        by_cases hjl : j < l.length
        · obtain ⟨b, o, rfl, c0, c1⟩ := hkv.out j l[j] (by simp [hjl])
          have d0 : wx.cell? ⟨b, o + j * 2, none⟩ = some (.string l[j].1) := kp_of_below hbx _ _ (kp_of_below HW.out _ _ c0)
          have d1 : wx.cell? ⟨b, o + j * 2 + 1, none⟩ = some (.string l[j].2) := kp_of_below hbx _ _ (kp_of_below HW.out _ _ c1)
          clear c0 c1
          have hs1 := hbx.size
          have bel : Below w.heap.size w wx := HW.out.trans (hbx.mono (by omega))
          have BEL := Lib.hid bel
          clear bel
          by_cases hz : dirOf l[j].1.toList = 0
          · have e1 := firstDir_miss hjl hz
            rw [HAT.out] at e1
            have E1 := Lib.hid e1
            clear e1
            go_wp2_with (go_at_call 31; refine (newDir_any _ _).mono ?_; rintro e w' ⟨rfl, rfl⟩)
            go_roundw
            case rel => exact ⟨j + 1, by omega, by go_num, E1.out.symm, hbx.alloc hs1 _⟩
            case measure => simp [intOf]; omega
          · have e1 := firstDir_hit hjl hz
            rw [HAT.out] at e1
            have fin : dirOf l[j].1.toList = peerDir l1 l2 := by
              rcases HFACT.out with ⟨hk0, rfl⟩ | ⟨hk1, rfl⟩
              · rw [peerDir, if_neg (by rw [e1]; exact hz), e1]
              · rw [peerDir, if_pos (HF1.out (by omega)), if_neg (by rw [e1]; exact hz), e1]
            have FIN := Lib.hid fin
            clear e1 fin
            have hne : (dirOf l[j].1.toList != 0) = true := by simpa using hz
            go_wp2_with (go_at_call 31; refine (newDir_any _ _).mono ?_; rintro e w' ⟨rfl, rfl⟩)
            go_ret
            exact ⟨congrArg (fun n => Ending.returned (.int .i64 n)) FIN.out, BEL.out.alloc (by omega) _⟩
        · obtain rfl : j = l.length := by omega
          have e1 : firstDir l = 0 := by rw [← HAT.out, List.drop_length]; rfl
          have hs1 := hbx.size
          have f1 : 1 ≤ k + 1 → firstDir l1 = 0 := fun _ => by
            rcases HFACT.out with ⟨_, rfl⟩ | ⟨hk1, rfl⟩
            · exact e1
            · exact HF1.out (by omega)
          have f2 : 2 ≤ k + 1 → firstDir l2 = 0 := fun _ => by
            rcases HFACT.out with ⟨hk0, _⟩ | ⟨hk1, rfl⟩
            · omega
            · exact e1
          have G1 := Lib.hid f1
          have G2 := Lib.hid f2
          have bel := hb.trans (hbx.mono hsz)
          have BEL := Lib.hid bel
          clear e1 f1 f2 bel
          go_wp2
          go_roundw
          case rel => exact ⟨k + 1, by omega, by go_num, G1.out, G2.out, BEL.out⟩
          case measure => simp [intOf]; omega
    · obtain rfl : k = 2 := by omega
      have fin : peerDir l1 l2 = 1 := by rw [peerDir, if_pos (HF1.out (by omega)), if_pos (HF2.out (by omega))]
      have FIN := Lib.hid fin
      clear fin
      go_wp2
      go_ret
      exact ⟨congrArg (fun n => Ending.returned (.int .i64 n)) FIN.out.symm, HW.out⟩
end Go.Proofs.YtkaelnfhohggeaaGreatDoor
