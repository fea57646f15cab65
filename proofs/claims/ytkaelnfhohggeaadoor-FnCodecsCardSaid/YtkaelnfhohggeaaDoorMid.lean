/- A medium's name: the value of its first attribute 'mid'; and that the thin package answers at all ('works'). -/
import Derived.Test.YtkaelnfhohggeaaDoorMedium
import Derived.Test.YtkaelnfhohggeaaDoorTry
namespace Go.Proofs.YtkaelnfhohggeaaDoor
open Go.RowKit

/-- The value of the first attribute of this key; none: the empty text. -/
def attrOf (key : List UInt8) : List KV → ByteArray
  | [] => ⟨#[]⟩
  | p :: r => if p.1.toList == key then p.2 else attrOf key r
theorem attrOf_hit {key : List UInt8} {l : List KV} {k : Nat} {p : KV} (h : l[k]? = some p) (hp : (p.1.toList == key) = true) : attrOf key (l.drop k) = p.2 := by
  have hk : k < l.length := by by_cases h1 : k < l.length; exact h1; rw [List.getElem?_eq_none (by omega)] at h; cases h
  have he : l[k] = p := by rw [List.getElem?_eq_getElem hk] at h; exact Option.some.inj h
  rw [List.drop_eq_getElem_cons hk, he, attrOf, if_pos hp]
theorem attrOf_miss {key : List UInt8} {l : List KV} {k : Nat} {p : KV} (h : l[k]? = some p) (hp : (p.1.toList == key) = false) : attrOf key (l.drop k) = attrOf key (l.drop (k + 1)) := by
  have hk : k < l.length := by by_cases h1 : k < l.length; exact h1; rw [List.getElem?_eq_none (by omega)] at h; cases h
  have he : l[k] = p := by rw [List.getElem?_eq_getElem hk] at h; exact Option.some.inj h
  rw [List.drop_eq_getElem_cons hk, he, attrOf, if_neg (by simp [hp])]

set_option maxHeartbeats 400000 in
theorem getMid_any {D : Nat → Prop} (p : Nat) (kind : ByteArray) (fs : List ByteArray) (l : List KV) (w : World) (hl : l.length * 32 ≤ 140737488355328) (h : MD D w p kind fs l) :
    Calls Tryd.prog 27 #[.pointer (some ⟨p, 0, none⟩)] w fun e w' => e = .returned (.string (attrOf [109, 105, 100] l)) ∧ Below w.heap.size w w' := by
  obtain ⟨_, _, _, A, c, h9, hkv⟩ := h
  have H := Lib.hid hkv
  clear hkv
  go_enter Tryd.func27, Tryd.ntmps27
  go_wp2
  go_loopw [10] (fun i wr => ∃ k : Nat, k ≤ l.length ∧ i = .int .i64 k ∧ attrOf [109, 105, 100] (l.drop k) = attrOf [109, 105, 100] l ∧ Below w.heap.size w wr) (fun i _ => l.length - (intOf i).toNat)
  case atStart => exact ⟨0, Nat.zero_le _, rfl, rfl, Below.refl _ _⟩
  case round =>
    obtain ⟨k, hk, rfl, hat, hb⟩ := hrel
    have HAT := Lib.hid hat
    clear hat
    have hsz := hb.size
    by_cases hlt : k < l.length
    · obtain ⟨b, o, rfl, _, c0, c1⟩ := H.out k l[k] (by simp [hlt])
      have d0 := (hb.cell (p := ⟨b, o + k * 2, none⟩) (World.block_lt_of_cell? _ _ c0)).trans c0
      have d1 := (hb.cell (p := ⟨b, o + k * 2 + 1, none⟩) (World.block_lt_of_cell? _ _ c1)).trans c1
      clear c0 c1
      have gk : l[k]? = some l[k] := by simp [hlt]
      have GK := Lib.hid gk
      clear gk
      cases ht : (l[k].1.toList == [109, 105, 100]) with
      | true =>
        have e1 := attrOf_hit GK.out ht
        rw [HAT.out] at e1
        have E1 := Lib.hid e1
        clear e1
        go_wp2
        go_ret
        exact ⟨congrArg (fun s => Ending.returned (.string s)) E1.out.symm, hb.alloc hsz _⟩
      | false =>
        have e1 := attrOf_miss GK.out ht
        rw [HAT.out] at e1
        have E1 := Lib.hid e1
        clear e1
        go_wp2
        go_roundw
        case rel => exact ⟨k + 1, by omega, by go_num, E1.out.symm, hb.alloc hsz _⟩
        case measure => simp [intOf]; omega
    · obtain rfl : k = l.length := by omega
      have e1 := HAT.out
      rw [List.drop_length] at e1
      have E1 := Lib.hid e1
      clear e1
      go_wp2
      go_ret
      exact ⟨congrArg (fun s => Ending.returned (.string s)) E1.out, hb⟩

set_option maxHeartbeats 400000 in
theorem zzMid_any {D : Nat → Prop} (p : Nat) (kind : ByteArray) (fs : List ByteArray) (l : List KV) (w : World) (hl : l.length * 32 ≤ 140737488355328) (h : MD D w p kind fs l) :
    Calls Tryd.prog 21 #[.pointer (some ⟨p, 0, none⟩)] w fun e w' => e = .returned (.string (attrOf [109, 105, 100] l)) ∧ Below w.heap.size w w' := by
  have H := Lib.hid h
  clear h
  go_enter Tryd.func21, Tryd.ntmps21
  go_wp2_with (go_at_call 27; refine (getMid_any p kind fs l _ hl H.out).mono ?_; rintro e w1 ⟨rfl, hb⟩)
  go_ret
  exact ⟨rfl, hb⟩

/-- Media of the thin package as a value. -/
def medV (kind : ByteArray) (fA : Option Addr) (fn fc : Nat) (aA : Option Addr) (an ac : Nat) : Array Value := #[.string kind, .slice fA fn fc, .slice aA an ac]

set_option maxHeartbeats 400000 in
theorem mid1_any {D D' : Nat → Prop} (mb sb : Nat) (u : ByteArray) (kind : ByteArray) (fA aA : Option Addr) (fc ac : Nat) (fs : List ByteArray) (l : List KV) (w : World)
    (hfs : fs.length * 16 ≤ 140737488355328) (hl : l.length * 32 ≤ 140737488355328) (hf : Strs D w fA fs) (ha : KVs D' w aA l)
    (c0 : w.cell? ⟨mb, 0, none⟩ = some (.string kind)) (c1 : w.cell? ⟨mb, 1, none⟩ = some (.slice fA fs.length fc)) (c2 : w.cell? ⟨mb, 2, none⟩ = some (.slice aA l.length ac))
    (cs : w.cell? ⟨sb, 0, none⟩ = some (.string u)) (zs : w.frozen? ⟨sb, 0, none⟩ = false) :
    Calls Tryd.prog 20 #[.pointer (some ⟨mb, 0, none⟩), .pointer (some ⟨sb, 0, none⟩)] w fun e w' => e = .returned (.bool true) ∧ ∃ w1, Below w.heap.size w w1 ∧ w' = w1.setCell ⟨sb, 0, none⟩ (.string (attrOf [109, 105, 100] l)) := by
  have HF := Lib.hid hf
  have HA := Lib.hid ha
  clear hf ha
  have hsb := World.block_lt_of_cell? _ _ cs
  go_enter Tryd.func20, Tryd.ntmps20
  go_wp2_with (first
    | (go_at_call 18; refine (medium_any kind fA aA fc ac fs l _ hfs hl HF.out HA.out).mono ?_; rintro e w1 ⟨p, rfl, hm, hb1⟩)
    | (go_at_call 21; refine (zzMid_any p kind fs l _ hl hm).mono ?_; rintro e w2 ⟨rfl, hb2⟩; have cs2 : w2.cell? ⟨sb, 0, none⟩ = some (.string u) := kp_of_below hb2 _ _ (kp_of_below hb1 _ _ cs); have zs2 : w2.frozen? ⟨sb, 0, none⟩ = false := (hb2.frozen (World.block_lt_of_cell? _ _ (kp_of_below hb1 _ _ cs))).trans ((hb1.frozen (World.block_lt_of_cell? _ _ cs)).trans zs)))
  go_ret
  exact ⟨rfl, w2, below_step hb1 hb1.size hb2, rfl⟩

theorem Tryd.enterMid1 (cap : Array Value) (w : World) : Sem.run Tryd.prog (callFunc 20 cap) w = .ok (.enter 20 cap) w := by kernel_rfl

/-- What Mid's function leaves: the name in s's variable (block b), all else new. -/
def MidDone (W : World) (b : Nat) (s : ByteArray) (r : Bool) (w' : World) : Prop := r = true ∧ ∃ w1, Below W.heap.size W w1 ∧ w' = w1.setCell ⟨b, 0, none⟩ (.string s)

set_option maxHeartbeats 400000 in
theorem mid_any {D D' : Nat → Prop} (kind : ByteArray) (fA aA : Option Addr) (fc ac : Nat) (fs : List ByteArray) (l : List KV) (w : World)
    (hfs : fs.length * 16 ≤ 140737488355328) (hl : l.length * 32 ≤ 140737488355328) (hf : Strs D w fA fs) (ha : KVs D' w aA l) :
    Calls Tryd.prog 14 #[.agg #[.string kind, .slice fA fs.length fc, .slice aA l.length ac]] w fun e w' => e = .returned (.string (attrOf [109, 105, 100] l)) ∧ Below w.heap.size w w' := by
  have hmf : ∀ (fn : Fn) (first cap : Array Value) (w : World), (Instr.makeFunc fn first cap).run Tryd.prog w = .ok (.func fn first cap) w := fun _ _ _ _ => rfl
  have hg : Calls Tryd.prog 20 #[.pointer (some ⟨w.heap.size, 0, none⟩), .pointer (some ⟨w.heap.size + 1, 0, none⟩)]
      (((w.alloc (.cells #[.string kind, .slice fA fs.length fc, .slice aA l.length ac] 28)).alloc (.cells #[.string ⟨#[]⟩] 9)).alloc (.cells #[.bool false] 4)) fun e w' => ∃ b, e = .returned (.bool b) ∧
        MidDone (((w.alloc (.cells #[.string kind, .slice fA fs.length fc, .slice aA l.length ac] 28)).alloc (.cells #[.string ⟨#[]⟩] 9)).alloc (.cells #[.bool false] 4)) (w.heap.size + 1) (attrOf [109, 105, 100] l) b w' ∧
        w'.cell? ⟨((w.alloc (.cells #[.string kind, .slice fA fs.length fc, .slice aA l.length ac] 28)).alloc (.cells #[.string ⟨#[]⟩] 9)).heap.size, 0, none⟩ = some (.bool false) ∧
        w'.frozen? ⟨((w.alloc (.cells #[.string kind, .slice fA fs.length fc, .slice aA l.length ac] 28)).alloc (.cells #[.string ⟨#[]⟩] 9)).heap.size, 0, none⟩ = false := by
    have k3 : Kp w (((w.alloc (.cells #[.string kind, .slice fA fs.length fc, .slice aA l.length ac] 28)).alloc (.cells #[.string ⟨#[]⟩] 9)).alloc (.cells #[.bool false] 4)) := ((Kp.alloc _ _).trans (Kp.alloc _ _)).trans (Kp.alloc _ _)
    refine (mid1_any w.heap.size (w.heap.size + 1) ⟨#[]⟩ kind fA aA fc ac fs l _ hfs hl (hf.keep k3) (ha.keep k3) (by simp [go_sem]) (by simp [go_sem]) (by simp [go_sem]) (by simp [go_sem]) (by simp [go_sem])).mono ?_
    rintro e w' ⟨rfl, w1, hb, rfl⟩
    refine ⟨true, rfl, ⟨rfl, w1, hb, rfl⟩, ?_, ?_⟩
    · rw [World.cell?_setCell_other _ _ _ _ (fun e => by simp at e), hb.cell (by simp)]
      simp [go_sem]
    · rw [World.frozen?_setCell, hb.frozen (by simp)]
      simp [go_sem]
  have HG := Lib.hid hg
  clear hg hf ha
  go_enter Tryd.func14, Tryd.ntmps14
  go_wp2_with (go_at_call 15; refine (try_any _ _ _ _ (Tryd.enterMid1 _) HG).mono ?_; rintro e w' ⟨b, w1, rfl, ⟨rfl, w2, hb, rfl⟩, rfl⟩; have hc2 : w2.cell? ⟨w.heap.size + 1, 0, none⟩ = some (.string ⟨#[]⟩) := (hb.cell (by simp)).trans (by simp [go_sem]); have hz2 : w2.frozen? ⟨w.heap.size + 1, 0, none⟩ = false := (hb.frozen (by simp)).trans (by simp [go_sem]))
  have hb0 : Below w.heap.size w w2 := (((((Below.refl w.heap.size w).alloc (Nat.le_refl _) _).alloc (by simp) _).alloc (by simp; omega) _).trans (hb.mono (by simp; omega)))
  refine bodyPost_ret (v := .string (attrOf [109, 105, 100] l)) (by simp [results, Tryd.results14, go_sem, hc2]) rfl ⟨rfl, ?_⟩
  exact ((hb0.setCell (by simp) _).setCell (by simp; omega) _).setCell (by simp) _

/-! 'works' answers true. -/
theorem toList_mid : (⟨#[109, 105, 100]⟩ : ByteArray).toList = [109, 105, 100] := by decide +kernel
theorem attrOf_mid (v : ByteArray) : attrOf [109, 105, 100] [(⟨#[109, 105, 100]⟩, v)] = v := by rw [attrOf, if_pos (by rw [toList_mid]; rfl)]

theorem kvs_one {w : World} {b o : Nat} {k v : ByteArray} (h0 : w.cell? ⟨b, o, none⟩ = some (.string k)) (h1 : w.cell? ⟨b, o + 1, none⟩ = some (.string v)) : KVs (fun _ => True) w (some ⟨b, o, none⟩) [(k, v)] := fun i p hp => by
  match i, hp with
  | 0, hp => simp at hp; subst hp; exact ⟨b, o, rfl, trivial, by simpa using h0, by simpa using h1⟩
  | i + 1, hp => simp at hp

/-- A medium with one attribute 'mid' is told by its value. -/
theorem mid_one (kind v : ByteArray) (w : World) (b : Nat) (c0 : w.cell? ⟨b, 0, none⟩ = some (.string ⟨#[109, 105, 100]⟩)) (c1 : w.cell? ⟨b, 1, none⟩ = some (.string v)) :
    Calls Tryd.prog 14 #[.agg #[.string kind, .slice none 0 0, .slice (some ⟨b, 0, none⟩) 1 1]] w fun e w' => e = .returned (.string v) ∧ Below w.heap.size w w' := by
  have h := mid_any (D := fun _ => True) (D' := fun _ => True) kind none (some ⟨b, 0, none⟩) 0 1 [] [(⟨#[109, 105, 100]⟩, v)] w (by simp) (by simp) (Strs.nil _ _ _) (kvs_one c0 (by simpa using c1))
  rw [attrOf_mid] at h
  exact h

set_option maxHeartbeats 400000 in
theorem works_any (w : World) : Calls Tryd.prog 6 #[] w fun e w' => e = .returned (.bool true) ∧ Below w.heap.size w w' := by
  go_enter Tryd.func6, Tryd.ntmps6
  go_wp2_with (go_at_call 14; refine (mid_one _ ⟨#[120]⟩ _ w.heap.size (by simp [go_sem]) (by simp [go_sem])).mono ?_; rintro e w' ⟨rfl, hb⟩)
  go_ret
  exact ⟨rfl, ((Below.refl w.heap.size w).alloc (Nat.le_refl _) _).trans (hb.mono (by simp))⟩
end Go.Proofs.YtkaelnfhohggeaaDoor
