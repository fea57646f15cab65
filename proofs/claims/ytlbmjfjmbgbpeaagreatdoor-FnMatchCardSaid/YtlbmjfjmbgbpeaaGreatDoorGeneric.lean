/- A format of the package that is of none of its four kinds: how it is read, and a parameter of it. -/
import Derived.Test.YtlbmjfjmbgbpeaaGreatDoorStrMap
import Derived.Test.YtlbmjfjmbgbpeaaGreatDoorSpaces
import Derived.Test.YtlbmjfjmbgbpeaaGreatDoorMid
import Derived.Test.YtlbmjfjmbgbpeaaGreatDoorFoldLaw
namespace Go.Proofs.YtlbmjfjmbgbpeaaGreatDoor
open Go.RowKit Go.WideMaps Go.Maps

/-- A format of no kind of its own in block g: its kind, rate and channels; its parameters read as D. -/
structure GenAt {H : Type} (B : Nat) (w : World) (g : Nat) (mime : ByteArray) (r c : Int) (n : Nat) (D : DataW H) : Prop where
  le : B ≤ g
  c0 : w.cell? ⟨g, 0, none⟩ = some (.string mime)
  c1 : w.cell? ⟨g, 1, none⟩ = some (.int .u32 r)
  c2 : w.cell? ⟨g, 2, none⟩ = some (.int .u16 c)
  mp : ∃ b, B ≤ b ∧ w.cell? ⟨g, 3, none⟩ = some (.map (some b)) ∧ w.ownsMap Tryz.prog 9 (plainElem Tryz.prog 9) b n D
theorem GenAt.below {H : Type} {B : Nat} {w w' : World} {g : Nat} {mime : ByteArray} {r c : Int} {n : Nat} {D : DataW H} (h : GenAt B w g mime r c n D) (hb : Below w.heap.size w w') : GenAt B w' g mime r c n D :=
  let ⟨b, hl, h3, hm⟩ := h.mp
  ⟨h.le, kp_of_below hb _ _ h.c0, kp_of_below hb _ _ h.c1, kp_of_below hb _ _ h.c2, b, hl, kp_of_below hb _ _ h3, hm.kept (grown_of_below hb none) (by simp)⟩
theorem GenAt.mono {H : Type} {B B' : Nat} {w : World} {g : Nat} {mime : ByteArray} {r c : Int} {n : Nat} {D : DataW H} (h : GenAt B w g mime r c n D) (hB : B' ≤ B) : GenAt B' w g mime r c n D :=
  let ⟨b, hl, h3, hm⟩ := h.mp
  ⟨Nat.le_trans hB h.le, h.c0, h.c1, h.c2, b, Nat.le_trans hB hl, h3, hm⟩

set_option maxHeartbeats 1000000 in
theorem within1_any (K x : Int) (b : Nat) (w : World) (hx0 : 0 ≤ x) (hxK : x ≤ K) (c0 : w.cell? ⟨b, 0, none⟩ = some (.int .i64 x)) :
    Calls Tryz.prog 32 #[.int .i64 K, .slice (some ⟨b, 0, none⟩) 1 1] w fun e w' => e = .returned (.bool true) ∧ w = w' := by
  have x1 : decide (x < 0) = false := by simp; omega
  have x2 : decide (K < x) = false := by simp; omega
  go_enter Tryz.func32, Tryz.ntmps32
  go_wp2
  go_loop [9] (fun i => ∃ k : Nat, i = .int .i64 k ∧ k ≤ 1) (fun i => 1 - (intOf i).toNat)
  case atStart => exact ⟨0, rfl, by omega⟩
  case round =>
    obtain ⟨k, rfl, hk⟩ := hrel
    rcases (show k = 0 ∨ k = 1 by omega) with rfl | rfl
    · go_wp2
      go_round
      case rel => exact ⟨1, rfl, by omega⟩
      case measure => simp [intOf]
    · go_wp2
      go_ret
      exact ⟨rfl, rfl⟩

/-- The four kinds that have readers of their own. -/
def fourKinds : List ByteArray := [⟨#[118, 105, 100, 101, 111, 47, 104, 50, 54, 52]⟩, ⟨#[118, 105, 100, 101, 111, 47, 104, 50, 54, 53]⟩, ⟨#[118, 105, 100, 101, 111, 47, 118, 112, 57]⟩, ⟨#[118, 105, 100, 101, 111, 47, 97, 118, 49]⟩]
/-- A kind that is none of the four: short, of ASCII. -/
def otherKind (mime : ByteArray) : Bool := decide (mime.size ≤ 1000) && (mime.data.toList.all fun b => decide (b.toNat < 128)) && fourKinds.all fun t => !Lib.equalFold mime.data.toList t.data.toList
def fourB (t : ByteArray) : Bool := fourKinds.any fun x => x.data.toList == t.data.toList
theorem fold_none {mime : ByteArray} (h : otherKind mime = true) {t : ByteArray} (htb : fourB t = true) (w : World) : Calls Tryz.prog 38 #[.string mime, .string t] w fun e w' => e = .returned (.bool false) ∧ w = w' := by
  have ht : t ∈ fourKinds := by
    obtain ⟨x, hx, he⟩ := List.any_eq_true.1 htb
    have e : x = t := by apply ByteArray.ext; exact Array.toList_inj.1 (by simpa using he)
    exact e ▸ hx
  unfold otherKind at h
  simp only [Bool.and_eq_true, decide_eq_true_eq] at h
  obtain ⟨⟨h1, h2⟩, h3⟩ := h
  have h4 := List.all_eq_true.1 h3 t ht
  have ha : ∀ (j : Nat) b, mime.data.toList[j]? = some b → b.toNat < 128 := fun j b hb => by simpa using List.all_eq_true.1 h2 b (List.mem_of_getElem? hb)
  have hat : (fourKinds.all fun t => t.data.toList.all fun b => decide (b.toNat < 128)) = true := by decide +kernel
  have ht2 := List.all_eq_true.1 hat t ht
  refine (Tryz.strings_EqualFold mime t w (by omega) ha (fun j b hb => by simpa using List.all_eq_true.1 ht2 b (List.mem_of_getElem? hb))).mono ?_
  rintro e w' ⟨rfl, rfl⟩
  refine ⟨?_, rfl⟩
  have : Lib.equalFold mime.data.toList t.data.toList = false := by simpa using h4
  rw [this]

/-- What reading a line's parameters comes to. -/
def ParsesTo {H : Type} (line : ByteArray) (n : Nat) (D : DataW H) : Prop := ∀ w, Spaces w → Calls Tryz.prog 37 #[.string line] w fun e w' => e = .returned (.map (some w.heap.size)) ∧ w'.ownsMap Tryz.prog 9 (plainElem Tryz.prog 9) w.heap.size n D ∧ Below w.heap.size w w'

set_option maxHeartbeats 1000000 in
set_option maxRecDepth 100000 in
theorem parseGen_any {H : Type} (mime line : ByteArray) (r c : Int) (n : Nat) (D : DataW H) (w : World) (hk : otherKind mime = true) (hp : ParsesTo line n D) (hsp : Spaces w) :
    Calls Tryz.prog 33 #[.string mime, .int .u32 r, .int .u16 c, .string line] w fun e w' => ∃ g, e = .returned (.iface 123 (.pointer (some ⟨g, 0, none⟩))) ∧ GenAt w.heap.size w' g mime r c n D ∧ Below w.heap.size w w' := by
  have H1 := Lib.hid (hp w hsp)
  have HF : Hid (∀ t, fourB t = true → ∀ w, Calls Tryz.prog 38 #[.string mime, .string t] w fun e w' => e = .returned (.bool false) ∧ w = w') := Lib.hid fun t ht w => fold_none hk ht w
  clear hk hp hsp
  go_enter Tryz.func33, Tryz.ntmps33
  go_wp2_with (first
    | (go_at_call 37; refine H1.out.mono ?_; rintro e w1 ⟨rfl, hm, hb⟩)
    | (go_at_call 38; refine (HF.out _ ?_ _).mono ?_; (kernel_rfl); rintro e w2 ⟨rfl, rfl⟩))
  go_ret
  have s1 := hb.size
  exact ⟨w1.heap.size, rfl, ⟨s1, by simp [go_sem], by simp [go_sem], by simp [go_sem], w.heap.size, Nat.le_refl _, by simp [go_sem], hm.alloc _⟩, hb.alloc s1 _⟩

set_option maxHeartbeats 1000000 in
set_option maxRecDepth 100000 in
theorem parsed_any {H : Type} (mime line : ByteArray) (r c : Int) (n : Nat) (D : DataW H) (w : World) (hr : 1 ≤ r) (hr2 : r ≤ 200000) (hc : 1 ≤ c) (hc2 : c ≤ 100) (hk : otherKind mime = true) (hp : ParsesTo line n D) (hsp : Spaces w) :
    Calls Tryz.prog 21 #[.agg #[.string mime, .int .i64 r, .int .i64 c, .string line]] w fun e w' => ∃ g, e = .returned (.iface 123 (.pointer (some ⟨g, 0, none⟩))) ∧ GenAt w.heap.size w' g mime r c n D ∧ Below w.heap.size w w' := by
  have h1 : Hid (∀ x w, w.cell? ⟨x, 0, none⟩ = some (.int .i64 r) → Calls Tryz.prog 32 #[.int .i64 4294967295, .slice (some ⟨x, 0, none⟩) 1 1] w fun e w' => e = .returned (.bool true) ∧ w = w') :=
    Lib.hid fun x w c0 => within1_any 4294967295 r x w (by omega) (by omega) c0
  have h2 : Hid (∀ x w, w.cell? ⟨x, 0, none⟩ = some (.int .i64 c) → Calls Tryz.prog 32 #[.int .i64 65535, .slice (some ⟨x, 0, none⟩) 1 1] w fun e w' => e = .returned (.bool true) ∧ w = w') :=
    Lib.hid fun x w c0 => within1_any 65535 c x w (by omega) (by omega) c0
  have h3 : Hid (∀ w, Spaces w → Calls Tryz.prog 33 #[.string mime, .int .u32 r, .int .u16 c, .string line] w fun e w' => ∃ g, e = .returned (.iface 123 (.pointer (some ⟨g, 0, none⟩))) ∧ GenAt w.heap.size w' g mime r c n D ∧ Below w.heap.size w w') :=
    Lib.hid fun w hs => parseGen_any mime line r c n D w hk hp hs
  have HSP := Lib.hid hsp
  clear hk hp hsp
  go_enter Tryz.func21, Tryz.ntmps21
  go_wp2_with fail
  refine (h1.out (w.heap.size + 1) _ (by simp [go_sem])).mono ?_; rintro e w1 ⟨rfl, rfl⟩
  go_wp2_with fail
  refine (h2.out (w.heap.size + 1 + 1) _ (by simp [go_sem])).mono ?_; rintro e w1 ⟨rfl, rfl⟩
  have bel : ∀ a b c, Below w.heap.size w (((w.alloc a).alloc b).alloc c) := fun a b c => (((Below.refl _ _).alloc (Nat.le_refl _) _).alloc (by simp) _).alloc (by simp; omega) _
  have BEL := Lib.hid bel
  clear bel
  go_wp2_with (go_at_call 33; refine (h3.out _ (HSP.out.below (BEL.out _ _ _))).mono ?_; rintro e w2 ⟨g, rfl, hg, hb⟩)
  go_ret
  exact ⟨g, rfl, hg.mono (by simp; omega), (BEL.out _ _ _).trans (hb.mono (by simp; omega))⟩
end Go.Proofs.YtlbmjfjmbgbpeaaGreatDoor
