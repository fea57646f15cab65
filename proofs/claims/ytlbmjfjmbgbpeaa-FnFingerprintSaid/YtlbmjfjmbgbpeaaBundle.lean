/- The identifier of a session's bundle: the walk of the thin package's 'Bundle'. -/
import Derived.Test.YtlbmjfjmbgbpeaaAttrib
import Derived.Test.YtlbmjfjmbgbpeaaText
import Derived.Test.YtlbmjfjmbgbpeaaDirFn
namespace Go.Proofs.Ytlbmjfjmbgbpeaa
open Go.RowKit

set_option maxHeartbeats 400000 in
theorem contains_any (s sub : ByteArray) (w : World) (hs : s.size ≤ 4294967296) (hsub : sub.size ≤ 4294967296) (hne : 0 < sub.size) :
    Calls Try.prog 49 #[.string s, .string sub] w fun e w' => e = .returned (.bool (decide (0 ≤ Lib.index s.data.toList sub.data.toList))) ∧ w = w' := by
  go_enter Try.func49, Try.ntmps49
  go_wp2_with (go_at_call 47; refine (index_any s sub _ hs hsub hne).mono ?_; rintro e w' ⟨rfl, rfl⟩)
  go_ret
  exact ⟨rfl, rfl⟩

/-- The value of the first attribute 'group'. -/
def groupOf (l : List KV) : ByteArray := attrOf (⟨#[103, 114, 111, 117, 112]⟩ : ByteArray).toList l
/-- The second text of a list; none: the empty one. -/
def sndOr : List ByteArray → ByteArray
  | _ :: b :: _ => b
  | _ => ⟨#[]⟩
theorem sndOr_short : ∀ {l : List ByteArray}, l.length < 2 → sndOr l = ⟨#[]⟩
  | [], _ => rfl
  | [_], _ => rfl
  | _ :: _ :: _, h => by simp at h; omega
theorem sndOr_get : ∀ {l : List ByteArray}, ¬ l.length < 2 → l[1]? = some (sndOr l)
  | [], h => by simp at h
  | [_], h => by simp at h
  | _ :: _ :: _, _ => rfl
/-- The second piece of a text that holds BUNDLE; otherwise the empty text. -/
def bundleIn (v : ByteArray) : ByteArray := if decide (0 ≤ Lib.index v.data.toList [66, 85, 78, 68, 76, 69]) = true then sndOr (piecesB 32 v) else ⟨#[]⟩

set_option maxHeartbeats 1000000 in
theorem extractBundle_any {D : Nat → Prop} (p : Nat) (l : List KV) (ms : List MediaD) (w : World) (hl : l.length * 32 ≤ 140737488355328) (hv : (groupOf l).size ≤ 4294967296) (h : SD D w p l ms) :
    Calls Try.prog 41 #[.pointer (some ⟨p, 0, none⟩)] w fun e w' => e = .returned (.string (bundleIn (groupOf l))) ∧ Below w.heap.size w w' := by
  have hat := sdAttr_any p ⟨#[103, 114, 111, 117, 112]⟩ l ms w hl h
  change Calls _ _ _ _ (fun e w' => e = .returned (.tuple #[.string (groupOf l), _]) ∧ _) at hat
  clear h
  generalize groupOf l = v at hat hv ⊢
  generalize attrHas _ l = bb at hat
  have HAT := Lib.hid hat
  clear hat
  cases hc : decide (0 ≤ Lib.index v.data.toList [66, 85, 78, 68, 76, 69]) with
  | false =>
    have hcc : ∀ w, Calls Try.prog 49 #[.string v, .string ⟨#[66, 85, 78, 68, 76, 69]⟩] w fun e w' => e = .returned (.bool false) ∧ w = w' := fun w => by
      have := contains_any v ⟨#[66, 85, 78, 68, 76, 69]⟩ w hv (by show 6 ≤ _; omega) (by show 0 < 6; omega)
      rw [show (decide (0 ≤ Lib.index v.data.toList (⟨#[66, 85, 78, 68, 76, 69]⟩ : ByteArray).data.toList)) = false from hc] at this
      exact this
    have HCC := Lib.hid hcc
    have fin : bundleIn v = ⟨#[]⟩ := by unfold bundleIn; rw [hc]; rfl
    have FIN := Lib.hid fin
    clear hcc hc fin
    go_enter Try.func41, Try.ntmps41
    go_wp2_with (first
      | (go_at_call 48; refine HAT.out.mono ?_; rintro e w1 ⟨rfl, hb1⟩)
      | (go_at_call 49; refine (HCC.out _).mono ?_; rintro e w2 ⟨rfl, rfl⟩))
    go_ret
    exact ⟨congrArg (fun s => Ending.returned (.string s)) FIN.out.symm, hb1⟩
  | true =>
    have hcc : ∀ w, Calls Try.prog 49 #[.string v, .string ⟨#[66, 85, 78, 68, 76, 69]⟩] w fun e w' => e = .returned (.bool true) ∧ w = w' := fun w => by
      have := contains_any v ⟨#[66, 85, 78, 68, 76, 69]⟩ w hv (by show 6 ≤ _; omega) (by show 0 < 6; omega)
      rw [show (decide (0 ≤ Lib.index v.data.toList (⟨#[66, 85, 78, 68, 76, 69]⟩ : ByteArray).data.toList)) = true from hc] at this
      exact this
    have HCC := Lib.hid hcc
    have fin : bundleIn v = sndOr (piecesB 32 v) := by unfold bundleIn; rw [hc]; rfl
    have FIN := Lib.hid fin
    have hsp : ∀ w, Calls Try.prog 46 #[.string v, .string ⟨#[32]⟩] w fun e w' => ∃ A k, e = .returned (.slice A (piecesB 32 v).length k) ∧ Strs (w.heap.size ≤ ·) w' A (piecesB 32 v) ∧ Below w.heap.size w w' := fun w => split_any v 32 w hv
    have HSP := Lib.hid hsp
    clear hcc hc fin hsp
    by_cases h2 : (piecesB 32 v).length < 2
    · have fin2 : sndOr (piecesB 32 v) = ⟨#[]⟩ := sndOr_short h2
      have FIN2 := Lib.hid (FIN.out.trans fin2)
      have hd : decide (((piecesB 32 v).length : Int) < 2) = true := by simp; omega
      clear fin2 FIN
      go_enter Try.func41, Try.ntmps41
      go_wp2_with (first
        | (go_at_call 48; refine HAT.out.mono ?_; rintro e w1 ⟨rfl, hb1⟩)
        | (go_at_call 49; refine (HCC.out _).mono ?_; rintro e w2 ⟨rfl, rfl⟩)
        | (go_at_call 46; refine (HSP.out _).mono ?_; rintro e w3 ⟨A, k, rfl, hr, hb3⟩))
      go_ret
      exact ⟨congrArg (fun s => Ending.returned (.string s)) FIN2.out.symm, below_step hb1 hb1.size hb3⟩
    · have hg : (piecesB 32 v)[1]? = some (sndOr (piecesB 32 v)) := sndOr_get h2
      have hlen : ∃ n, (piecesB 32 v).length = n + 2 := ⟨(piecesB 32 v).length - 2, by omega⟩
      obtain ⟨n, hn⟩ := hlen
      have hd : decide (((piecesB 32 v).length : Int) < 2) = false := by simp; omega
      have HG := Lib.hid hg
      clear hg
      go_enter Try.func41, Try.ntmps41
      go_wp2_with (first
        | (go_at_call 48; refine HAT.out.mono ?_; rintro e w1 ⟨rfl, hb1⟩)
        | (go_at_call 49; refine (HCC.out _).mono ?_; rintro e w2 ⟨rfl, rfl⟩)
        | (go_at_call 46; refine (HSP.out _).mono ?_; rintro e w3 ⟨A, k, rfl, hr, hb3⟩; obtain ⟨b, o, rfl, _, c1⟩ := hr 1 _ HG.out))
      go_ret
      exact ⟨congrArg (fun s => Ending.returned (.string s)) FIN.out.symm, below_step hb1 hb1.size hb3⟩

set_option maxHeartbeats 400000 in
theorem zzBundle_any {D : Nat → Prop} (p : Nat) (l : List KV) (ms : List MediaD) (w : World) (hl : l.length * 32 ≤ 140737488355328) (hv : (groupOf l).size ≤ 4294967296) (h : SD D w p l ms) :
    Calls Try.prog 30 #[.pointer (some ⟨p, 0, none⟩)] w fun e w' => e = .returned (.string (bundleIn (groupOf l))) ∧ Below w.heap.size w w' := by
  have H := Lib.hid h
  clear h
  go_enter Try.func30, Try.ntmps30
  go_wp2_with (go_at_call 41; refine (extractBundle_any p l ms _ hl hv H.out).mono ?_; rintro e w1 ⟨rfl, hb⟩)
  go_ret
  exact ⟨rfl, hb⟩

set_option maxHeartbeats 1000000 in
theorem bundle1_any {E : Nat → Prop} (db sb : Nat) (u : ByteArray) (bA nA : Option Addr) (bc nc : Nat) (l : List KV) (ms : List MediaD) (w : World)
    (hl : l.length * 32 ≤ 140737488355328) (hv : (groupOf l).size ≤ 4294967296) (hms : ms.length * 8 ≤ 140737488355328)
    (hm : ∀ m ∈ ms, m.formats.length * 16 ≤ 140737488355328 ∧ m.attrs.length * 32 ≤ 140737488355328)
    (hb : KVs E w bA l) (hmm : Meds w nA ms)
    (e0 : w.cell? ⟨db, 0, none⟩ = some (.slice bA l.length bc)) (e1 : w.cell? ⟨db, 1, none⟩ = some (.slice nA ms.length nc))
    (cs : w.cell? ⟨sb, 0, none⟩ = some (.string u)) (zs : w.frozen? ⟨sb, 0, none⟩ = false) :
    Calls Try.prog 29 #[.pointer (some ⟨db, 0, none⟩), .pointer (some ⟨sb, 0, none⟩)] w fun e w' => e = .returned (.bool true) ∧ ∃ w1, Below w.heap.size w w1 ∧ w' = w1.setCell ⟨sb, 0, none⟩ (.string (bundleIn (groupOf l))) := by
  have HB := Lib.hid hb
  have HM := Lib.hid hmm
  have HS := Lib.hid hm
  have hsb := World.block_lt_of_cell? _ _ cs
  clear hb hmm hm
  go_enter Try.func29, Try.ntmps29
  go_wp2_with (first
    | (go_at_call 23; refine (description_any (D := E) bA nA bc nc l ms _ hl hms HS.out HB.out HM.out).mono ?_; rintro e w1 ⟨q, rfl, hsd, hb1⟩)
    | (go_at_call 30; refine (zzBundle_any q l ms _ hl hv hsd).mono ?_; rintro e w2 ⟨rfl, hb2⟩; have cs2 : w2.cell? ⟨sb, 0, none⟩ = some (.string u) := kp_of_below hb2 _ _ (kp_of_below hb1 _ _ cs); have zs2 : w2.frozen? ⟨sb, 0, none⟩ = false := (hb2.frozen (World.block_lt_of_cell? _ _ (kp_of_below hb1 _ _ cs))).trans ((hb1.frozen (World.block_lt_of_cell? _ _ cs)).trans zs)))
  go_ret
  exact ⟨rfl, w2, below_step hb1 hb1.size hb2, rfl⟩

theorem Try.enterBundle1 (cap : Array Value) (w : World) : Sem.run Try.prog (callFunc 29 cap) w = .ok (.enter 29 cap) w := by kernel_rfl

set_option maxHeartbeats 1000000 in
theorem bundle_any {E : Nat → Prop} (bA nA : Option Addr) (bc nc : Nat) (l : List KV) (ms : List MediaD) (w : World)
    (hl : l.length * 32 ≤ 140737488355328) (hv : (groupOf l).size ≤ 4294967296) (hms : ms.length * 8 ≤ 140737488355328)
    (hm : ∀ m ∈ ms, m.formats.length * 16 ≤ 140737488355328 ∧ m.attrs.length * 32 ≤ 140737488355328)
    (hb : KVs E w bA l) (hmm : Meds w nA ms) :
    Calls Try.prog 13 #[.agg #[.slice bA l.length bc, .slice nA ms.length nc]] w fun e w' => e = .returned (.string (bundleIn (groupOf l))) ∧ Below w.heap.size w w' := by
  have hmf : ∀ (fn : Fn) (first cap : Array Value) (w : World), (Instr.makeFunc fn first cap).run Try.prog w = .ok (.func fn first cap) w := fun _ _ _ _ => rfl
  have hg : Calls Try.prog 29 #[.pointer (some ⟨w.heap.size, 0, none⟩), .pointer (some ⟨w.heap.size + 1, 0, none⟩)] (((w.alloc (.cells #[.slice bA l.length bc, .slice nA ms.length nc] 33)).alloc (.cells #[.string ⟨#[]⟩] 9)).alloc (.cells #[.bool false] 4)) fun e w' => ∃ b, e = .returned (.bool b) ∧
      SetDone (((w.alloc (.cells #[.slice bA l.length bc, .slice nA ms.length nc] 33)).alloc (.cells #[.string ⟨#[]⟩] 9)).alloc (.cells #[.bool false] 4)) (w.heap.size + 1) (.string (bundleIn (groupOf l))) b w' ∧ w'.cell? ⟨((w.alloc (.cells #[.slice bA l.length bc, .slice nA ms.length nc] 33)).alloc (.cells #[.string ⟨#[]⟩] 9)).heap.size, 0, none⟩ = some (.bool false) ∧ w'.frozen? ⟨((w.alloc (.cells #[.slice bA l.length bc, .slice nA ms.length nc] 33)).alloc (.cells #[.string ⟨#[]⟩] 9)).heap.size, 0, none⟩ = false := by
    have k3 : Kp w (((w.alloc (.cells #[.slice bA l.length bc, .slice nA ms.length nc] 33)).alloc (.cells #[.string ⟨#[]⟩] 9)).alloc (.cells #[.bool false] 4)) := ((Kp.alloc _ _).trans (Kp.alloc _ _)).trans (Kp.alloc _ _)
    refine (bundle1_any w.heap.size (w.heap.size + 1) ⟨#[]⟩ bA nA bc nc l ms _ hl hv hms hm (hb.keep k3) (hmm.keep k3)
      (by simp [go_sem]) (by simp [go_sem]) (by simp [go_sem]) (by simp [go_sem])).mono ?_
    rintro e w' ⟨rfl, w1, hb, rfl⟩
    refine ⟨true, rfl, ⟨rfl, w1, hb, rfl⟩, ?_, ?_⟩
    · rw [World.cell?_setCell_other _ _ _ _ (fun e => by simp at e), hb.cell (by simp)]
      simp [go_sem]
    · rw [World.frozen?_setCell, hb.frozen (by simp)]
      simp [go_sem]
  have HG := Lib.hid hg
  clear hg hb hmm hm
  go_enter Try.func13, Try.ntmps13
  go_wp2_with (go_at_call 19; refine (try_any _ _ _ _ (Try.enterBundle1 _) HG).mono ?_; rintro e w' ⟨b, w1, rfl, ⟨rfl, w2, hb, rfl⟩, rfl⟩; have hc2 : w2.cell? ⟨w.heap.size + 1, 0, none⟩ = some (.string ⟨#[]⟩) := (hb.cell (by simp)).trans (by simp [go_sem]); have hz2 : w2.frozen? ⟨w.heap.size + 1, 0, none⟩ = false := (hb.frozen (by simp)).trans (by simp [go_sem]))
  have hb0 : Below w.heap.size w w2 := (((((Below.refl w.heap.size w).alloc (Nat.le_refl _) _).alloc (by simp) _).alloc (by simp; omega) _).trans (hb.mono (by simp; omega)))
  refine bodyPost_ret (v := .string (bundleIn (groupOf l))) (by simp [results, Try.results13, go_sem, hc2]) rfl ⟨rfl, ?_⟩
  exact ((hb0.setCell (by simp) _).setCell (by simp; omega) _).setCell (by simp) _
end Go.Proofs.Ytlbmjfjmbgbpeaa
