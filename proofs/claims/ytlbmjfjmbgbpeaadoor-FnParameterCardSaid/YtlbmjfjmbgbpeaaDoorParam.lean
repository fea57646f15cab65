/- The thin package's parameter of a line. -/
import Derived.Test.YtlbmjfjmbgbpeaaDoorGeneric
namespace Go.Proofs.YtlbmjfjmbgbpeaaDoor
open Go.RowKit Go.WideMaps Go.Maps

set_option maxHeartbeats 1000000 in
theorem genParam_any {H : Type} {B : Nat} (g : Nat) (mime : ByteArray) (r c : Int) (n : Nat) (D : DataW H) (key : ByteArray) (w : World) (hk : key.size ≤ maxLen) (h : GenAt B w g mime r c n D) :
    Calls Tryd.prog 229 #[.pointer (some ⟨g, 0, none⟩), .string key] w fun e w' => e = .returned (.tuple #[.string (valAt D key.data.toList), .bool (Maps.has D (.string key.data.toList))]) ∧ w = w' := by
  obtain ⟨b, _, c3, hm⟩ := h.mp
  have HM := Lib.hid hm
  have hkey : keyOf Tryd.prog 9 (.string key) = some (.string key.data.toList) := keyOf_string_mk Tryd.underlying9 hk
  have HKEY := Lib.hid hkey
  clear hm hkey h
  go_enter Tryd.func229, Tryd.ntmps229
  go_wp2_with (at_lookup; refine wpList_lookup_own_ok_str _ rfl _ _ 104 rfl 9 9 Tryd.keyedS Tryd.underlying104 Tryd.underlying9 (Tryd.zeroS _) b n D rfl HM.out _ _ rfl HKEY.out ?_; intro vs hvs hvl; have hva := valAt_of hvs; clear hvs; have HVA := Lib.hid hva; clear hva)
  go_ret2
  exact ⟨by rw [HVA.out]; rfl, rfl⟩

/-- What Parameter's function leaves: the value in the variable in block b, all else new. -/
def ParamDone (W : World) (b : Nat) (s : ByteArray) (w' : World) : Prop := ∃ w1, Below W.heap.size W w1 ∧ w' = w1.setCell ⟨b, 0, none⟩ (.string s)

set_option maxHeartbeats 1000000 in
set_option maxRecDepth 100000 in
theorem param1_any {H : Type} (fb kb sb : Nat) (u : Value) (mime line key : ByteArray) (r c : Int) (n : Nat) (D : DataW H) (w : World) (hr : 1 ≤ r) (hr2 : r ≤ 200000) (hc : 1 ≤ c) (hc2 : c ≤ 100) (hk : otherKind mime = true) (hp : ParsesTo line n D) (hkz : key.size ≤ maxLen) (hsp : Spaces w)
    (c0 : w.cell? ⟨fb, 0, none⟩ = some (.string mime)) (c1 : w.cell? ⟨fb, 1, none⟩ = some (.int .i64 r)) (c2 : w.cell? ⟨fb, 2, none⟩ = some (.int .i64 c)) (c3 : w.cell? ⟨fb, 3, none⟩ = some (.string line))
    (ck : w.cell? ⟨kb, 0, none⟩ = some (.string key)) (cs : w.cell? ⟨sb, 0, none⟩ = some u) (zs : w.frozen? ⟨sb, 0, none⟩ = false) :
    Calls Tryd.prog 46 #[.pointer (some ⟨fb, 0, none⟩), .pointer (some ⟨kb, 0, none⟩), .pointer (some ⟨sb, 0, none⟩)] w fun e w' => e = .returned (.bool (Maps.has D (.string key.data.toList))) ∧ ParamDone w sb (valAt D key.data.toList) w' := by
  have H1 := Lib.hid (parsed_any mime line r c n D w hr hr2 hc hc2 hk hp hsp)
  have H2 := Lib.hid (fun (B g : Nat) w1 h => genParam_any (B := B) g mime r c n D key w1 hkz h)
  have ls := World.block_lt_of_cell? _ _ cs
  have hnil : ∀ (a : Addr) (w : World), (nilAhead 433 155 (.pointer (some a)) "Parameter").run Tryd.prog w = .ok (some false) w := fun _ _ => by kernel_rfl
  have hmet : ∀ (a : Addr) (w : World), (method 433 155 (.pointer (some a)) "Parameter").run Tryd.prog w = .ok (229, .pointer (some a)) w := fun _ _ => by kernel_rfl
  clear hk hp hsp
  go_enter Tryd.func46, Tryd.ntmps46
  go_wp2_with (first
    | (go_at_call 47; refine H1.out.mono ?_; rintro e w1 ⟨g, rfl, hg, hb1⟩; have ck1 := kp_of_below hb1 _ _ ck; have cs1 := kp_of_below hb1 _ _ cs; have zs1 : w1.frozen? ⟨sb, 0, none⟩ = false := (hb1.frozen ls).trans zs)
    | (go_at_call 229; refine (H2.out _ _ _ hg).mono ?_; rintro e w2 ⟨rfl, rfl⟩))
  go_ret
  exact ⟨rfl, w1, hb1, rfl⟩

theorem Tryd.enterParam1 (cap : Array Value) (w : World) : Sem.run Tryd.prog (callFunc 46 cap) w = .ok (.enter 46 cap) w := by kernel_rfl

/-- What Parameter's function leaves, with its answer. -/
def ParamLeft (W : World) (b : Nat) (is : Bool) (s : ByteArray) (r : Bool) (w' : World) : Prop := r = is ∧ ParamDone W b s w'

set_option maxHeartbeats 1000000 in
set_option maxRecDepth 100000 in
/-- A parameter of a line of no kind of its own. -/
theorem paramFn_any {H : Type} (mime line key : ByteArray) (r c : Int) (n : Nat) (D : DataW H) (w : World) (hr : 1 ≤ r) (hr2 : r ≤ 200000) (hc : 1 ≤ c) (hc2 : c ≤ 100) (hk : otherKind mime = true) (hp : ParsesTo line n D) (hkz : key.size ≤ maxLen) (hsp : Spaces w)
    (hv : Maps.has D (.string key.data.toList) = false → valAt D key.data.toList = ⟨#[]⟩) :
    Calls Tryd.prog 20 #[.agg #[.string mime, .int .i64 r, .int .i64 c, .string line], .string key] w fun e w' => e = .returned (.tuple #[.string (valAt D key.data.toList), .bool (Maps.has D (.string key.data.toList))]) ∧ Below w.heap.size w w' := by
  have hmf : ∀ (fn : Fn) (first cap : Array Value) (w : World), (Instr.makeFunc fn first cap).run Tryd.prog w = .ok (.func fn first cap) w := fun _ _ _ _ => rfl
  have hg0 : ∀ w0, Spaces w0 → ∀ (fb kb sb : Nat) (u : Value), w0.cell? ⟨fb, 0, none⟩ = some (.string mime) → w0.cell? ⟨fb, 1, none⟩ = some (.int .i64 r) → w0.cell? ⟨fb, 2, none⟩ = some (.int .i64 c) → w0.cell? ⟨fb, 3, none⟩ = some (.string line) →
      w0.cell? ⟨kb, 0, none⟩ = some (.string key) → w0.cell? ⟨sb, 0, none⟩ = some u → w0.frozen? ⟨sb, 0, none⟩ = false →
      Calls Tryd.prog 46 #[.pointer (some ⟨fb, 0, none⟩), .pointer (some ⟨kb, 0, none⟩), .pointer (some ⟨sb, 0, none⟩)] w0 fun e w' => e = .returned (.bool (Maps.has D (.string key.data.toList))) ∧ ParamDone w0 sb (valAt D key.data.toList) w' :=
    fun w0 hs fb kb sb u h0 h1 h2 h3 h4 h5 h6 => param1_any fb kb sb u mime line key r c n D w0 hr hr2 hc hc2 hk hp hkz hs h0 h1 h2 h3 h4 h5 h6
  generalize Maps.has D (.string key.data.toList) = is at hg0 hv ⊢
  generalize valAt D key.data.toList = s at hg0 hv ⊢
  have hg : Calls Tryd.prog 46 #[.pointer (some ⟨w.heap.size, 0, none⟩), .pointer (some ⟨w.heap.size + 1, 0, none⟩), .pointer (some ⟨w.heap.size + 1 + 1, 0, none⟩)] ((((w.alloc (.cells #[.string mime, .int .i64 r, .int .i64 c, .string line] 50)).alloc (.cells #[.string key] 9)).alloc (.cells #[.string ⟨#[]⟩] 9)).alloc (.cells #[.bool false] 4)) fun e w' => ∃ b, e = .returned (.bool b) ∧
      ParamLeft ((((w.alloc (.cells #[.string mime, .int .i64 r, .int .i64 c, .string line] 50)).alloc (.cells #[.string key] 9)).alloc (.cells #[.string ⟨#[]⟩] 9)).alloc (.cells #[.bool false] 4)) (w.heap.size + 1 + 1) is s b w' ∧ w'.cell? ⟨(((w.alloc (.cells #[.string mime, .int .i64 r, .int .i64 c, .string line] 50)).alloc (.cells #[.string key] 9)).alloc (.cells #[.string ⟨#[]⟩] 9)).heap.size, 0, none⟩ = some (.bool false) ∧ w'.frozen? ⟨(((w.alloc (.cells #[.string mime, .int .i64 r, .int .i64 c, .string line] 50)).alloc (.cells #[.string key] 9)).alloc (.cells #[.string ⟨#[]⟩] 9)).heap.size, 0, none⟩ = false := by
    have b4 : Below w.heap.size w ((((w.alloc (.cells #[.string mime, .int .i64 r, .int .i64 c, .string line] 50)).alloc (.cells #[.string key] 9)).alloc (.cells #[.string ⟨#[]⟩] 9)).alloc (.cells #[.bool false] 4)) := ((((Below.refl _ _).alloc (Nat.le_refl _) _).alloc (by simp) _).alloc (by simp; omega) _).alloc (by simp; omega) _
    refine (hg0 _ (hsp.below b4) w.heap.size (w.heap.size + 1) (w.heap.size + 1 + 1) (.string ⟨#[]⟩) (by simp [go_sem]) (by simp [go_sem]) (by simp [go_sem]) (by simp [go_sem]) (by simp [go_sem]) (by simp [go_sem]) (by simp [go_sem])).mono ?_
    rintro e w' ⟨rfl, w1, hb, rfl⟩
    refine ⟨is, rfl, ⟨rfl, w1, hb, rfl⟩, ?_, ?_⟩
    · rw [World.cell?_setCell_other _ _ _ _ (fun e => by simp at e), hb.cell (by simp)]
      simp [go_sem]
    · rw [World.frozen?_setCell, hb.frozen (by simp)]
      simp [go_sem]
  have HG := Lib.hid hg
  have HV := Lib.hid hv
  clear hg hsp hg0 hk hp hv
  cases is with
  | false =>
    have HS := Lib.hid (HV.out rfl)
    go_enter Tryd.func20, Tryd.ntmps20
    go_wp2_with (go_at_call 35; refine (try_any _ _ _ _ (Tryd.enterParam1 _) HG).mono ?_; rintro e w' ⟨b, w1, rfl, ⟨rfl, w2, hb, rfl⟩, rfl⟩; have hc2 : w2.cell? ⟨w.heap.size + 1 + 1, 0, none⟩ = some (.string ⟨#[]⟩) := (hb.cell (by simp)).trans (by simp [go_sem]); have hz2 : w2.frozen? ⟨w.heap.size + 1 + 1, 0, none⟩ = false := (hb.frozen (by simp)).trans (by simp [go_sem]))
    have hb0 : Below w.heap.size w w2 := ((((((Below.refl w.heap.size w).alloc (Nat.le_refl _) _).alloc (by simp) _).alloc (by simp; omega) _).alloc (by simp; omega) _).trans (hb.mono (by simp; omega)))
    have g1 : (w2.setCell ⟨w.heap.size + 1 + 1, 0, none⟩ (.string s)).cell? ⟨w.heap.size + 1 + 1, 0, none⟩ = some (.string s) := World.cell?_setCell_same _ _ _ hc2
    have f1 : (((((w2.setCell ⟨w.heap.size + 1 + 1, 0, none⟩ (.string s)).setCell ⟨w.heap.size + 1 + 1 + 1, 0, none⟩ (.bool false)))).setCell ⟨w.heap.size + 1 + 1, 0, none⟩ (.string ⟨#[]⟩)).cell? ⟨w.heap.size + 1 + 1, 0, none⟩ = some (.string ⟨#[]⟩) := World.cell?_setCell_same _ _ _ ((World.cell?_setCell_other _ _ _ _ (fun e => by simp at e)).trans g1)
    have bel : Below w.heap.size w (((((w2.setCell ⟨w.heap.size + 1 + 1, 0, none⟩ (.string s)).setCell ⟨w.heap.size + 1 + 1 + 1, 0, none⟩ (.bool false)))).setCell ⟨w.heap.size + 1 + 1, 0, none⟩ (.string ⟨#[]⟩)) := ((hb0.setCell (by simp; try omega) _).setCell (by simp; try omega) _).setCell (by simp; try omega) _
    refine bodyPost_ret (v := .tuple #[.string ⟨#[]⟩, .bool false]) (by simp [results, Tryd.results20, go_sem, f1]) rfl ⟨by rw [HS.out], bel⟩
  | true =>
    go_enter Tryd.func20, Tryd.ntmps20
    go_wp2_with (go_at_call 35; refine (try_any _ _ _ _ (Tryd.enterParam1 _) HG).mono ?_; rintro e w' ⟨b, w1, rfl, ⟨rfl, w2, hb, rfl⟩, rfl⟩; have hc2 : w2.cell? ⟨w.heap.size + 1 + 1, 0, none⟩ = some (.string ⟨#[]⟩) := (hb.cell (by simp)).trans (by simp [go_sem]); have hz2 : w2.frozen? ⟨w.heap.size + 1 + 1, 0, none⟩ = false := (hb.frozen (by simp)).trans (by simp [go_sem]))
    have hb0 : Below w.heap.size w w2 := ((((((Below.refl w.heap.size w).alloc (Nat.le_refl _) _).alloc (by simp) _).alloc (by simp; omega) _).alloc (by simp; omega) _).trans (hb.mono (by simp; omega)))
    have g1 : (w2.setCell ⟨w.heap.size + 1 + 1, 0, none⟩ (.string s)).cell? ⟨w.heap.size + 1 + 1, 0, none⟩ = some (.string s) := World.cell?_setCell_same _ _ _ hc2
    have f1 : ((((w2.setCell ⟨w.heap.size + 1 + 1, 0, none⟩ (.string s)).setCell ⟨w.heap.size + 1 + 1 + 1, 0, none⟩ (.bool true))).setCell ⟨w.heap.size + 1 + 1, 0, none⟩ (.string s)).cell? ⟨w.heap.size + 1 + 1, 0, none⟩ = some (.string s) := World.cell?_setCell_same _ _ _ ((World.cell?_setCell_other _ _ _ _ (fun e => by simp at e)).trans g1)
    have bel : Below w.heap.size w ((((w2.setCell ⟨w.heap.size + 1 + 1, 0, none⟩ (.string s)).setCell ⟨w.heap.size + 1 + 1 + 1, 0, none⟩ (.bool true))).setCell ⟨w.heap.size + 1 + 1, 0, none⟩ (.string s)) := ((hb0.setCell (by simp; try omega) _).setCell (by simp; try omega) _).setCell (by simp; try omega) _
    refine bodyPost_ret (v := .tuple #[.string s, .bool true]) (by simp [results, Tryd.results20, go_sem, f1]) rfl ⟨rfl, bel⟩
end Go.Proofs.YtlbmjfjmbgbpeaaDoor
