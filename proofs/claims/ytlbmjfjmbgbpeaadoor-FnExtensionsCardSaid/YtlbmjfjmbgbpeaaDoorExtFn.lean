/- The thin package's reading of a medium's extensions: names with their numbers as texts, by growing names. -/
import Derived.Test.YtlbmjfjmbgbpeaaDoorExts
import Derived.Test.YtlbmjfjmbgbpeaaDoorDecI
import Derived.Test.YtlbmjfjmbgbpeaaDoorPairs
import Derived.Test.YtlbmjfjmbgbpeaaDoorMid
namespace Go.Proofs.YtlbmjfjmbgbpeaaDoor
open Go.RowKit Go.WideMaps Go.Maps Go.Sort

/-- The number at a key. -/
def numAt {H : Type} (D : DataW H) (k : List UInt8) : Nat := match D.atKey (.string k) (.lit (.int .i64 0)) with | .lit (.int _ n) => n.toNat | _ => 0
theorem numAt_of {H : Type} {D : DataW H} {k : List UInt8} {n : Nat} (h : D.atKey (.string k) (.lit (.int .i64 0)) = .lit (.int .i64 (n : Int))) : numAt D k = n := by
  unfold numAt; rw [h]; simp
/-- A map of texts that holds the numbers' texts at the keys that are no longer to come. -/
def TextsOf {H H' : Type} (Dout : DataW H) (D0 : DataW H') (left : Lit → Bool) : Prop :=
  (∀ x, has Dout (.string x) = (has D0 (.string x) && !left (.string x))) ∧ ∀ x, has Dout (.string x) = true → valAt Dout x = dec (numAt D0 x)
theorem TextsOf.start {H H' : Type} (D0 : DataW H') : TextsOf (.map [] : DataW H) D0 (has D0) := ⟨fun x => by cases has D0 (.string x) <;> rfl, fun x h => by cases h⟩
theorem TextsOf.step {H H' : Type} {Dout : DataW H} {D0 : DataW H'} {left : Lit → Bool} (h : TextsOf Dout D0 left) (hm : IsMap Dout) {x : List UInt8} {n : Nat} (hat : ∀ zd, D0.atKey (.string x) zd = .lit (.int .i64 (n : Int))) :
    TextsOf (Dout.put (.string x) (.lit (.string (dec n).data.toList))) D0 (fun z => left z && !z.sameKey (.string x)) := by
  refine ⟨fun y => ?_, fun y hy => ?_⟩
  · by_cases e : y = x
    · subst e
      rw [has_put_same hm (by exact trivial), has_true_of_atKey hat]
      simp [Lit.sameKey]
    · have e2 : (y == x) = false := by simpa using e
      rw [has_put_other (fun h => e (by injection h)), h.1 y]
      simp [Lit.sameKey, e2]
  · by_cases e : y = x
    · subst e
      rw [numAt_of (hat _)]
      exact valAt_of (atKey_put_same hm (by exact trivial) _ _)
    · rw [has_put_other (fun h => e (by injection h))] at hy
      have := h.2 y hy
      unfold valAt at this ⊢
      rw [atKey_put_other (fun h => e (by injection h))]
      exact this

section
variable {H : Type}
theorem extAt_succ {first k : Nat} {l : List ByteArray} (hk : k < l.length) : extAt H first l (k + 1) = (extAt H first l k).put (.string (uriOf l[k]).data.toList) (.lit (.int .i64 ((first + k : Nat) : Int))) := by
  show (extAt H first l k).put (.string (uriOf (l.getD k ⟨#[]⟩)).data.toList) _ = _
  rw [List.getD_eq_getElem?_getD, List.getElem?_eq_getElem hk]; rfl
theorem isMap_extAt (first : Nat) (l : List ByteArray) : ∀ n, IsMap (extAt H first l n)
  | 0 => ⟨[], rfl⟩
  | n + 1 => (isMap_extAt first l n).put _ _
theorem has_extAt (first : Nat) (l : List ByteArray) (x : List UInt8) : ∀ n, n ≤ l.length → has (extAt H first l n) (.string x) = (l.take n).any fun s => (uriOf s).data.toList == x
  | 0, _ => rfl
  | n + 1, h => by
    rw [extAt_succ (by omega), List.take_succ_eq_append_getElem (by omega), List.any_append]
    by_cases e : (uriOf l[n]).data.toList = x
    · subst e
      rw [has_put_same (isMap_extAt first l n) (by exact trivial)]
      simp
    · rw [has_put_other (fun h => e (by injection h with h; exact h.symm)), has_extAt first l x n (by omega)]
      simp [e]
theorem at_extAt {first : Nat} {l : List ByteArray} (hs : (l.map fun s => (uriOf s).data.toList).Pairwise (· < ·)) (z : DataW H) (i : Nat) (hi : i < l.length) : ∀ n, i < n → n ≤ l.length → (extAt H first l n).atKey (.string (uriOf l[i]).data.toList) z = .lit (.int .i64 ((first + i : Nat) : Int))
  | 0, h, _ => absurd h (Nat.not_lt_zero _)
  | n + 1, h, hn => by
    rw [extAt_succ (by omega)]
    by_cases e : i = n
    · subst e
      exact atKey_put_same (isMap_extAt first l i) (by exact trivial) _ _
    · have hlt : (uriOf l[i]).data.toList < (uriOf l[n]).data.toList := by
        have := List.pairwise_iff_getElem.1 hs i n (by simpa using hi) (by simp; omega) (by omega)
        simpa using this
      rw [atKey_put_other (fun h => by injection h with h; exact absurd (h ▸ hlt) (List.lt_irrefl _)), at_extAt hs z i hi n (by omega) (by omega)]
/-- What is at a key of the map of extensions is a small number. -/
theorem extAt_num {first : Nat} {l : List ByteArray} (hs : (l.map fun s => (uriOf s).data.toList).Pairwise (· < ·)) (hl : first + l.length ≤ 246) {x : List UInt8} {c : Int} (hat : ∀ zd, (extAt H first l l.length).atKey (.string x) zd = .lit (.int .i64 c)) : ∃ n : Nat, c = (n : Int) ∧ n ≤ 246 := by
  have hh := has_true_of_atKey hat
  rw [has_extAt first l x l.length (Nat.le_refl _), List.take_length] at hh
  obtain ⟨s, hm, e⟩ := List.any_eq_true.1 hh
  obtain ⟨i, hi, rfl⟩ := List.getElem_of_mem hm
  have e' : (uriOf l[i]).data.toList = x := by simpa using e
  have h1 := at_extAt (H := H) (first := first) hs (.map []) i hi l.length hi (Nat.le_refl _)
  rw [e', hat] at h1
  injection h1 with h1
  injection h1 with _ h1
  exact ⟨first + i, h1, by omega⟩
end

set_option maxHeartbeats 400000 in
theorem zzExts_any {H : Type} {D : Nat → Prop} (p first : Nat) (kind : ByteArray) (fs : List ByteArray) (l : List ByteArray) (w : World) (hf : 1 ≤ first) (hl : first + l.length ≤ 246) (hw : ∀ s ∈ l, wordB s = true) (hsp : Spaces w) (h : MD D w p kind fs (extAttrs first l)) :
    Calls Tryd.prog 56 #[.pointer (some ⟨p, 0, none⟩)] w fun e w' => e = .returned (.tuple #[.map (some w.heap.size), .nilIface]) ∧ w'.ownsMap Tryd.prog 9 (plainElem (H := H) Tryd.prog 3) w.heap.size l.length (extAt H first l l.length) ∧ Below w.heap.size w w' := by
  have H1 := Lib.hid (exts_any (H := H) p first kind fs l w hf hl hw hsp h)
  clear h hw hsp
  go_enter Tryd.func56, Tryd.ntmps56
  go_wp2_with (go_at_call 73; refine H1.out.mono ?_; rintro e w1 ⟨rfl, hm, hb⟩)
  go_ret2
  exact ⟨rfl, hm, hb⟩

/-- What Extensions' function leaves: the pairs of a map of texts that holds all numbers' texts. -/
def ExtsDone (W : World) (b first : Nat) (l : List ByteArray) (w' : World) : Prop :=
  ∃ (w1 : World) (A : Option Addr) (k m bm : Nat) (Dout : DataW Unit) (wm : World), TextsOf Dout (extAt Unit first l l.length) (fun _ => false) ∧ wm.ownsMap Tryd.prog 9 (plainElem Tryd.prog 9) bm m Dout ∧
    Below W.heap.size W w1 ∧ KVs (W.heap.size ≤ ·) w1 A (pairsOf Dout) ∧ w' = w1.setCell ⟨b, 0, none⟩ (.slice A (pairsOf Dout).length k)

set_option maxHeartbeats 2000000 in
set_option maxRecDepth 100000 in
theorem ext1_any {D D' : Nat → Prop} (mb ob first : Nat) (u : Value) (kind : ByteArray) (fA aA : Option Addr) (fc ac : Nat) (fs l : List ByteArray) (w : World)
    (hfs : fs.length * 16 ≤ 140737488355328) (hf : 1 ≤ first) (hl : first + l.length ≤ 246) (hw : ∀ s ∈ l, wordB s = true) (hs : (l.map fun s => (uriOf s).data.toList).Pairwise (· < ·)) (hsp : Spaces w) (hF : Strs D w fA fs) (hA : KVs D' w aA (extAttrs first l))
    (c0 : w.cell? ⟨mb, 0, none⟩ = some (.string kind)) (c1 : w.cell? ⟨mb, 1, none⟩ = some (.slice fA fs.length fc)) (c2 : w.cell? ⟨mb, 2, none⟩ = some (.slice aA (extAttrs first l).length ac))
    (co : w.cell? ⟨ob, 0, none⟩ = some u) (zo : w.frozen? ⟨ob, 0, none⟩ = false) :
    Calls Tryd.prog 55 #[.pointer (some ⟨mb, 0, none⟩), .pointer (some ⟨ob, 0, none⟩)] w fun e w' => e = .returned (.bool true) ∧ ExtsDone w ob first l w' := by
  have hea := extAttrs_length l first
  have HMD := Lib.hid (medium_any (D := D) (D' := D') kind fA aA fc ac fs (extAttrs first l) w hfs (by rw [hea]; omega) hF hA)
  have HZ := Lib.hid (fun p (w : World) h hm => zzExts_any (H := Unit) (D := (fun b => w.heap.size ≤ b ∨ True)) p first kind fs l w hf hl hw h hm)
  have HSP := Lib.hid hsp
  have HNUM := Lib.hid (fun (x : List UInt8) (c : Int) hat => extAt_num (H := Unit) hs hl (x := x) (c := c) hat)
  have lo := World.block_lt_of_cell? _ _ co
  have hmm := @run_makeMap Tryd.prog
  clear hsp hF hA hea hw hs
  generalize hD0 : extAt Unit first l l.length = D0 at HZ HNUM
  go_enter Tryd.func55, Tryd.ntmps55
  go_wp2_with (first
    | (go_at_call 43; refine HMD.out.mono ?_; rintro e w1 ⟨p, rfl, hm, hb1⟩)
    | (go_at_call 56; refine (HZ.out p _ (HSP.out.below hb1) (hm.wide fun b _ _ => .inr trivial)).mono ?_; rintro e w2 ⟨rfl, hown, hb2⟩)
    | (at_range; refine wpList_range_own _ rfl _ 106 rfl 9 3 Tryd.keyedX Tryd.underlying106 _ w1.heap.size l.length D0 rfl (hown.alloc _) ?_; intro w3 hrg3 hg3 hs3))
  go_frame
  have s1 := hb1.size
  have s2 := hb2.size
  have e3 : (w2.alloc (.map #[] 0)).heap.size = w2.heap.size + 1 := by simp
  rw [e3] at hrg3 hs3 ⊢
  have l1 : w1.heap.size < w2.heap.size := hown.lt
  have hout3 : w3.ownsMap Tryd.prog 9 (plainElem (H := Unit) Tryd.prog 9) w2.heap.size 0 (.map []) := (World.ownsMap_made w2 _ _ _).kept hg3 (by simp)
  have bel3 : Below w.heap.size w w3 := ((below_step hb1 s1 hb2).alloc (by omega) _).grown hg3 (by simp; omega) (fun j hj => by cases hj)
  have hsz0 := hown.size_le
  clear hown hg3 hs3 hmm
  go_loopw [6] (fun _ wr => ∃ (left : Lit → Bool) (cnt m : Nat) (Dout : DataW Unit), wr.ranges Tryd.prog 9 (plainElem Tryd.prog 3) w1.heap.size (w2.heap.size + 1) l.length D0 left cnt ∧ wr.ownsMap Tryd.prog 9 (plainElem Tryd.prog 9) w2.heap.size m Dout ∧ m + cnt ≤ l.length ∧ TextsOf Dout D0 left ∧ Below w.heap.size w wr ∧ w2.heap.size + 1 < wr.heap.size) (fun _ wr => wr.rangeLeft w1.heap.size (w2.heap.size + 1))
  case atStart => exact ⟨_, _, 0, _, hrg3, hout3, by omega, TextsOf.start D0, bel3, hrg3.lt⟩
  case round =>
    obtain ⟨left, cnt, m, Dout, hrg, hout, hmc, hT, hnx, hgt⟩ := hrel
    have HT := Lib.hid hT
    have HOUT := Lib.hid hout
    have HNX := Lib.hid hnx
    have sx := hnx.size
    clear hT hout hnx
    go_wp2_with (at_next; refine wpList_next_ranges _ rfl _ rfl 9 Tryd.keyedX (plainElem Tryd.prog 3) encStr (Value.int .i64) (fun key kl hk => by obtain ⟨x, hx, _⟩ := Maps.keyOf_str Tryd.underlying9 hk; exact ⟨x, hx⟩) (fun v y hv => by obtain ⟨c, rfl, _⟩ := plainElem_int_inv Tryd.underlying3 hv; exact ⟨c, rfl⟩) w1.heap.size (w2.heap.size + 1) l.length _ _ _ rfl hrg ?_ ?_)
    · intro _ hl0
      have hT0 : TextsOf Dout D0 (fun _ => false) := ⟨fun x => by rw [HT.out.1 x, hl0], HT.out.2⟩
      have HT0 := Lib.hid hT0
      have hpf := pairsFn_any w2.heap.size m Dout wr HOUT.out (by have := HOUT.out.size_le; omega)
      have HPF := Lib.hid hpf
      clear hT0 hpf hrg hrg3 hout3
      go_wp2_with (go_at_call 53; refine HPF.out.mono ?_; rintro e w5 ⟨A5, c5, rfl, hk5, hb5⟩; have co5 := kp_of_below hb5 _ _ (kp_of_below HNX.out _ _ co); have zo5 : w5.frozen? ⟨ob, 0, none⟩ = false := (hb5.frozen (by simp; omega)).trans ((HNX.out.frozen (by simp; omega)).trans zo))
      go_ret
      refine ⟨rfl, w5, A5, c5, m, w2.heap.size, Dout, wr, hD0 ▸ HT0.out, HOUT.out, below_step HNX.out sx hb5, hk5.wide fun b hb _ => ?_, rfl⟩
      have hb : _ ≤ b := hb
      show _ ≤ b
      omega
    · intro x c kl yd yp w4 cnt2 hkey hlk hv hat hrg4 hlt hg4 hs4 hen
      obtain ⟨x', ex, rfl, hxl⟩ := Maps.keyOf_str Tryd.underlying9 hkey
      obtain rfl : x = x' := encStr_inj ex
      obtain ⟨c', e', hz, _⟩ := plainElem_int_inv Tryd.underlying3 hv
      cases e'
      cases hz
      obtain ⟨n, rfl, hn⟩ := HNUM.out x c hat
      have hstep := HT.out.step (n := n) HOUT.out.isMap hat
      have HSTEP := Lib.hid hstep
      have hout4 := HOUT.out.kept hg4 (by intro e; injection e with e; omega)
      have HO4 := Lib.hid hout4
      have HR4 := Lib.hid hrg4
      have HDEC := Lib.hid (fun w => decI_any n w (by omega))
      have HKEY := Lib.hid hkey
      have HLT := Lib.hid (show w4.rangeLeft w1.heap.size (w2.heap.size + 1) < wr.rangeLeft w1.heap.size (w2.heap.size + 1) by rw [hrg4.left_eq, hrg.left_eq]; exact hlt)
      have HB4 := Lib.hid (HNX.out.grown hg4 sx (fun j hj => by cases hj; omega))
      have hdz := dec_size n
      have hgs := hg4.size
      clear hstep hout4 hrg4 hrg hkey hv hat hlk hs4 hg4 hrg3 hout3
      go_wp2_with (first
        | (go_at_call 57; refine (HDEC.out _).mono ?_; rintro e w5 ⟨rfl, hb5⟩)
        | (at_mapUpdate; refine wpList_mapUpdate_own _ rfl _ _ _ 104 rfl 9 9 Tryd.keyedS Tryd.underlying104 _ w2.heap.size m _ rfl (HO4.out.kept (grown_of_below hb5 none) (by simp)) (by unfold maxLen; omega) _ _ _ rfl rfl HKEY.out _ [] (plainElem_string Tryd.underlying9 (by unfold maxLen; omega)) ?_; intro w6 hown6 hg6; go_frame))
      have hs5 := hb5.size
      have hrg6 : w6.ranges Tryd.prog 9 (plainElem Tryd.prog 3) w1.heap.size (w2.heap.size + 1) l.length D0 _ cnt2 := (HR4.out.kept (grown_of_below hb5 none) (by simp) (by simp)).kept hg6 (by intro e; injection e with e; omega) (by intro e; injection e with e; omega)
      have hbel6 : Below w.heap.size w w6 := (below_step HB4.out (by omega) hb5).grown hg6 (by omega) (fun j hj => by cases hj; omega)
      have hlt6 : w6.rangeLeft w1.heap.size (w2.heap.size + 1) < wr.rangeLeft w1.heap.size (w2.heap.size + 1) := by rw [hrg6.left_eq, ← HR4.out.left_eq]; exact HLT.out
      have hg6s := hg6.size
      have H6 := Lib.hid hown6
      clear hown6 hg6
      go_roundw
      case rel => exact ⟨_, cnt2, m + 1, _, hrg6, H6.out, by omega, HSTEP.out, hbel6, by omega⟩
      case measure => exact hlt6
end Go.Proofs.YtlbmjfjmbgbpeaaDoor
