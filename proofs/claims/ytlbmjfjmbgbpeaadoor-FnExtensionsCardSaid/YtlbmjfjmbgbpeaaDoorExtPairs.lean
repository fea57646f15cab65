/- The thin package's extensions of a medium: names with their numbers as texts, in the order of the names. -/
import Derived.Test.YtlbmjfjmbgbpeaaDoorExtFn
namespace Go.Proofs.YtlbmjfjmbgbpeaaDoor
open Go.RowKit Go.WideMaps Go.Maps Go.Sort

theorem sorted_rising {l : List (List UInt8)} (hs : l.Pairwise (· < ·)) : l.mergeSort leB = l := by
  have tr : ∀ a b c : List UInt8, leB a b = true → leB b c = true → leB a c = true := fun a b c h1 h2 => by simp only [leB, decide_eq_true_eq] at *; exact List.le_trans h1 h2
  have tot : ∀ a b : List UInt8, (leB a b || leB b a) = true := fun a b => by simp only [leB, Bool.or_eq_true, decide_eq_true_eq]; exact List.le_total a b
  refine List.Perm.eq_of_pairwise (le := fun a b => leB a b = true) (fun a b _ _ h1 h2 => ?_) (List.pairwise_mergeSort tr tot l) (hs.imp fun h => ?_) (List.mergeSort_perm l leB)
  · simp only [leB, decide_eq_true_eq] at h1 h2
    exact List.le_antisymm h1 h2
  · simp only [leB, decide_eq_true_eq]
    exact List.le_of_lt h

/-- The names with their numbers as texts. -/
def extPairs (first : Nat) : List ByteArray → List KV
  | [] => []
  | s :: r => (uriOf s, dec first) :: extPairs (first + 1) r
theorem extPairs_length : ∀ (l : List ByteArray) (first : Nat), (extPairs first l).length = l.length
  | [], _ => rfl
  | s :: r, first => by simp [extPairs, extPairs_length r]
theorem extPairs_get : ∀ (l : List ByteArray) (first k : Nat) (hk : k < l.length), (extPairs first l)[k]? = some (uriOf l[k], dec (first + k))
  | [], _, k, hk => absurd hk (Nat.not_lt_zero _)
  | s :: r, first, 0, _ => rfl
  | s :: r, first, k + 1, hk => by
    have := extPairs_get r (first + 1) k (by simpa using hk)
    rw [show first + (k + 1) = first + 1 + k by omega]
    simpa [extPairs] using this

theorem pairsOf_exts {H H' : Type} {P : Program} {k : TypeId} {R : Value → Option (DataW H × List MemPlace)} {w : World} {b n first : Nat} {l : List ByteArray} {Dout : DataW H} (K : Keyed P k) (hk : P.underlying k = some .string) (hown : w.ownsMap P k R b n Dout)
    (hs : (l.map fun s => (uriOf s).data.toList).Pairwise (· < ·)) (hT : TextsOf Dout (extAt H' first l l.length) (fun _ => false)) : pairsOf Dout = extPairs first l := by
  have hsk : sortedKeys Dout = l.map fun s => (uriOf s).data.toList := by
    obtain ⟨es, hD, hpw, _⟩ := hown.entries K
    obtain ⟨es', hD', hko⟩ := hown.keysOf
    obtain rfl : es = es' := by rw [hD] at hD'; simpa using hD'
    have hp : (l.map fun s => (uriOf s).data.toList).Perm (strKeys Dout) := by
      have hm : ∀ x, x ∈ (l.map fun s => (uriOf s).data.toList) ↔ has Dout (.string x) = true := fun x => by
        rw [hT.1 x, has_extAt first l x l.length (Nat.le_refl _), List.take_length, Bool.not_false, Bool.and_true, List.any_eq_true, List.mem_map]
        constructor
        · rintro ⟨p, hp, rfl⟩; exact ⟨p, hp, by simp⟩
        · rintro ⟨p, hp, h⟩; exact ⟨p, hp, by simpa using h⟩
      rw [hD] at hm ⊢
      exact perm_strKeys hpw (fun p hp => by obtain ⟨v, hv⟩ := hko p hp; obtain ⟨x, _, hx, _⟩ := Maps.keyOf_str hk hv; exact ⟨x, hx⟩) (hs.imp fun h e => absurd (e ▸ h) (List.lt_irrefl _)) hm
    unfold sortedKeys
    rw [← mergeSort_of_perm hp, sorted_rising hs]
  unfold pairsOf keyTexts
  rw [hsk]
  apply List.ext_getElem?
  intro i
  by_cases hi : i < l.length
  · rw [extPairs_get l first i hi]
    simp only [List.getElem?_map, List.getElem?_eq_getElem hi, Option.map_some]
    congr 1
    have hh : has Dout (.string (uriOf l[i]).data.toList) = true := by
      rw [hT.1, has_extAt first l _ l.length (Nat.le_refl _), List.take_length, Bool.not_false, Bool.and_true, List.any_eq_true]
      exact ⟨l[i], List.getElem_mem hi, by simp⟩
    have hv := hT.2 _ hh
    rw [numAt_of (at_extAt (H := H') hs _ i hi l.length hi (Nat.le_refl _))] at hv
    have e : (⟨(uriOf l[i]).data.toList.toArray⟩ : ByteArray) = uriOf l[i] := by simp
    rw [e, hv]
  · rw [List.getElem?_eq_none (by simp; omega), List.getElem?_eq_none (by rw [extPairs_length]; omega)]

theorem Tryd.enterExt1 (cap : Array Value) (w : World) : Sem.run Tryd.prog (callFunc 55 cap) w = .ok (.enter 55 cap) w := by kernel_rfl

/-- What Extensions' function leaves, the list of pairs known. -/
def ExtsLeft (W : World) (b : Nat) (res : List KV) (r : Bool) (w' : World) : Prop := r = true ∧ ∃ w1 A k, Below W.heap.size W w1 ∧ KVs (W.heap.size ≤ ·) w1 A res ∧ w' = w1.setCell ⟨b, 0, none⟩ (.slice A res.length k)

set_option maxHeartbeats 1000000 in
set_option maxRecDepth 100000 in
theorem extsFn_any {D D' : Nat → Prop} (first : Nat) (kind : ByteArray) (fA aA : Option Addr) (fc ac : Nat) (fs l : List ByteArray) (w : World)
    (hfs : fs.length * 16 ≤ 140737488355328) (hf : 1 ≤ first) (hl : first + l.length ≤ 246) (hw : ∀ s ∈ l, wordB s = true) (hs : (l.map fun s => (uriOf s).data.toList).Pairwise (· < ·)) (hsp : Spaces w) (hF : Strs D w fA fs) (hA : KVs D' w aA (extAttrs first l)) :
    Calls Tryd.prog 30 #[.agg #[.string kind, .slice fA fs.length fc, .slice aA (extAttrs first l).length ac]] w fun e w' => ∃ A c, e = .returned (.tuple #[.slice A (extPairs first l).length c, .bool true]) ∧ KVs (w.heap.size ≤ ·) w' A (extPairs first l) ∧ Below w.heap.size w w' := by
  have hmf : ∀ (fn : Fn) (first cap : Array Value) (w : World), (Instr.makeFunc fn first cap).run Tryd.prog w = .ok (.func fn first cap) w := fun _ _ _ _ => rfl
  have b3 : Below w.heap.size w (((w.alloc (.cells #[.string kind, .slice fA fs.length fc, .slice aA (extAttrs first l).length ac] 36)).alloc (.cells #[.slice none 0 0] 27)).alloc (.cells #[.bool false] 4)) := (((Below.refl _ _).alloc (Nat.le_refl _) _).alloc (by simp) _).alloc (by simp; omega) _
  have k3 : Kp w (((w.alloc (.cells #[.string kind, .slice fA fs.length fc, .slice aA (extAttrs first l).length ac] 36)).alloc (.cells #[.slice none 0 0] 27)).alloc (.cells #[.bool false] 4)) := ((Kp.alloc _ _).trans (Kp.alloc _ _)).trans (Kp.alloc _ _)
  have hg0 := ext1_any (D := D) (D' := D') w.heap.size (w.heap.size + 1) first (.slice none 0 0) kind fA aA fc ac fs l (((w.alloc (.cells #[.string kind, .slice fA fs.length fc, .slice aA (extAttrs first l).length ac] 36)).alloc (.cells #[.slice none 0 0] 27)).alloc (.cells #[.bool false] 4)) hfs hf hl hw hs (hsp.below b3) (hF.keep k3) (hA.keep k3)
    (by simp [go_sem]) (by simp [go_sem]) (by simp [go_sem]) (by simp [go_sem]) (by simp [go_sem])
  have hres : ∀ (Dout : DataW Unit) (wm : World) (bm m : Nat), TextsOf Dout (extAt Unit first l l.length) (fun _ => false) → wm.ownsMap Tryd.prog 9 (plainElem Tryd.prog 9) bm m Dout → pairsOf Dout = extPairs first l := fun Dout wm bm m h1 h2 => pairsOf_exts Tryd.keyedX Tryd.underlying9 h2 hs h1
  generalize extPairs first l = res at hres ⊢
  have hg : Calls Tryd.prog 55 #[.pointer (some ⟨w.heap.size, 0, none⟩), .pointer (some ⟨w.heap.size + 1, 0, none⟩)] (((w.alloc (.cells #[.string kind, .slice fA fs.length fc, .slice aA (extAttrs first l).length ac] 36)).alloc (.cells #[.slice none 0 0] 27)).alloc (.cells #[.bool false] 4)) fun e w' => ∃ b, e = .returned (.bool b) ∧
      ExtsLeft (((w.alloc (.cells #[.string kind, .slice fA fs.length fc, .slice aA (extAttrs first l).length ac] 36)).alloc (.cells #[.slice none 0 0] 27)).alloc (.cells #[.bool false] 4)) (w.heap.size + 1) res b w' ∧ w'.cell? ⟨((w.alloc (.cells #[.string kind, .slice fA fs.length fc, .slice aA (extAttrs first l).length ac] 36)).alloc (.cells #[.slice none 0 0] 27)).heap.size, 0, none⟩ = some (.bool false) ∧ w'.frozen? ⟨((w.alloc (.cells #[.string kind, .slice fA fs.length fc, .slice aA (extAttrs first l).length ac] 36)).alloc (.cells #[.slice none 0 0] 27)).heap.size, 0, none⟩ = false := by
    refine hg0.mono ?_
    rintro e w' ⟨rfl, w1, A, k, m, bm, Dout, wm, hT, hown, hb, hk, rfl⟩
    rw [hres Dout wm bm m hT hown] at hk ⊢
    refine ⟨true, rfl, ⟨rfl, w1, A, k, hb, hk, rfl⟩, ?_, ?_⟩
    · rw [World.cell?_setCell_other _ _ _ _ (fun e => by simp at e), hb.cell (by simp)]
      simp [go_sem]
    · rw [World.frozen?_setCell, hb.frozen (by simp)]
      simp [go_sem]
  have HG := Lib.hid hg
  clear hg hg0 hsp hres hw hs b3 k3 hF hA
  go_enter Tryd.func30, Tryd.ntmps30
  go_wp2_with (go_at_call 35; refine (try_any _ _ _ _ (Tryd.enterExt1 _) HG).mono ?_; rintro e w' ⟨b, w1, rfl, ⟨rfl, w2, A, k, hb, hk, rfl⟩, rfl⟩; have hc2 : w2.cell? ⟨w.heap.size + 1, 0, none⟩ = some (.slice none 0 0) := (hb.cell (by simp)).trans (by simp [go_sem]); have hz2 : w2.frozen? ⟨w.heap.size + 1, 0, none⟩ = false := (hb.frozen (by simp)).trans (by simp [go_sem]))
  have hb0 : Below w.heap.size w w2 := (((((Below.refl w.heap.size w).alloc (Nat.le_refl _) _).alloc (by simp) _).alloc (by simp; omega) _).trans (hb.mono (by simp; omega)))
  have r1 := hk.wide (D' := fun b => w.heap.size + 3 ≤ b) fun b hb _ => by have hb : _ ≤ b := hb; simp at hb; omega
  have kk : KpOn (fun b => w.heap.size + 3 ≤ b) w2 (((w2.setCell ⟨w.heap.size + 1, 0, none⟩ (.slice A res.length k)).setCell ⟨w.heap.size + 1 + 1, 0, none⟩ (.bool true)).setCell ⟨w.heap.size + 1, 0, none⟩ (.slice A res.length k)) :=
    (((KpOn.refl _ w2).setCell (by simp; try omega) _).setCell (by simp; try omega) _).setCell (by simp; try omega) _
  have g1 : (w2.setCell ⟨w.heap.size + 1, 0, none⟩ (.slice A res.length k)).cell? ⟨w.heap.size + 1, 0, none⟩ = some (.slice A res.length k) := World.cell?_setCell_same _ _ _ hc2
  have f1 : (((w2.setCell ⟨w.heap.size + 1, 0, none⟩ (.slice A res.length k)).setCell ⟨w.heap.size + 1 + 1, 0, none⟩ (.bool true)).setCell ⟨w.heap.size + 1, 0, none⟩ (.slice A res.length k)).cell? ⟨w.heap.size + 1, 0, none⟩ = some (.slice A res.length k) := World.cell?_setCell_same _ _ _ ((World.cell?_setCell_other _ _ _ _ (fun e => by simp at e)).trans g1)
  have bel : Below w.heap.size w (((w2.setCell ⟨w.heap.size + 1, 0, none⟩ (.slice A res.length k)).setCell ⟨w.heap.size + 1 + 1, 0, none⟩ (.bool true)).setCell ⟨w.heap.size + 1, 0, none⟩ (.slice A res.length k)) := ((hb0.setCell (by simp; try omega) _).setCell (by simp; try omega) _).setCell (by simp; try omega) _
  refine bodyPost_ret (v := .tuple #[.slice A res.length k, .bool true]) (by simp [results, Tryd.results30, go_sem, f1]) rfl ⟨A, k, rfl, ?_, bel⟩
  exact (r1.keepOn kk).wide fun b hb _ => by have hb : _ ≤ b := hb; show _ ≤ b; omega
end Go.Proofs.YtlbmjfjmbgbpeaaDoor
