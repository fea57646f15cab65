/- FnCodecs: plain facts for the law's walk. -/
import Derived.Test.YtkaelnfhohggeaaDoorSpecCodecs
import Derived.Test.YtkaelnfhohggeaaDoorSpecAttrs
import Derived.Test.YtkaelnfhohggeaaDoorPlain
import Derived.Test.YtkaelnfhohggeaaDoorCodAll
namespace Go.Proofs.YtkaelnfhohggeaaDoor
open Go.RowKit

def ofCod (c : Cod) : RCod := ⟨c.name, c.rate, c.chans, c.pay, c.line, c.fb⟩
def toCod (c : RCod) : Cod := ⟨c.name, c.rate.toNat, c.chans.toNat, c.pay.toNat, c.line, c.fb⟩
theorem of_to {c : RCod} (h : RIs c) : ofCod (toCod c) = c := by
  obtain ⟨n, r, ch, p, li, fb⟩ := c
  have h1 := h.rate
  have h2 := h.chans
  have h3 := h.pay
  simp only [ofCod, toCod, RCod.mk.injEq, true_and, and_true] at h1 h2 h3 ⊢
  omega
theorem to_is {c : RCod} (h : RIs c) : CodIs (toCod c) := by
  have h1 := h.rate
  have h2 := h.chans
  have h3 := h.pay
  exact ⟨h.name, ⟨by simp only [toCod]; omega, by simp only [toCod]; omega⟩, by simp only [toCod]; omega, ⟨by simp only [toCod]; omega, by simp only [toCod]; omega⟩, h.len, h.line, h.fb⟩
theorem good_cods {l : List RCod} (h : RGood l) : ∃ m : List Cod, l = m.map ofCod ∧ m.length ≤ 5 ∧ (∀ c ∈ m, CodIs c) ∧ (m.map Cod.pay).Nodup := by
  obtain ⟨h5, h1, h2⟩ := h
  have hall : ∀ c ∈ l, RIs c := fun c hc => by
    obtain ⟨j, hj⟩ := List.getElem?_of_mem hc
    exact h1 j c (List.getElem?_eq_some_iff.1 hj).1 hj
  refine ⟨l.map toCod, ?_, by simpa using h5, fun c hc => ?_, ?_⟩
  · rw [List.map_map]
    refine (List.ext_getElem (by simp) fun i hi hi' => ?_)
    simp only [List.getElem_map, Function.comp]
    exact (of_to (hall _ (List.getElem_mem hi))).symm
  · obtain ⟨x, hx, rfl⟩ := List.mem_map.1 hc
    exact to_is (hall x hx)
  · rw [List.map_map]
    refine List.pairwise_iff_getElem.2 fun i j hi hj hij => ?_
    simp only [List.length_map] at hi hj
    simp only [List.getElem_map, Function.comp, toCod]
    have := h2 i j l[i] l[j] hij hj (List.getElem?_eq_getElem hi) (List.getElem?_eq_getElem hj)
    have a := (hall _ (List.getElem_mem hi)).pay
    have b := (hall _ (List.getElem_mem hj)).pay
    omega

/-- The formats of the first k codecs, and their attributes. -/
def fmtsTo (l : List Cod) (k : Nat) : List ByteArray := (l.take k).map fun c => dec c.pay
def attrsTo (l : List Cod) (k : Nat) : List KV := (allSteps (l.take k)).map stepAttr
theorem fmts_step {l : List Cod} {k : Nat} (hk : k < l.length) : fmtsTo l (k + 1) = fmtsTo l k ++ [dec l[k].pay] := by
  unfold fmtsTo
  rw [List.take_succ_eq_append_getElem hk, List.map_append]; rfl
theorem fmts_length {l : List Cod} {k : Nat} (hk : k ≤ l.length) : (fmtsTo l k).length = k := by unfold fmtsTo; simp [Nat.min_eq_left hk]
theorem attrs_step {l : List Cod} {k : Nat} (hk : k < l.length) : attrsTo l (k + 1) = attrsTo l k ++ codAttrs l[k] := by
  unfold attrsTo allSteps
  rw [List.take_succ_eq_append_getElem hk, List.flatMap_append, List.map_append, codAttrs_steps]
  simp
theorem attrs_length {l : List Cod} (hc : ∀ c ∈ l, CodIs c) (k : Nat) : (attrsTo l k).length ≤ 5 * l.length := by
  unfold attrsTo
  rw [List.length_map]
  have := steps_length (l.take k) (fun c h => hc c (List.mem_of_mem_take h))
  rw [List.length_take] at this
  omega
theorem kvCells_append (a b : List KV) : kvCells (a ++ b) = kvCells a ++ kvCells b := by simp [kvCells]
theorem kvOne (l : List KV) : ∀ u ∈ kvCells l, u.oneCell' = true := fun u hu => by
  obtain ⟨p, _, hp⟩ := List.mem_flatMap.1 hu
  simp at hp
  rcases hp with rfl | rfl <;> rfl
theorem codAttrs_pos (c : Cod) : 0 < (codAttrs c).length := by unfold codAttrs; simp
theorem codAttrs_short {c : Cod} (h : CodIs c) : (codAttrs c).length ≤ 5 := by
  have := h.len
  unfold codAttrs
  split <;> simp <;> omega

/-- The cells of a list that a slice reads as. -/
theorem kvs_news {D : Nat → Prop} {w : World} {A : Option Addr} {l : List KV} (h : KVs D w A l) (hp : 0 < l.length) : ∃ b o, A = some ⟨b, o, none⟩ ∧ D b ∧ b < w.heap.size ∧ ∀ j u, (kvCells l)[j]? = some u → w.cell? ((⟨b, o, none⟩ : Addr).add j) = some u := by
  obtain ⟨b, o, rfl, hD, c0, _⟩ := h 0 l[0] (List.getElem?_eq_getElem hp)
  refine ⟨b, o, rfl, hD, World.block_lt_of_cell? _ _ c0, fun j u hu => ?_⟩
  have hj : j < l.length * 2 := by have := (List.getElem?_eq_some_iff.1 hu).1; rwa [kvCells_length] at this
  have hi : j / 2 < l.length := by omega
  obtain ⟨b', o', e, _, d0, d1⟩ := h (j / 2) l[j / 2] (List.getElem?_eq_getElem hi)
  cases e
  rw [Addr.add_lit]
  rcases (show j = j / 2 * 2 ∨ j = j / 2 * 2 + 1 by omega) with e | e
  · have := kvCells_get0 l (j / 2) _ (List.getElem?_eq_getElem hi)
    rw [← e, hu] at this
    rw [← e] at d0
    rw [d0, ← this]
  · have := kvCells_get1 l (j / 2) _ (List.getElem?_eq_getElem hi)
    rw [← e, hu] at this
    rw [Nat.add_assoc, ← e] at d1
    rw [d1, ← this]

/-- Two rows of different elements are different blocks. -/
theorem rows_apart {w : World} {b1 b2 : Nat} {e1 e2 : TypeId} {s1 s2 : Nat} {v1 v2 : Value} {n1 n2 : Nat} {x1 x2 : List Value} (h1 : w.ownsRow b1 e1 s1 v1 n1 x1) (h2 : w.ownsRow b2 e2 s2 v2 n2 x2) (hne : e1 ≠ e2) : v1.ownBlock = none ∨ v1.ownBlock ≠ v2.ownBlock := by
  rcases h1.2 with ⟨rfl, _⟩ | ⟨g, cap, cur, rfl, _, hg, _⟩
  · exact .inl rfl
  · exact .inr (row_ne_other h2 hg hne)

/-- Where the law's building loop stands: k1 formats, k2 codecs' attributes; the medium's block is the first one new to w2. -/
structure CodSt (w2 W : World) (l : List Cod) (k1 k2 : Nat) (fv av : Value) : Prop where
  m0 : W.cell? ⟨w2.heap.size, 0, none⟩ = some (.string ⟨#[97, 117, 100, 105, 111]⟩)
  m1 : W.cell? ⟨w2.heap.size, 1, none⟩ = some fv
  m2 : W.cell? ⟨w2.heap.size, 2, none⟩ = some av
  z1 : W.frozen? ⟨w2.heap.size, 1, none⟩ = false
  z2 : W.frozen? ⟨w2.heap.size, 2, none⟩ = false
  of : W.ownsRow (w2.heap.size + 1) 9 1 fv k1 ((fmtsTo l k1).map Value.string)
  oa : W.ownsRow (w2.heap.size + 1) 42 2 av (attrsTo l k2).length (kvCells (attrsTo l k2))
  hb : Below w2.heap.size w2 W
section
variable {w2 W W' : World} {l : List Cod} {k1 k2 : Nat} {fv av : Value}
theorem CodSt.lt (h : CodSt w2 W l k1 k2 fv av) : w2.heap.size < W.heap.size := World.block_lt_of_cell? _ _ h.m0
theorem CodSt.neF (h : CodSt w2 W l k1 k2 fv av) : some w2.heap.size ≠ fv.ownBlock := fun e => by have := (h.of.lt _ e.symm).1; omega
theorem CodSt.neA (h : CodSt w2 W l k1 k2 fv av) : some w2.heap.size ≠ av.ownBlock := fun e => by have := (h.oa.lt _ e.symm).1; omega
theorem CodSt.below (h : CodSt w2 W l k1 k2 fv av) (hb : Below W.heap.size W W') : CodSt w2 W' l k1 k2 fv av := by
  have hl := h.lt
  exact ⟨(hb.cell hl).trans h.m0, (hb.cell hl).trans h.m1, (hb.cell hl).trans h.m2, (hb.frozen hl).trans h.z1, (hb.frozen hl).trans h.z2, own_below h.of hb, own_below h.oa hb, h.hb.trans (hb.mono (Nat.le_of_lt hl))⟩
theorem CodSt.drew (h : CodSt w2 W l k1 k2 fv av) : CodSt w2 W.drew l k1 k2 fv av := ⟨h.m0, h.m1, h.m2, h.z1, h.z2, h.of.drew, h.oa.drew, h.hb.drew⟩
theorem CodSt.alloc (h : CodSt w2 W l k1 k2 fv av) (o : Obj) : CodSt w2 (W.alloc o) l k1 k2 fv av := h.below ((Below.refl _ _).alloc (Nat.le_refl _) o)
theorem CodSt.fmt (h : CodSt w2 W l k1 k2 fv av) {gg cap : Nat} (hg : W.grownBy W' fv.ownBlock) (ho : W'.ownsRow (w2.heap.size + 1) 9 1 (.slice (some ⟨gg, 0, none⟩) (k1 + 1) cap) (k1 + 1) ((fmtsTo l (k1 + 1)).map Value.string)) :
    CodSt w2 (W'.setCell ⟨w2.heap.size, 1, none⟩ (.slice (some ⟨gg, 0, none⟩) (k1 + 1) cap)) l (k1 + 1) k2 (.slice (some ⟨gg, 0, none⟩) (k1 + 1) cap) av := by
  have hl := h.lt
  have hne := h.neF
  have c1 := (hg.cell_far ⟨w2.heap.size, 1, none⟩ hl hne).trans h.m1
  have ap := rows_apart h.oa h.of (by decide)
  refine ⟨?_, World.cell?_setCell_same _ _ _ c1, ?_, ?_, ?_, ownsRow_setCell_below ho (by show w2.heap.size < w2.heap.size + 1; omega) _, ownsRow_setCell_below (h.oa.kept hg ap) (by show w2.heap.size < w2.heap.size + 1; omega) _, ((h.hb.grown hg (Nat.le_of_lt hl) (fun j hj => by have := (h.of.lt j hj).1; omega)).setCell (Nat.le_refl _) _)⟩
  · exact (World.cell?_setCell_other _ _ _ _ (fun e => by simp at e)).trans ((hg.cell_far ⟨w2.heap.size, 0, none⟩ hl hne).trans h.m0)
  · exact (World.cell?_setCell_other _ _ _ _ (fun e => by simp at e)).trans ((hg.cell_far ⟨w2.heap.size, 2, none⟩ hl hne).trans h.m2)
  · rw [World.frozen?_setCell]; exact (hg.frozen_far ⟨w2.heap.size, 1, none⟩ hl hne).trans h.z1
  · rw [World.frozen?_setCell]; exact (hg.frozen_far ⟨w2.heap.size, 2, none⟩ hl hne).trans h.z2
theorem CodSt.att (h : CodSt w2 W l k1 k2 fv av) {gg n cap : Nat} (hg : W.grownBy W' av.ownBlock) (hn : n = (attrsTo l (k2 + 1)).length) (ho : W'.ownsRow (w2.heap.size + 1) 42 2 (.slice (some ⟨gg, 0, none⟩) n cap) n (kvCells (attrsTo l (k2 + 1)))) :
    CodSt w2 (W'.setCell ⟨w2.heap.size, 2, none⟩ (.slice (some ⟨gg, 0, none⟩) n cap)) l k1 (k2 + 1) fv (.slice (some ⟨gg, 0, none⟩) n cap) := by
  subst hn
  have hl := h.lt
  have hne := h.neA
  have c2 := (hg.cell_far ⟨w2.heap.size, 2, none⟩ hl hne).trans h.m2
  have ap := rows_apart h.of h.oa (by decide)
  refine ⟨?_, ?_, World.cell?_setCell_same _ _ _ c2, ?_, ?_, ownsRow_setCell_below (h.of.kept hg ap) (by show w2.heap.size < w2.heap.size + 1; omega) _, ownsRow_setCell_below ho (by show w2.heap.size < w2.heap.size + 1; omega) _, ((h.hb.grown hg (Nat.le_of_lt hl) (fun j hj => by have := (h.oa.lt j hj).1; omega)).setCell (Nat.le_refl _) _)⟩
  · exact (World.cell?_setCell_other _ _ _ _ (fun e => by simp at e)).trans ((hg.cell_far ⟨w2.heap.size, 0, none⟩ hl hne).trans h.m0)
  · exact (World.cell?_setCell_other _ _ _ _ (fun e => by simp at e)).trans ((hg.cell_far ⟨w2.heap.size, 1, none⟩ hl hne).trans h.m1)
  · rw [World.frozen?_setCell]; exact (hg.frozen_far ⟨w2.heap.size, 1, none⟩ hl hne).trans h.z1
  · rw [World.frozen?_setCell]; exact (hg.frozen_far ⟨w2.heap.size, 2, none⟩ hl hne).trans h.z2
end
/-- A block of another element type than a row's is none of its blocks. -/
theorem blk_ne_row {w : World} {base : Nat} {e : TypeId} {size : Nat} {v : Value} {n : Nat} {xs : List Value} {b : Nat} {cs : Array Value} {t : TypeId} {fr : Nat × Nat} (h : w.ownsRow base e size v n xs) (hb : w.heap[b]? = some (.cells cs t fr)) (hne : t ≠ e) : some b ≠ v.ownBlock := row_ne_other h hb hne
/-- Block b holds these cells, of elements of this type. -/
def BlkT (w : World) (b : Nat) (cs : List Value) (t : TypeId) : Prop := w.heap[b]? = some (.cells cs.toArray t (0, 0))
theorem BlkT.blk {w : World} {b : Nat} {cs : List Value} {t : TypeId} (h : BlkT w b cs t) : Blk w b cs := ⟨t, h⟩
theorem BlkT.new (w : World) (cs : List Value) (t : TypeId) : BlkT (w.alloc (.cells cs.toArray t)) w.heap.size cs t := heap_alloc_new w _
theorem BlkT.below {w w' : World} {b : Nat} {cs : List Value} {t : TypeId} (h : BlkT w b cs t) (hb : Below w.heap.size w w') : BlkT w' b cs t := grown_block (grown_of_below hb none) _ _ h (by simp)
theorem BlkT.grown {w w' : World} {row : Option Nat} {b : Nat} {cs : List Value} {t : TypeId} (h : BlkT w b cs t) (hg : w.grownBy w' row) (hne : some b ≠ row) : BlkT w' b cs t := grown_block hg _ _ h hne
theorem BlkT.set {w : World} {b : Nat} {cs : List Value} {t : TypeId} (h : BlkT w b cs t) {a : Addr} (v : Value) (hne : b ≠ a.block) : BlkT (w.setCell a v) b cs t := by
  unfold BlkT at h ⊢
  rw [← h]
  unfold World.setCell
  simp [Array.getElem?_modify, Ne.symm hne]
theorem crowsOf_length (l : List Cod) (fbs : Nat → Value) : ∀ (n : Nat), n ≤ l.length → (crowsOf l fbs n).length = n * 6
  | 0, _ => rfl
  | n + 1, h => by
    simp only [crowsOf, List.getElem?_eq_getElem (show n < l.length by omega), List.length_append, crowsOf_length l fbs n (by omega)]
    simp [codRow]; omega
theorem crowsOf_get (l : List Cod) (fbs : Nat → Value) (k j : Nat) (hj : j < 6) (hk : k < l.length) : ∀ (n : Nat), k < n → n ≤ l.length → (crowsOf l fbs n)[k * 6 + j]? = (codRow l[k] (fbs k))[j]?
  | n + 1, h, hn => by
    have hl := crowsOf_length l fbs n (by omega)
    simp only [crowsOf, List.getElem?_eq_getElem (show n < l.length by omega)]
    by_cases e : k = n
    · subst e
      rw [List.getElem?_append_right (by omega), hl]
      congr 1
      omega
    · rw [List.getElem?_append_left (by omega)]
      exact crowsOf_get l fbs k j hj hk n (by omega) (by omega)
/-- The cells of codec k, as Codecs has answered. -/
theorem read_cells {w : World} {B : Nat} {l : List Cod} {v : Value} (h : CodecsRead w B l v) {k : Nat} (hk : k < l.length) : ∃ g vc A7 k7, v = .slice (some ⟨g, 0, none⟩) l.length vc ∧ (∀ j u, ([.string (audioB l[k]), .int .i64 l[k].rate, .int .i64 l[k].chans, .string l[k].line, .slice A7 l[k].fb.length k7, .int .i64 l[k].pay] : List Value)[j]? = some u → w.cell? ⟨g, k * 6 + j, none⟩ = some u) ∧ KVs (fun _ => True) w A7 l[k].fb := by
  obtain ⟨fbs, hrow, hfb⟩ := h
  obtain ⟨A7, k7, e7, hkv⟩ := hfb k hk
  obtain ⟨g, vc, rfl, _, _⟩ := hrow.form (by omega)
  refine ⟨g, vc, A7, k7, rfl, fun j u hu => ?_, hkv.wide fun _ _ _ => trivial⟩
  have hj : j < 6 := by have := (List.getElem?_eq_some_iff.1 hu).1; simpa using this
  have hr := crowsOf_get l fbs k j hj hk l.length hk (Nat.le_refl _)
  have e : (codRow l[k] (fbs k))[j]? = some u := by rw [e7]; exact hu
  rw [e] at hr
  have := @World.ownsRow.cells _ _ _ _ _ _ _ hrow g rfl _ _ hr
  rwa [add_at] at this
theorem fmts_all (l : List Cod) : fmtsTo l l.length = l.map fun c => dec c.pay := by unfold fmtsTo; rw [List.take_length]
theorem attrs_all (l : List Cod) : attrsTo l l.length = (allSteps l).map stepAttr := by unfold attrsTo; rw [List.take_length]
theorem audioB_eq (c : Cod) : audioB c = ⟨#[97, 117, 100, 105, 111, 47]⟩ ++ c.name := by
  unfold audioB
  congr 1
end Go.Proofs.YtkaelnfhohggeaaDoor
