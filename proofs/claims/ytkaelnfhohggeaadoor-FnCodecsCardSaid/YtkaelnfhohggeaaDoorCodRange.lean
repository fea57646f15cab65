/- A store, in the round of a range over a map, of what the map holds at the key at hand: nothing turns. -/
import Derived.Test.YtkaelnfhohggeaaDoorCodMap
namespace Go.Proofs.YtkaelnfhohggeaaDoor
open Go.RowKit Go.Maps Go.WideShapes Go.ChangeMaps
open Go.WideElems (Fit rg rd rd_key rd_val rg_of)

theorem setBlock_same {w : World} {b : Nat} {o : Obj} (h : w.heap[b]? = some o) : setBlock w b o = w := by
  have hb : b < w.heap.size := by by_cases hl : b < w.heap.size; exact hl; rw [Array.getElem?_eq_none (by omega)] at h; cases h
  rw [Array.getElem?_eq_getElem hb] at h
  injection h with h
  have e : w.heap.setIfInBounds b o = w.heap := by
    apply Array.ext
    · simp
    · intro i h1 h2
      rw [Array.getElem_setIfInBounds]
      split
      · rename_i e; subst e; exact h.symm
      · rfl
  unfold setBlock
  rw [e]

set_option maxRecDepth 100000 in
theorem store_same {w : World} {b r n cnt : Nat} {D : DataW Value} {left : Lit → Bool} (h : w.ranges Tryd.prog 5 rawElem b r n D left cnt)
    {key v : Value} {kl : Lit} (hkey : keyOf Tryd.prog 5 key = some kl) (hat : ∀ zd, D.atKey kl zd = .held v) : (Instr.mapUpdate 96 (.map (some b)) key v).run Tryd.prog w = .ok () w := by
  have K := Tryd.keyedB
  obtain ⟨es, clock, since, seen, c0, hb, F, hs, rfl, _⟩ := h
  have hat' := atKey_sorted (es.toList.map (rg Tryd.prog 5 rawElem)) (Maps.fit_rising K F) kl (K.key hkey)
  rcases K.find w hkey es.toList F.keys with ⟨h1, h2⟩ | ⟨j, e0, h1, h2, h3⟩
  · exfalso
    have e := hat .nil
    rw [hat'.1 (fun p hp e1 => ?_)] at e
    · cases e
    · obtain ⟨x, hx, rfl⟩ := List.mem_map.1 hp
      obtain ⟨y, hy⟩ := F.reads x hx
      have m1 := rd_key hy
      rw [rg_of hy] at e1
      rw [e1] at m1
      exact h2 x hx (K.inj m1 hkey)
  · have hm0 : e0 ∈ es.toList := List.mem_of_getElem? h2
    obtain ⟨y0, hy0⟩ := F.reads e0 hm0
    obtain ⟨zv, hzv, hd⟩ := rd_val hy0
    have m0 := rd_key hy0
    rw [h3, hkey] at m0
    have e := hat .nil
    rw [hat'.2 (rg Tryd.prog 5 rawElem e0) (List.mem_map.2 ⟨e0, hm0, rfl⟩) (by rw [rg_of hy0]; exact (Option.some.inj m0).symm), rg_of hy0] at e
    have hz : (DataW.held e0.val, ([] : List MemPlace)) = zv := Option.some.inj hzv
    have ev : e0.val = v := by
      have e : y0.2 = DataW.held v := e
      rw [hd, ← hz] at e
      exact DataW.held.inj e
    have hj : es[j]? = some e0 := by simpa using h2
    have hmod : es.modify j (fun e' => { e' with key := key, val := v }) = es := by
      apply Array.ext
      · simp
      · intro i h4 h5
        rw [Array.getElem_modify]
        split
        · rename_i ei
          subst ei
          rw [Array.getElem?_eq_getElem h5] at hj
          injection hj with hj
          rw [hj, ← ev, ← h3]
        · rfl
    have run : (Instr.mapUpdate 96 (.map (some b)) key v).run Tryd.prog w = .ok () (setBlock w b (.map (es.modify j (fun e' => { e' with key := key, val := v })) clock)) := by
      simp [Instr.mapUpdate, run_underlying Tryd.underlying96, MapKept.run_getObj_map hb, K.check w false hkey, h1, hj, h3, K.stays w hkey, MapKept.run_setObj_map _ hb, Result.andThen, setBlock]
    rw [run, hmod, setBlock_same hb]

theorem wpList_store_same (w : World) {ops : Array Oper} {rest : List Oper} {o : Oper} {a : Act} {Q : Exit → Act → World → Prop} (hg : o.guard = none) (mo xo vo : Operand) (hop : o.op = Op.mapUpdate 96 mo xo vo)
    (b r n cnt : Nat) (D : DataW Value) (left : Lit → Bool) (hm : a.eval mo = .map (some b)) (h : w.ranges Tryd.prog 5 rawElem b r n D left cnt) (key v : Value) (kl : Lit) (hx : a.eval xo = key) (hv : a.eval vo = v)
    (hkey : keyOf Tryd.prog 5 key = some kl) (hat : ∀ zd, D.atKey kl zd = .held v) (hK : wpList Tryd.prog ops Q rest (a.put o.dst undef) w) : wpList Tryd.prog ops Q (o :: rest) a w := by
  refine wpList_plain hg fun K' hK' => ?_
  unfold Oper.wp
  simp [execOp, hop, hm, hx, hv, store_same h hkey hat, Result.andThen]
  exact hK' _ _ hK
end Go.Proofs.YtkaelnfhohggeaaDoor
