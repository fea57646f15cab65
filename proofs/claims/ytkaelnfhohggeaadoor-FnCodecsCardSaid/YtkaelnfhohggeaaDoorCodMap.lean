/- Maps from bytes to codecs, told by a function: laws at the operations. -/
import Derived.Test.YtkaelnfhohggeaaDoorCells
import Derived.Maps.RangeWalk
import Derived.Maps.OwnSet
import Derived.Maps.Views
namespace Go.Proofs.YtkaelnfhohggeaaDoor
open Go.RowKit Go.Maps

/-- An element read as itself. -/
def rawElem (v : Value) : Option (DataW Value × List MemPlace) := some (.held v, [])
theorem Tryd.keyedB : Keyed Tryd.prog 5 := int_keyed Tryd.underlying5
def zeroCod : Value := .agg #[.int .u8 0, .string ⟨#[]⟩, .int .u32 0, .string ⟨#[]⟩, .string ⟨#[]⟩, .slice none 0 0]
theorem Tryd.zeroCodec (w : World) : (zeroValue 101).run Tryd.prog w = .ok zeroCod w := by kernel_rfl
theorem byte_key {k : Nat} (hk : k ≤ 255) : keyOf Tryd.prog 5 (.int .u8 (k : Int)) = some (.int .u8 (k : Int)) := keyOf_int_mk Tryd.underlying5 (WalkArith.wf_u8 (by omega))

/-- Block m is a map that holds f. -/
def CodMap (w : World) (m n : Nat) (f : Nat → Option Value) : Prop := ∃ D : DataW Value, w.ownsMap Tryd.prog 5 rawElem m n D ∧
  ∀ k, k ≤ 255 → (∀ v, f k = some v → ∀ zd, D.atKey (.int .u8 (k : Int)) zd = .held v) ∧ (f k = none → ∀ zd, D.atKey (.int .u8 (k : Int)) zd = zd)
def updF (f : Nat → Option Value) (k : Nat) (v : Value) : Nat → Option Value := fun j => if j = k then some v else f j
theorem updF_same (f : Nat → Option Value) (k : Nat) (v : Value) : updF f k v k = some v := by simp [updF]
theorem updF_other {f : Nat → Option Value} {k j : Nat} {v : Value} (h : j ≠ k) : updF f k v j = f j := by simp [updF, h]

section
variable {w w' : World} {m n : Nat} {f : Nat → Option Value}
theorem CodMap.new (w : World) : CodMap (w.alloc (.map #[] 0)) w.heap.size 0 (fun _ => none) :=
  ⟨_, World.ownsMap_made w _ _ _, fun k _ => ⟨fun v h => (by cases h), fun _ zd => rfl⟩⟩
theorem CodMap.lt (h : CodMap w m n f) : m < w.heap.size := let ⟨_, h, _⟩ := h; h.lt
theorem CodMap.grown {row : Option Nat} (h : CodMap w m n f) (hg : w.grownBy w' row) (hne : some m ≠ row) : CodMap w' m n f :=
  let ⟨D, h, hf⟩ := h; ⟨D, h.kept hg hne, hf⟩
theorem CodMap.below (h : CodMap w m n f) (hb : Below w.heap.size w w') : CodMap w' m n f := h.grown (grown_of_below hb none) (by simp)
theorem CodMap.alloc (h : CodMap w m n f) (o : Obj) : CodMap (w.alloc o) m n f := h.below ((Below.refl _ _).alloc (Nat.le_refl _) o)
theorem CodMap.set (h : CodMap w m n f) {a : Addr} (v : Value) (hne : m ≠ a.block) : CodMap (w.setCell a v) m n f :=
  let ⟨D, h, hf⟩ := h; ⟨D, h.setCell hne v, hf⟩
set_option maxRecDepth 100000 in
theorem CodMap.look (h : CodMap w m n f) {k : Nat} (hk : k ≤ 255) : (Instr.lookup 96 (.map (some m)) (.int .u8 (k : Int)) false).run Tryd.prog w = .ok ((f k).getD zeroCod) w := by
  obtain ⟨D, h, hf⟩ := h
  obtain ⟨v, ps, hrun, hv⟩ := h.lookup Tryd.keyedB Tryd.underlying96 (Tryd.zeroCodec w) (zd := .held zeroCod) (zp := []) rfl (byte_key hk)
  have hv' : DataW.held v = D.atKey (.int .u8 (k : Int)) (.held zeroCod) := congrArg Prod.fst (Option.some.inj (show some (DataW.held v, []) = _ from hv))
  have e1 : v = (f k).getD zeroCod := by
    cases e : f k with
    | none =>
      rw [(hf k hk).2 e] at hv'
      exact DataW.held.inj hv'
    | some u =>
      rw [(hf k hk).1 u e] at hv'
      exact DataW.held.inj hv'
  rw [hrun, e1]
set_option maxRecDepth 100000 in
theorem CodMap.look_ok (h : CodMap w m n f) {k : Nat} (hk : k ≤ 255) : (Instr.lookup 96 (.map (some m)) (.int .u8 (k : Int)) true).run Tryd.prog w = .ok (.tuple #[(f k).getD zeroCod, .bool (f k).isSome]) w := by
  obtain ⟨D, h, hf⟩ := h
  obtain ⟨v, ps, hrun, hv⟩ := h.look_ok Tryd.keyedB Tryd.underlying96 (Tryd.zeroCodec w) (zd := .held zeroCod) (zp := []) rfl (byte_key hk)
  have hv' : DataW.held v = D.atKey (.int .u8 (k : Int)) (.held zeroCod) := congrArg Prod.fst (Option.some.inj (show some (DataW.held v, []) = _ from hv))
  rw [hrun]
  cases e : f k with
  | none =>
    rw [has_false_of_atKey ((hf k hk).2 e)]
    rw [(hf k hk).2 e] at hv'
    rw [DataW.held.inj hv']; rfl
  | some u =>
    rw [has_true_of_atKey ((hf k hk).1 u e)]
    rw [(hf k hk).1 u e] at hv'
    rw [DataW.held.inj hv']; rfl
set_option maxRecDepth 100000 in
theorem CodMap.put (h : CodMap w m n f) {k : Nat} (hk : k ≤ 255) (hn : n < maxLen) (v : Value) : ∃ w', (Instr.mapUpdate 96 (.map (some m)) (.int .u8 (k : Int)) v).run Tryd.prog w = .ok () w' ∧ CodMap w' m (n + 1) (updF f k v) ∧ w.grownBy w' (some m) := by
  obtain ⟨D, h, hf⟩ := h
  obtain ⟨w', hrun, h1, h2⟩ := h.update Tryd.keyedB Tryd.underlying96 hn (byte_key hk) (show rawElem v = some (.held v, []) from rfl)
  have hD : IsMap D := h.isMap
  refine ⟨w', hrun, ⟨_, h1, fun j hj => ?_⟩, h2⟩
  by_cases e : j = k
  · subst e
    rw [updF_same]
    exact ⟨fun u hu zd => by cases hu; exact atKey_put_same hD (Tryd.keyedB.key (byte_key hk)) _ _, fun hu => by cases hu⟩
  · have hne : (Lit.int .u8 (j : Int)) ≠ .int .u8 (k : Int) := fun q => e (by injection q with _ q; omega)
    rw [updF_other e]
    exact ⟨fun u hu zd => by rw [atKey_put_other hne]; exact (hf j hj).1 u hu zd, fun hu zd => by rw [atKey_put_other hne]; exact (hf j hj).2 hu zd⟩
end

section
variable (w : World) {ops : Array Oper} {rest : List Oper} {o : Oper} {a : Act} {Q : Exit → Act → World → Prop}
theorem wpList_look_cod (hg : o.guard = none) (mo xo : Operand) (hop : o.op = Op.lookup 96 mo xo false) (b n : Nat) (f : Nat → Option Value) (hm : a.eval mo = .map (some b)) (h : CodMap w b n f)
    (k : Nat) (hk : k ≤ 255) (hx : a.eval xo = .int .u8 (k : Int)) (v : Value) (hv : (f k).getD zeroCod = v) (hK : wpList Tryd.prog ops Q rest (a.put o.dst v) w) : wpList Tryd.prog ops Q (o :: rest) a w := by
  refine wpList_plain hg fun K' hK' => ?_
  unfold Oper.wp
  simp [execOp, hop, hm, hx, h.look hk, hv, Result.andThen]
  exact hK' _ _ hK
theorem wpList_look_cod_ok (hg : o.guard = none) (mo xo : Operand) (hop : o.op = Op.lookup 96 mo xo true) (b n : Nat) (f : Nat → Option Value) (hm : a.eval mo = .map (some b)) (h : CodMap w b n f)
    (k : Nat) (hk : k ≤ 255) (hx : a.eval xo = .int .u8 (k : Int)) (v : Value) (hv : f k = some v) (hK : wpList Tryd.prog ops Q rest (a.put o.dst (.tuple #[v, .bool true])) w) : wpList Tryd.prog ops Q (o :: rest) a w := by
  refine wpList_plain hg fun K' hK' => ?_
  have hr := h.look_ok hk
  rw [hv] at hr
  unfold Oper.wp
  simp [execOp, hop, hm, hx, hr, Result.andThen]
  exact hK' _ _ hK
theorem wpList_put_cod (hg : o.guard = none) (mo xo vo : Operand) (hop : o.op = Op.mapUpdate 96 mo xo vo) (b n : Nat) (f : Nat → Option Value) (hm : a.eval mo = .map (some b)) (h : CodMap w b n f) (hn : n < maxLen)
    (k : Nat) (hk : k ≤ 255) (hx : a.eval xo = .int .u8 (k : Int)) (v : Value) (hv : a.eval vo = v) (hK : ∀ w', CodMap w' b (n + 1) (updF f k v) → w.grownBy w' (some b) → wpList Tryd.prog ops Q rest (a.put o.dst undef) w') : wpList Tryd.prog ops Q (o :: rest) a w := by
  refine wpList_plain hg fun K' hK' => ?_
  obtain ⟨w', hr, h1, h2⟩ := h.put hk hn v
  unfold Oper.wp
  simp [execOp, hop, hm, hx, hv, hr, Result.andThen]
  exact hK' _ _ (hK w' h1 h2)
theorem wpList_insert_cod (hg : o.guard = none) (mo xo vo : Operand) (hop : o.op = Op.insert 96 mo xo vo) (b n : Nat) (f : Nat → Option Value) (hm : a.eval mo = .map (some b)) (h : CodMap w b n f) (hn : n < maxLen)
    (k : Nat) (hk : k ≤ 255) (hx : a.eval xo = .int .u8 (k : Int)) (v : Value) (hv : a.eval vo = v) (hK : ∀ w', CodMap w' b (n + 1) (updF f k v) → w.grownBy w' (some b) → wpList Tryd.prog ops Q rest (a.put o.dst undef) w') : wpList Tryd.prog ops Q (o :: rest) a w := by
  refine wpList_plain hg fun K' hK' => ?_
  obtain ⟨w', hr, h1, h2⟩ := h.put hk hn v
  unfold Oper.wp
  simp [execOp, hop, hm, hx, hv, hr, Result.andThen]
  exact hK' _ _ (hK w' h1 h2)
end
end Go.Proofs.YtkaelnfhohggeaaDoor
