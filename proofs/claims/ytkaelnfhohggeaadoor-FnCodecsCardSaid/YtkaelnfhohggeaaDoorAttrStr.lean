/- An attribute as a text: its key, a colon, its value. -/
import Derived.Test.YtkaelnfhohggeaaDoorBase
import Derived.Lib.AppendStr
import Derived.Laws.IdiomStrings
import Derived.Lib.IndexBytes
import Derived.Deep.RegionHeld3
namespace Go.Proofs.YtkaelnfhohggeaaDoor
open Go.RowKit

/-- An attribute as a text; its value is not empty. -/
def attrText (k v : ByteArray) : ByteArray := (k ++ ⟨#[58]⟩) ++ v
theorem attrText_data (k v : ByteArray) : (attrText k v).data.toList = k.data.toList ++ 58 :: v.data.toList := by unfold attrText; simp
theorem attrText_size (k v : ByteArray) : (attrText k v).size = k.size + 1 + v.size := by
  unfold attrText
  rw [ByteArray.size_append, ByteArray.size_append]; rfl
theorem attrText_cells (k v : ByteArray) : Lib.strCells (attrText k v) = (Lib.strCells k ++ [.int .u8 58]) ++ Lib.strCells v := by
  unfold Lib.strCells
  rw [attrText_data]
  simp

theorem wp_append_own_string {P : Program} {w : World} {ops : Array Oper} {o : Oper} {a : Act} {K : Act → World → Prop} {Q : Exit → Act → World → Prop} {E : Prop} (hgd : o.guard = none) (sl x : Operand) (t u : TypeId)
    (ho : o.op = .call { callee := .builtin .append, args := #[sl, x], argTypes := #[t, u] })
    (base : Nat) (e : TypeId) (i : TypeInfo) (ht : P.underlying t = some (.slice e)) (hu : P.underlying u = some .string) (hi : P.info? e = some i) (hz : i.zero = some (.int .u8 0))
    (hsize : i.size = 1) (hby : i.bytes = 1)
    (v : Value) (n : Nat) (xs : List Value) (hs : a.eval sl = v) (hown : w.ownsRow base e 1 v n xs) (s : ByteArray) (hx : a.eval x = .string s)
    (h63 : n + s.size ≤ maxLen) (hbytes : n + s.size ≤ 140737488355328) (hbase : base ≤ w.heap.size)
    (h : ∀ v' w', w'.ownsRow base e 1 v' (n + s.size) (xs ++ Lib.strCells s) → w.grownBy w' v.ownBlock → K (a.put o.dst v') w') : if Region.wanted o (yielded ops a.tmps) = true then Oper.wp P o a w K Q else E := by
  have hw : Region.wanted o (yielded ops a.tmps) = true := by simp [Region.wanted, hgd]
  rw [if_pos hw]
  obtain ⟨v', w', hr, h2, h3, _⟩ := Lib.run_append_own_string (P := P) w base t u o.type e i ht hu hi hz hsize hby v n xs hown s h63 hbytes hbase
  unfold Oper.wp execOp
  simp only [ho, resolve, invoke, builtin, Sem.run_bind, Sem.run_pure, Result.andThen_ok, List.map_toArray, List.map_cons, List.map_nil, hs, hx, hr]
  exact h v' w' h2 h3

/-- A row that a slice owns is no block of another element type. -/
theorem row_ne_other {w : World} {base : Nat} {e : TypeId} {size : Nat} {v : Value} {n : Nat} {xs : List Value} (h : w.ownsRow base e size v n xs) {b : Nat} {cs : Array Value} {t : TypeId} {fr : Nat × Nat} (hb : w.heap[b]? = some (.cells cs t fr)) (hne : t ≠ e) : some b ≠ v.ownBlock := by
  rcases h.2 with ⟨rfl, _⟩ | ⟨g, cap, cur, rfl, _, hg, _⟩
  · simp [Value.ownBlock]
  · intro e1
    have : b = g := by simpa [Value.ownBlock] using e1
    subst this
    rw [hg] at hb
    cases hb
    exact hne rfl

theorem lies_ne {v : Value} {b g n cap H : Nat} (hne : some b ≠ v.ownBlock) (hat : v.ownBlock = some g ∨ g = H) (hb : b < H) : some b ≠ (Value.slice (some ⟨g, 0, none⟩) n cap).ownBlock := fun e => by
  have e : b = g := by simpa [Value.ownBlock] using e
  subst e
  rcases hat with h | h
  · exact hne h.symm
  · omega

theorem Tryd.infoByte : (Tryd.prog.info? 5).map (fun i => (i.zero, i.size, i.bytes)) = some (some (.int .u8 0), 1, 1) := by kernel_rfl

set_option maxHeartbeats 1000000 in
theorem marshalSize_any (k v : ByteArray) (w : World) (hk : k.size ≤ 4294967296) (hv : 0 < v.size) (hvz : v.size ≤ 4294967296) :
    Calls Tryd.prog 43 #[.agg #[.string k, .string v]] w fun e w' => e = .returned (.int .i64 ((k.size + (1 + v.size) : Nat) : Int)) ∧ Below w.heap.size w w' := by
  have g : decide ((0 : Int) < (v.size : Int)) = true := by simp; omega
  go_enter Tryd.func43, Tryd.ntmps43
  go_wp2
  go_ret
  exact ⟨by congr 2, (Below.refl _ _).alloc (Nat.le_refl _) _⟩

set_option maxHeartbeats 2000000 in
set_option maxRecDepth 100000 in
theorem marshalInto_any (k v : ByteArray) (x : Value) (B : Nat) (w : World) (hk : k.size ≤ 4294967296) (hv : 0 < v.size) (hvz : v.size ≤ 4294967296) (hown : w.ownsRow B 5 1 x 0 []) (hB : B ≤ w.heap.size) :
    Calls Tryd.prog 42 #[.agg #[.string k, .string v], x] w fun e w' => ∃ x', e = .returned x' ∧ w'.ownsRow B 5 1 x' (attrText k v).size (Lib.strCells (attrText k v)) ∧ Below B w w' := by
  obtain ⟨i0, hi, hz0, hz1, hz2⟩ := info_parts Tryd.infoByte
  have g : decide (0 < v.size) = true := by simp; omega
  have HOWN := Lib.hid (hown.alloc (.cells #[.string k, .string v] 105))
  have hx0 : ∀ j, x.ownBlock = some j → B ≤ j ∧ j < w.heap.size := fun j hj => hown.lt j hj
  have HX0 := Lib.hid hx0
  clear hown hx0
  go_enter Tryd.func42, Tryd.ntmps42
  have hbx0 : (w.alloc (.cells #[.string k, .string v] 105)).heap[w.heap.size]? = some (.cells #[.string k, .string v] 105 (0, 0)) := heap_alloc_new w _
  have HBX0 := Lib.hid hbx0
  clear hbx0
  go_wp2_with (at_builtin; refine Lib.wpList_append_own_string _ rfl _ _ 46 9 rfl B 5 i0 Tryd.underlying46 Tryd.underlying9 hi hz0 hz1 hz2 x 0 [] rfl HOWN.out k rfl ?_ ?_ ?_ ?_; (unfold maxLen; omega); omega; (simp; omega); intro v1 w1 hown1 hg1 _; rw [Nat.zero_add, List.nil_append] at hown1; have hbx1 := grown_block hg1 _ _ HBX0.out (fun e => by have := (HX0.out _ e.symm).2; omega); have hc1 : w1.cell? ⟨w.heap.size, 1, none⟩ = some (.string v) := (by simp [World.cell?, hbx1]))
  have bel1 : Below B w w1 := (((Below.refl B w).alloc hB _).grown hg1 (by simp; omega) (fun j hj => (HX0.out j hj).1))
  have hs1 := bel1.size
  have HO1 := Lib.hid hown1
  have hlt1 : ∀ j, v1.ownBlock = some j → B ≤ j ∧ j < w1.heap.size := fun j hj => hown1.lt j hj
  have HL1 := Lib.hid hlt1
  have HB1 := Lib.hid bel1
  have HX1 := Lib.hid hbx1
  have hne1 : some w.heap.size ≠ v1.ownBlock := row_ne_other hown1 hbx1 (by decide)
  clear hown1 hg1 bel1 hlt1 hbx1
  go_region_held3 (fun w' => w'.cell? ⟨w.heap.size, 1, none⟩ = some (.string v))
    (first
      | exact hc1
      | exact cell_al hc1 _
      | (rw [hg2.cell_far _ (by simp; omega) (by assumption)]; exact cell_al hc1 _)
      | (rw [hg3.cell_far _ (by simp; omega) hne2]; rw [hg2.cell_far _ (by simp; omega) hne1]; exact cell_al hc1 _))
    (first
      | (refine step_append_lies _ (by rfl) _ _ _ (by rfl) B 5 i0 _ 1 1 Tryd.underlying46 hi hz0 hz1 hz2 rfl (by omega) v1 k.size (Lib.strCells k) (by rfl) ((HO1.out.alloc _).drew) ⟨w1.heap.size, 0, none⟩ 1 1 [.int .u8 58] (by rfl) (by rfl) (World.news_of_block (cs := #[.int .u8 58]) (t := 5) (fr := (0, 0)) (heap_alloc_new w1 _)) (by simp [Value.oneCell']) (by omega) (by unfold maxLen; omega) (by omega) (by simp; omega) (w1.heap.size + 1) (by simp) ?_; intro gg cap w2 hown2 hg2 hat2 hlt2; have hs2 : w1.heap.size + 1 ≤ w2.heap.size := (by have := hg2.size; simpa using this); have hne2 := lies_ne (n := k.size + 1) (cap := cap) hne1 hat2 (by omega))
      | (refine wp_append_own_string (by rfl) _ _ 46 9 (by rfl) B 5 i0 Tryd.underlying46 Tryd.underlying9 hi hz0 hz1 hz2 _ (k.size + 1) (Lib.strCells k ++ [.int .u8 58]) (by rfl) hown2 v (by rfl) (by unfold maxLen; omega) (by omega) (by omega) ?_; intro v3 w3 hown3 hg3))
  have bel2 : Below B w w2 := ((HB1.out.alloc (by omega) _).drew).grown hg2 (by simp; omega) (fun j hj => (HL1.out j hj).1)
  have bel3 : Below B w w3 := bel2.grown hg3 (by omega) (fun j hj => (hown2.lt j hj).1)
  rw [← attrText_cells, ← attrText_size] at hown3
  have G1 := Lib.hid hown3
  have G2 := Lib.hid bel3
  clear hown3 bel3 bel2 hg3 hg2 hown2
  go_wp2
  go_ret
  exact ⟨v3, rfl, G1.out, G2.out⟩

/-- The text that a row of bytes of the call's own is. -/
theorem text_of_row {B n : Nat} {v : Value} {s : ByteArray} {w : World} (hn : 0 < s.size) (h : w.ownsRow B 5 1 v n (Lib.strCells s)) : ∃ (A : Option Addr) (c : Nat), v = .slice A s.size c ∧ (convert 46 9 (.slice A s.size c)).run Tryd.prog w = .ok (.string s) w := by
  have hlen : n = s.size := by have := h.1; rw [Lib.strCells_length] at this; omega
  subst hlen
  have hc := @World.ownsRow.cells _ _ _ _ _ _ _ h
  rcases h.2 with ⟨rfl, hx⟩ | ⟨g, cap, cur, rfl, _⟩
  · omega
  · refine ⟨_, _, rfl, ?_⟩
    have := run_convert_bytes_back (P := Tryd.prog) w 46 9 5 ⟨g, 0, none⟩ cap s.data.toList Tryd.underlying46 Tryd.underlying5 Tryd.underlying9 (fun j hj => by
      refine hc rfl j _ ?_
      unfold Lib.strCells
      rw [List.getElem?_map, List.getElem?_eq_getElem hj]
      rfl)
    rw [← Lib.size_eq, Lib.mk_data] at this
    exact this

set_option maxHeartbeats 2000000 in
set_option maxRecDepth 100000 in
theorem fromMarshal_any (k v : ByteArray) (w : World) (hk : k.size ≤ 4294967296) (hv : 0 < v.size) (hvz : v.size ≤ 4294967296) :
    Calls Tryd.prog 41 #[.func (.func 42) #[.agg #[.string k, .string v]] #[], .func (.func 43) #[.agg #[.string k, .string v]] #[]] w fun e w' => e = .returned (.string (attrText k v)) ∧ Below w.heap.size w w' := by
  obtain ⟨i0, hi, hz0, hz1, hz2⟩ := info_parts Tryd.infoByte
  have hs : 0 < (attrText k v).size := by rw [attrText_size]; omega
  have HT : Hid (∀ {B n : Nat} {u : Value} {w : World}, w.ownsRow B 5 1 u n (Lib.strCells (attrText k v)) → ∃ (A : Option Addr) (c : Nat), u = .slice A (attrText k v).size c ∧ (convert 46 9 (.slice A (attrText k v).size c)).run Tryd.prog w = .ok (.string (attrText k v)) w) := Lib.hid (fun h => text_of_row hs h)
  go_enter Tryd.func41, Tryd.ntmps41
  go_wp2_with (first
    | (go_at_call 43; refine (marshalSize_any k v _ hk hv hvz).mono ?_; rintro e w1 ⟨rfl, hb1⟩)
    | (at_make; refine wpList_make_own _ rfl _ _ 46 rfl w1.heap.size 5 i0 (.int .u8 0) 1 Tryd.underlying46 hi hz0 hz1 _ _ _ (k.size + (1 + v.size)) rfl rfl rfl (by rw [hz2]; omega) (by unfold maxLen; omega) (Nat.le_refl _) ?_; intro w2 hown2 hg2; have b2 : Below w1.heap.size w1 w2 := (Below.refl _ _).grown hg2 (Nat.le_refl _) (fun j hj => by cases hj))
    | (go_at_call 42; refine (marshalInto_any k v _ w1.heap.size _ hk hv hvz hown2 b2.size).mono ?_; rintro e w3 ⟨x3, rfl, hown3, hb3⟩; obtain ⟨A3, c3, rfl, hcv⟩ := HT.out hown3))
  go_ret
  exact ⟨rfl, below_step hb1 hb1.size (b2.trans hb3)⟩

set_option maxHeartbeats 1000000 in
theorem attrString_any (k v : ByteArray) (w : World) (hk : k.size ≤ 4294967296) (hv : 0 < v.size) (hvz : v.size ≤ 4294967296) :
    Calls Tryd.prog 31 #[.agg #[.string k, .string v]] w fun e w' => e = .returned (.string (attrText k v)) ∧ Below w.heap.size w w' := by
  have hmf : ∀ (fn : Fn) (first cap : Array Value) (w : World), (Instr.makeFunc fn first cap).run Tryd.prog w = .ok (.func fn first cap) w := fun _ _ _ _ => rfl
  go_enter Tryd.func31, Tryd.ntmps31
  go_wp2_with (go_at_call 41; refine (fromMarshal_any k v _ hk hv hvz).mono ?_; rintro e w1 ⟨rfl, hb⟩)
  go_ret
  exact ⟨rfl, ((Below.refl _ _).alloc (Nat.le_refl _) _).trans (hb.mono (by simp))⟩
end Go.Proofs.YtkaelnfhohggeaaDoor
