/- The thin package's reader of codecs: its function. -/
import Derived.Test.YtkaelnfhohggeaaDoorCodecsOf
namespace Go.Proofs.YtkaelnfhohggeaaDoor
open Go.RowKit Go.Maps

theorem rowsOf_length (l : List Cod) (fbs : Nat → Value) : ∀ (n : Nat), n ≤ l.length → (rowsOf l fbs n).length = n * 6
  | 0, _ => rfl
  | n + 1, h => by
    simp only [rowsOf, List.getElem?_eq_getElem (show n < l.length by omega), List.length_append, rowsOf_length l fbs n (by omega)]
    simp [parRow]; omega
theorem rowsOf_get (l : List Cod) (fbs : Nat → Value) (k j : Nat) (hj : j < 6) (hk : k < l.length) : ∀ (n : Nat), k < n → n ≤ l.length → (rowsOf l fbs n)[k * 6 + j]? = (parRow l[k] (fbs k))[j]?
  | n + 1, h, hn => by
    have hl := rowsOf_length l fbs n (by omega)
    simp only [rowsOf, List.getElem?_eq_getElem (show n < l.length by omega)]
    by_cases e : k = n
    · subst e
      rw [List.getElem?_append_right (by omega), hl]
      congr 1
      omega
    · rw [List.getElem?_append_left (by omega)]
      exact rowsOf_get l fbs k j hj hk n (by omega) (by omega)

set_option maxHeartbeats 1000000 in
theorem zzCodecs_any {D : Nat → Prop} (p : Nat) (l : List Cod) (w : World) (ev0 ev1 ev2 evs : Value) (hl : l.length ≤ 5) (hc : ∀ c ∈ l, CodIs c) (hd : (l.map Cod.pay).Nodup)
    (hmd : MD D w p ⟨#[97, 117, 100, 105, 111]⟩ (l.map fun c => dec c.pay) ((allSteps l).map stepAttr))
    (hg0 : w.cell? ⟨0, 0, none⟩ = some ev0) (hg1 : w.cell? ⟨1, 0, none⟩ = some ev1) (hg2 : w.cell? ⟨2, 0, none⟩ = some ev2)
    (hgs : w.cell? ⟨3, 0, none⟩ = some evs) (hevs : evs = .nilIface ∨ ∃ te pe, evs = .iface te pe) :
    Calls Tryd.prog 17 #[.pointer (some ⟨p, 0, none⟩)] w fun e w' => ∃ v fbs B, e = .returned (.tuple #[v, .nilIface]) ∧ w.heap.size ≤ B ∧ w'.ownsRow B 62 6 v l.length (rowsOf l fbs l.length) ∧
      (∀ i (h : i < l.length), ∃ A k, fbs i = .slice A l[i].fb.length k ∧ KVs (w.heap.size ≤ ·) w' A l[i].fb) ∧ Below w.heap.size w w' := by
  have H := Lib.hid (codecsOf_any p l w ev0 ev1 ev2 evs hl hc hd hmd hg0 hg1 hg2 hgs hevs)
  clear hl hc hd hmd hg0 hg1 hg2 hgs hevs
  go_enter Tryd.func17, Tryd.ntmps17
  go_wp2_with (go_at_call 23; refine H.out.mono ?_; rintro e w1 ⟨v, fbs, B, rfl, h1, h2, h3, h4⟩; have H2 := Lib.hid h2; have H3 := Lib.hid h3; clear h2 h3)
  go_ret2
  exact ⟨v, fbs, B, rfl, h1, H2.out, H3.out, h4⟩

theorem Tryd.infoIC : (Tryd.prog.info? 39).map (fun i => (i.zero, i.size, i.bytes)) = some (some (.agg #[.string ByteArray.empty, .int .i64 0, .int .i64 0, .string ByteArray.empty, .slice none 0 0, .int .i64 0]), 6, 80) := by kernel_rfl
theorem Tryd.infoIKV : (Tryd.prog.info? 42).map (fun i => (i.zero, i.size, i.bytes)) = some (some (.agg #[.string ByteArray.empty, .string ByteArray.empty]), 2, 32) := by kernel_rfl
def codRow (c : Cod) (fb : Value) : List Value := [.string (audioB c), .int .i64 c.rate, .int .i64 c.chans, .string c.line, fb, .int .i64 c.pay]
def crowsOf (l : List Cod) (fbs : Nat → Value) : Nat → List Value
  | 0 => []
  | k + 1 => crowsOf l fbs k ++ (match l[k]? with | some c => codRow c (fbs k) | none => [])
theorem crowsOf_congr (l : List Cod) {a b : Nat → Value} : ∀ (k : Nat), (∀ i, i < k → a i = b i) → crowsOf l a k = crowsOf l b k
  | 0, _ => rfl
  | k + 1, h => by
    simp only [crowsOf]
    rw [crowsOf_congr l k (fun i hi => h i (by omega)), h k (by omega)]

theorem grown_cellC {w w' : World} {b : Nat} (h : w.grownBy w' (some b)) {p : Addr} {v : Value} (hne : p.block ≠ b) (hc : w.cell? p = some v) : w'.cell? p = some v := by
  have := h.block p.block (World.block_lt_of_cell? _ _ hc) (fun e => hne (by injection e))
  simp only [World.cell?] at hc ⊢
  rw [this]; exact hc

theorem grown_alloc1 {w w' : World} {O : Obj} {row : Option Nat} (h : (w.alloc O).grownBy w' row) : w.grownBy w' row := (World.grownBy_alloc w O row).andThen h (fun _ hj => .inr hj)
theorem grown_cellO {w w' : World} {row : Option Nat} (h : w.grownBy w' row) {p : Addr} {v : Value} (hne : some p.block ≠ row) (hc : w.cell? p = some v) : w'.cell? p = some v := by
  have := h.block p.block (World.block_lt_of_cell? _ _ hc) hne
  simp only [World.cell?] at hc ⊢
  rw [this]; exact hc
theorem grown_frozenO {w w' : World} {row : Option Nat} (h : w.grownBy w' row) {p : Addr} {v : Value} (hne : some p.block ≠ row) (hc : w.cell? p = some v) : w'.frozen? p = w.frozen? p := by
  have := h.block p.block (World.block_lt_of_cell? _ _ hc) hne
  simp only [World.frozen?]
  rw [this]
theorem news_first (w : World) (cs : Array Value) (T : TypeId) : ∀ j u, cs.toList[j]? = some u → (w.alloc (.cells cs T)).cell? ((⟨w.heap.size, 0, none⟩ : Addr).add j) = some u := fun j u hj => by
  rw [add_at]
  exact (Blk.new w cs.toList T).cell hj
theorem kvs_stepO {wx w8 : World} {S : Nat} {own own' : Option Nat} {A : Option Addr} {l : List KV} (h : KVs (fun b => S ≤ b ∧ some b ≠ own) wx A l) (g : wx.grownBy w8 own) (hat : own' = own ∨ ∃ g, own' = some g ∧ wx.heap.size ≤ g) :
    KVs (fun b => S ≤ b ∧ some b ≠ own') w8 A l := fun i p hp => by
  obtain ⟨b, o, e, ⟨h1, h2⟩, c, d⟩ := h i p hp
  have lt : b < wx.heap.size := World.block_lt_of_cell? _ _ c
  refine ⟨b, o, e, ⟨h1, fun q => ?_⟩, grown_cellO g h2 c, grown_cellO g h2 d⟩
  rcases hat with h3 | ⟨g', h3, h4⟩
  · exact h2 (q.trans h3)
  · rw [h3] at q
    injection q with q
    omega
theorem ownsRow_base {w : World} {B B' : Nat} {e : TypeId} {size : Nat} {v : Value} {n : Nat} {xs : List Value} (hB : B' ≤ B) (h : w.ownsRow B e size v n xs) : w.ownsRow B' e size v n xs := by
  refine ⟨h.1, ?_⟩
  rcases h.2 with h2 | ⟨g, cap, cur, q1, q2, q3⟩
  · exact .inl h2
  · exact .inr ⟨g, cap, cur, q1, by omega, q3⟩

set_option maxHeartbeats 4000000 in
set_option maxRecDepth 100000 in
theorem codecs1_any (mb ob : Nat) (fA aA : Option Addr) (fc ac : Nat) (l : List Cod) (w : World) (ev0 ev1 ev2 evs : Value) (hl : l.length ≤ 5) (hc : ∀ c ∈ l, CodIs c) (hd : (l.map Cod.pay).Nodup)
    (hf : Strs (fun _ => True) w fA (l.map fun c => dec c.pay)) (ha : KVs (fun _ => True) w aA ((allSteps l).map stepAttr))
    (c0 : w.cell? ⟨mb, 0, none⟩ = some (.string ⟨#[97, 117, 100, 105, 111]⟩)) (c1 : w.cell? ⟨mb, 1, none⟩ = some (.slice fA l.length fc)) (c2 : w.cell? ⟨mb, 2, none⟩ = some (.slice aA (allSteps l).length ac))
    (co : w.cell? ⟨ob, 0, none⟩ = some (.slice none 0 0)) (zo : w.frozen? ⟨ob, 0, none⟩ = false)
    (hg0 : w.cell? ⟨0, 0, none⟩ = some ev0) (hg1 : w.cell? ⟨1, 0, none⟩ = some ev1) (hg2 : w.cell? ⟨2, 0, none⟩ = some ev2)
    (hgs : w.cell? ⟨3, 0, none⟩ = some evs) (hevs : evs = .nilIface ∨ ∃ te pe, evs = .iface te pe) :
    Calls Tryd.prog 16 #[.pointer (some ⟨mb, 0, none⟩), .pointer (some ⟨ob, 0, none⟩)] w fun e w' => e = .returned (.bool true) ∧ ∃ v fbs, w'.cell? ⟨ob, 0, none⟩ = some v ∧ w'.frozen? ⟨ob, 0, none⟩ = false ∧ w'.ownsRow w.heap.size 39 6 v l.length (crowsOf l fbs l.length) ∧
      (∀ i (h : i < l.length), ∃ A k, fbs i = .slice A l[i].fb.length k ∧ KVs (w.heap.size ≤ ·) w' A l[i].fb) ∧ w.grownBy w' (some ob) := by
  have hst := steps_length l hc
  have HMD := Lib.hid (medium_any ⟨#[97, 117, 100, 105, 111]⟩ fA aA fc ac (l.map fun c => dec c.pay) ((allSteps l).map stepAttr) w (by simp; omega) (by simp; omega) hf ha)
  simp only [List.length_map] at HMD
  have HZ := Lib.hid (fun (wx : World) (D : Nat → Prop) (k : Kp w wx) (p : Nat) (h : MD D wx p ⟨#[97, 117, 100, 105, 111]⟩ (l.map fun c => dec c.pay) ((allSteps l).map stepAttr)) => zzCodecs_any p l wx ev0 ev1 ev2 evs hl hc hd h (k _ _ hg0) (k _ _ hg1) (k _ _ hg2) (k _ _ hgs) hevs)
  have lo : ob < w.heap.size := World.block_lt_of_cell? _ _ co
  have HC := Lib.hid hc
  clear hf ha hg0 hg1 hg2 hgs hevs hc hd
  obtain ⟨iC, hiC, hzC0, hzC1, hzC2⟩ := info_parts Tryd.infoIC
  obtain ⟨iK, hiK, hzK0, hzK1, hzK2⟩ := info_parts Tryd.infoIKV
  go_enter Tryd.func16, Tryd.ntmps16
  go_wp2_with (first
    | (go_at_call 18; refine HMD.out.mono ?_; rintro e w1 ⟨p, rfl, hm, hb1⟩)
    | (go_at_call 17; refine (HZ.out _ _ (kp_of_below hb1) p hm).mono ?_; rintro e w2 ⟨pv, fbs, Bp, rfl, hBp, hrows, hfb, hb2⟩; obtain ⟨pA, pc, rfl⟩ := own_shape hrows; have HP := Lib.hid hrows; have HFB := Lib.hid hfb; have B2 := Lib.hid (below_step hb1 hb1.size hb2); have S1 := hb1.size; clear hrows hfb hb1 hb2 hm))
  go_loopw [18] (fun i wr => ∃ (k : Nat) (v : Value) (fb2 : Nat → Value), k ≤ l.length ∧ i = .int .i64 (k : Nat) ∧ wr.cell? ⟨ob, 0, none⟩ = some v ∧ wr.frozen? ⟨ob, 0, none⟩ = false ∧ wr.ownsRow w2.heap.size 39 6 v k (crowsOf l fb2 k) ∧
    (∀ i (h : i < k) (h' : i < l.length), ∃ A c, fb2 i = .slice A l[i].fb.length c ∧ KVs (fun b => w2.heap.size ≤ b ∧ some b ≠ v.ownBlock) wr A l[i].fb) ∧ w2.grownBy wr (some ob)) (fun i _ => l.length - (intOf i).toNat)
  case atStart => exact ⟨0, .slice none 0 0, fun _ => .slice none 0 0, Nat.zero_le _, rfl, kp_of_below B2.out _ _ co, (B2.out.frozen (p := ⟨ob, 0, none⟩) lo).trans zo, World.ownsRow_nil _ _ _ _, fun i h => by omega, grown_of_below (Below.refl _ _) _⟩
  case round =>
    obtain ⟨k, v, fb2, hk, rfl, hco, hzo, hown, hf2, hgr⟩ := hrel
    have HO := Lib.hid hown
    have HF2 := Lib.hid hf2
    have HGR := Lib.hid hgr
    have HCO := Lib.hid hco
    have HZO := Lib.hid hzo
    have so2 : ob < w2.heap.size := Nat.lt_of_lt_of_le lo B2.out.size
    have sr := hgr.size
    clear hown hf2 hgr hco hzo
    by_cases hlt : k < l.length
    · have hd1 : decide ((k : Int) < (l.length : Int)) = true := by simp; omega
      have hci := HC.out l[k] (List.getElem_mem hlt)
      have hlk : l[k]? = some l[k] := List.getElem?_eq_getElem hlt
      obtain ⟨A4, k4, e4, hk4⟩ := HFB.out k hlt
      have hlt4 := HP.out.lt
      have hcell : ∀ j u, (rowsOf l fbs l.length)[j]? = some u → ∃ g, pA = some ⟨g, 0, none⟩ ∧ wr.cell? ⟨g, j, none⟩ = some u := fun j u hj => by
        rcases HP.out.2 with ⟨e, hx⟩ | ⟨g, cap, cur, e, _⟩
        · rw [hx] at hj; cases hj
        · injection e with e _ _
          subst e
          have h1 := @World.ownsRow.cells _ _ _ _ _ _ _ HP.out g rfl j u hj
          rw [add_at] at h1
          have h2 := (hlt4 g rfl).1
          exact ⟨g, rfl, grown_cellC HGR.out (by show g ≠ ob; omega) h1⟩
      have row : ∀ j, j < 6 → (rowsOf l fbs l.length)[k * 6 + j]? = (parRow l[k] (fbs k))[j]? := fun j hj => rowsOf_get l fbs k j hj hlt l.length hlt (Nat.le_refl _)
      rw [e4] at row
      obtain ⟨g, rfl, d0⟩ := hcell (k * 6) _ (row 0 (by decide))
      obtain ⟨_, q1, d1⟩ := hcell (k * 6 + 1) _ (row 1 (by decide))
      cases q1
      obtain ⟨_, q2, d2⟩ := hcell (k * 6 + 2) _ (row 2 (by decide))
      cases q2
      obtain ⟨_, q3, d3⟩ := hcell (k * 6 + 3) _ (row 3 (by decide))
      cases q3
      obtain ⟨_, q4, d4⟩ := hcell (k * 6 + 4) _ (row 4 (by decide))
      cases q4
      obtain ⟨_, q5, d5⟩ := hcell (k * 6 + 5) _ (row 5 (by decide))
      cases q5
      clear row hcell e4
      have HK4 : Hid (KVs (fun b => w.heap.size ≤ b) wr A4 l[k].fb) := Lib.hid (fun i x hx => by
        obtain ⟨b, o, e, hb, h1, h2⟩ := hk4 i x hx
        have hb : w1.heap.size ≤ b := hb
        exact ⟨b, o, e, Nat.le_trans S1 hb, grown_cellC HGR.out (by show b ≠ ob; omega) h1, grown_cellC HGR.out (by show b ≠ ob; omega) h2⟩)
      clear hk4
      generalize hcd : l[k] = cd at hci hlk d0 d1 d2 d3 d4 d5 HK4
      have hw1 : IntKind.i64.wrap (cd.rate : Int) = cd.rate := IntWalk.i64_in _ (by have := hci.rate; omega)
      have hw2 : IntKind.i64.wrap (cd.chans : Int) = cd.chans := IntWalk.i64_in _ (by have := hci.chans; omega)
      have hw3 : IntKind.i64.wrap (cd.pay : Int) = cd.pay := IntWalk.i64_in _ (by have := hci.pay; omega)
      have hlen3 := hci.len
      go_wp2_with fail
      obtain ⟨wo, rfl⟩ : ∃ wo : World, wo = wr := ⟨_, rfl⟩
      go_loopw [44] (fun j wx => ∃ (q : Nat) (fv : Value), q ≤ cd.fb.length ∧ j = .int .i64 (q : Nat) ∧ Blk wx (wo.heap.size + 1) [.string (audioB cd), .int .i64 cd.rate, .int .i64 cd.chans, .string cd.line, fv, .int .i64 cd.pay] ∧ wx.ownsRow (wo.heap.size + 2) 42 2 fv q (kvCells (cd.fb.take q)) ∧ wo.heap.size + 2 ≤ wx.heap.size ∧ Below wo.heap.size wo wx) (fun j _ => cd.fb.length - (intOf j).toNat)
      case atStart =>
        refine ⟨0, .slice none 0 0, Nat.zero_le _, rfl, ?_, World.ownsRow_nil _ _ _ _, by simp, ((Below.refl _ _).alloc (Nat.le_refl _) _).alloc (by simp) _⟩
        have h := Blk.new (wo.alloc (.cells #[.string (audioB cd), .int .u32 cd.rate, .int .u16 cd.chans, .string cd.line, .slice A4 cd.fb.length k4, .int .u8 cd.pay] 62)) [.string (audioB cd), .int .i64 cd.rate, .int .i64 cd.chans, .string cd.line, .slice none 0 0, .int .i64 cd.pay] 39
        rw [World.size_alloc] at h
        exact h
      case round =>
        obtain ⟨wx, rfl⟩ : ∃ wx : World, wx = wr := ⟨_, rfl⟩
        obtain ⟨q, fv, hq, rfl, hblk, hrow, hsz, hbx⟩ := hrel
        have BK := Lib.hid hblk
        have HR := Lib.hid hrow
        have BX := Lib.hid hbx
        clear hrow hbx
        by_cases hql : q < cd.fb.length
        · have hd2 : decide ((q : Int) < (cd.fb.length : Int)) = true := by simp; omega
          obtain ⟨b, o, rfl, hb0, e0, e1⟩ := HK4.out q cd.fb[q] (by simp [hql])
          have e0 := kp_of_below BX.out _ _ e0
          have e1 := kp_of_below BX.out _ _ e1
          have htk : cd.fb.take (q + 1) = cd.fb.take q ++ [cd.fb[q]] := by rw [List.take_add_one, List.getElem?_eq_getElem hql]; rfl
          have HTK := Lib.hid htk
          clear htk hblk
          have m4 := cell_al (cell_al (BK.out.cell (j := 4) rfl) (.cells #[.string cd.fb[q].1, .string cd.fb[q].2] 64)) (.cells #[.string cd.fb[q].1, .string cd.fb[q].2] 42)
          have m4' := cell_al (BK.out.cell (j := 4) rfl) (.cells #[.string cd.fb[q].1, .string cd.fb[q].2] 64)
          have lb := BK.out.lt
          have ne4 : some (wo.heap.size + 1) ≠ fv.ownBlock := fun e => by have := (HR.out.lt _ e.symm).1; omega
          generalize cd.fb[q] = ff at e0 e1 HTK m4 m4'
          obtain ⟨f1, f2⟩ := ff
          go_wp2_with (first
            | (at_builtin; refine wpList_append_own_at _ rfl _ _ 26 rfl (wo.heap.size + 2) 42 iK _ 2 32 Tryd.underlying26 hiK hzK0 hzK1 hzK2 rfl (by decide) fv q (kvCells (cd.fb.take q)) rfl ((HR.out.alloc _).alloc _) ⟨wx.heap.size + 1, 0, none⟩ 1 1 [.string f1, .string f2] rfl rfl (news_second wx _ #[.string f1, .string f2] _) (by simp [Value.oneCell']) (by unfold maxLen; omega) (by omega) (by rw [World.size_alloc, World.size_alloc]; omega) ?_; intro v7 w7 hown7 hg7 _ hat7; have H7 := Lib.hid hown7; have G7 := Lib.hid hg7; have BK7 := Lib.hid (((BK.out.alloc _).alloc _).grown hg7 ne4); obtain ⟨A7, c7, rfl⟩ := own_shape hown7; clear hown7 hg7 hat7)
            | (refine wpList_store_cell rfl _ _ _ rfl (wo.heap.size + 1) 4 (.slice A7 (q + 1) c7) _ rfl rfl (by kernel_rfl) rfl (BK7.out.cell rfl) (BK7.out.frozen 4) ?_; intro w9 e9; have E9 := Lib.hid e9; clear e9))
          have row9 : w9.ownsRow (wo.heap.size + 2) 42 2 (.slice A7 (q + 1) c7) (q + 1) (kvCells (cd.fb.take (q + 1))) := by
            rw [HTK.out, kvCells_snoc, E9.out]
            exact H7.out.kept (grown_setC _) (.inr fun e => by have := (H7.out.lt _ e).1; omega)
          have blk9 : Blk w9 (wo.heap.size + 1) [.string (audioB cd), .int .i64 cd.rate, .int .i64 cd.chans, .string cd.line, .slice A7 (q + 1) c7, .int .i64 cd.pay] := by rw [E9.out]; exact BK7.out.set 4 _
          have bel7 : Below wo.heap.size wo w7 := ((BX.out.alloc BX.out.size _).alloc (Nat.le_trans BX.out.size (by simp)) _).grown G7.out (Nat.le_trans BX.out.size (by rw [World.size_alloc, World.size_alloc]; omega)) (fun j hj => by have := (HR.out.lt j hj).1; omega)
          have sz7 : wo.heap.size + 2 ≤ w7.heap.size := Nat.le_trans hsz (Nat.le_trans (by rw [World.size_alloc, World.size_alloc]; omega) G7.out.size)
          have bel9 : Below wo.heap.size wo w9 := by rw [E9.out]; exact bel7.setCell (by show wo.heap.size ≤ wo.heap.size + 1; omega) _
          have sz9 : wo.heap.size + 2 ≤ w9.heap.size := by rw [E9.out]; simpa using sz7
          have R9 := Lib.hid row9
          have K9 := Lib.hid blk9
          have L9 := Lib.hid bel9
          clear row9 blk9 bel9 bel7 m4 m4'
          go_roundw
          case rel => exact ⟨q + 1, _, hql, by go_num, K9.out, R9.out, sz9, L9.out⟩
          case measure => simp [intOf]; omega
        · obtain rfl : q = cd.fb.length := by omega
          rw [List.take_length] at HR
          have hd2 : decide ((cd.fb.length : Int) < (cd.fb.length : Int)) = false := by simp
          obtain ⟨A14, c14, rfl, hkv14⟩ := own_kvs HR.out
          have HKV := Lib.hid hkv14
          have p0 := BK.out.cell (j := 0) rfl
          have p1 := BK.out.cell (j := 1) rfl
          have p2 := BK.out.cell (j := 2) rfl
          have p3 := BK.out.cell (j := 3) rfl
          have p4 := BK.out.cell (j := 4) rfl
          have p5 := BK.out.cell (j := 5) rfl
          have po := kp_of_below BX.out _ _ HCO.out
          have lox : ob < wo.heap.size := by omega
          have zo5 : wx.frozen? ⟨ob, 0, none⟩ = false := (BX.out.frozen (p := ⟨ob, 0, none⟩) lox).trans HZO.out
          have neo : some ob ≠ v.ownBlock := fun e => by have := (HO.out.lt _ e.symm).1; omega
          clear hkv14 hblk
          go_wp2_with (first
            | (at_builtin; refine wpList_append_own_at _ rfl _ _ 35 rfl w2.heap.size 39 iC _ 6 80 Tryd.underlying35 hiC hzC0 hzC1 hzC2 rfl (by decide) v k (crowsOf l fb2 k) rfl ((own_below HO.out BX.out).alloc _) ⟨wx.heap.size, 0, none⟩ 1 1 [.string (audioB cd), .int .i64 cd.rate, .int .i64 cd.chans, .string cd.line, .slice A14 cd.fb.length c14, .int .i64 cd.pay] rfl rfl (news_first wx #[.string (audioB cd), .int .i64 cd.rate, .int .i64 cd.chans, .string cd.line, .slice A14 cd.fb.length c14, .int .i64 cd.pay] _) (by simp [Value.oneCell']) (by unfold maxLen; omega) (by omega) (by rw [World.size_alloc]; omega) ?_; intro v7 w7 hown7 hg7 _ hat7; have H7 := Lib.hid hown7; have G7 := Lib.hid (grown_alloc1 hg7); have T7 := Lib.hid hat7; obtain ⟨A7, c7, rfl⟩ := own_shape hown7; clear hown7 hg7 hat7)
            | (refine wpList_store_cell rfl _ _ _ rfl ob 0 (.slice A7 (k + 1) c7) v rfl rfl (by kernel_rfl) rfl (grown_cellO G7.out neo po) ((grown_frozenO G7.out neo po).trans zo5) ?_; intro w9 e9; have E9 := Lib.hid e9; clear e9))
          have epar : codRow cd (.slice A14 cd.fb.length c14) = [.string (audioB cd), .int .i64 cd.rate, .int .i64 cd.chans, .string cd.line, .slice A14 cd.fb.length c14, .int .i64 cd.pay] := rfl
          have erow : crowsOf l (fun i => if i = k then .slice A14 cd.fb.length c14 else fb2 i) (k + 1) = crowsOf l fb2 k ++ [.string (audioB cd), .int .i64 cd.rate, .int .i64 cd.chans, .string cd.line, .slice A14 cd.fb.length c14, .int .i64 cd.pay] := by
            rw [← epar]
            simp only [crowsOf, hlk, if_true]
            congr 1
            exact crowsOf_congr l k (fun i hi => if_neg (by omega))
          have oge : ∀ j, (Value.slice A7 (k + 1) c7).ownBlock = some j → w2.heap.size ≤ j := fun j hj => (H7.out.lt j hj).1
          have row9 : w9.ownsRow w2.heap.size 39 6 (.slice A7 (k + 1) c7) (k + 1) (crowsOf l (fun i => if i = k then .slice A14 cd.fb.length c14 else fb2 i) (k + 1)) := by
            rw [erow, E9.out]
            exact H7.out.kept (grown_setC _) (.inr fun e => by have := oge _ e; omega)
          have c9 : w9.cell? ⟨ob, 0, none⟩ = some (.slice A7 (k + 1) c7) := by rw [E9.out]; exact World.cell?_setCell_same _ _ _ (grown_cellO G7.out neo po)
          have z9 : w9.frozen? ⟨ob, 0, none⟩ = false := by rw [E9.out, World.frozen?_setCell]; exact (grown_frozenO G7.out neo po).trans zo5
          have ato : (Value.slice A7 (k + 1) c7).ownBlock = v.ownBlock ∨ ∃ g, (Value.slice A7 (k + 1) c7).ownBlock = some g ∧ wx.heap.size ≤ g := T7.out.imp id (fun h => ⟨_, h, by simp⟩)
          have hkv : ∀ i (h : i < k + 1) (h' : i < l.length), ∃ A c, (if i = k then Value.slice A14 cd.fb.length c14 else fb2 i) = .slice A l[i].fb.length c ∧ KVs (fun b => w2.heap.size ≤ b ∧ some b ≠ (Value.slice A7 (k + 1) c7).ownBlock) w9 A l[i].fb := fun i h h' => by
            have fin : ∀ A l', KVs (fun b => w2.heap.size ≤ b ∧ some b ≠ v.ownBlock) wx A l' → KVs (fun b => w2.heap.size ≤ b ∧ some b ≠ (Value.slice A7 (k + 1) c7).ownBlock) w9 A l' := fun A l' hh => by
              rw [E9.out]
              exact (kvs_stepO hh G7.out ato).keepOn ((KpOn.refl _ _).setCell (fun hh => by have h1 : w2.heap.size ≤ ob := hh.1; omega) _)
            by_cases e : i = k
            · subst e
              rw [if_pos rfl, hcd]
              refine ⟨A14, c14, rfl, fin _ _ (HKV.out.wide (fun b hb _ => ⟨by have hb : wo.heap.size + 2 ≤ b := hb; omega, fun q => ?_⟩))⟩
              have := (HO.out.lt _ q.symm).2
              have hb : wo.heap.size + 2 ≤ b := hb
              omega
            · rw [if_neg e]
              obtain ⟨A, c, q1, q2⟩ := HF2.out i (by omega) h'
              exact ⟨A, c, q1, fin _ _ (q2.keep (kp_of_below BX.out))⟩
          have g9 : w2.grownBy w9 (some ob) := by
            rw [E9.out]
            exact ((HGR.out.andThen (grown_of_below BX.out none) (fun j hj => by cases hj)).andThen G7.out (fun j hj => .inl (HO.out.lt j hj).1)).andThen (grown_setC _) (fun j hj => .inr hj)
          have R9 := Lib.hid row9
          have C9 := Lib.hid c9
          have Z9 := Lib.hid z9
          have K9 := Lib.hid hkv
          have L9 := Lib.hid g9
          clear row9 c9 z9 hkv g9 epar erow p0 p1 p2 p3 p4 p5 po zo5
          go_roundw
          case rel => exact ⟨k + 1, _, _, hlt, by go_num, C9.out, Z9.out, R9.out, K9.out, L9.out⟩
          case measure => simp [intOf]; omega
    · obtain rfl : k = l.length := by omega
      have hd1 : decide ((l.length : Int) < (l.length : Int)) = false := by simp
      go_wp2_with fail
      go_ret
      refine ⟨rfl, v, fb2, HCO.out, HZO.out, ownsRow_base (by have := B2.out.size; omega) HO.out, fun i h => ?_, (grown_of_below B2.out _).andThen HGR.out (fun j hj => .inr hj)⟩
      obtain ⟨A, c, q1, q2⟩ := HF2.out i h h
      exact ⟨A, c, q1, q2.wide fun b hb _ => Nat.le_trans B2.out.size hb.1⟩
end Go.Proofs.YtkaelnfhohggeaaDoor
