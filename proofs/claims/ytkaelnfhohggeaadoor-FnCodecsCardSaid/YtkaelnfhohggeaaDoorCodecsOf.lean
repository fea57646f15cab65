/- codecsFromMediaDescription on FnCodecs' medium. -/
import Derived.Test.YtkaelnfhohggeaaDoorGetCodec
import Derived.Deep.RegionHeld3
import Derived.Deep.AppendLies
namespace Go.Proofs.YtkaelnfhohggeaaDoor
open Go.RowKit Go.Maps

theorem Tryd.infoFb : (Tryd.prog.info? 64).map (fun i => (i.zero, i.size, i.bytes)) = some (some (.agg #[.string ByteArray.empty, .string ByteArray.empty]), 2, 32) := by kernel_rfl
theorem Tryd.infoPar : (Tryd.prog.info? 62).map (fun i => (i.zero, i.size, i.bytes)) = some (some (.agg #[.string ByteArray.empty, .int .u32 0, .int .u16 0, .string ByteArray.empty, .slice none 0 0, .int .u8 0]), 6, 72) := by kernel_rfl

def audioB (c : Cod) : ByteArray := (⟨#[97, 117, 100, 105, 111]⟩ ++ ⟨#[47]⟩) ++ c.name
def parRow (c : Cod) (fb : Value) : List Value := [.string (audioB c), .int .u32 c.rate, .int .u16 c.chans, .string c.line, fb, .int .u8 c.pay]
def rowsOf (l : List Cod) (fbs : Nat → Value) : Nat → List Value
  | 0 => []
  | k + 1 => rowsOf l fbs k ++ (match l[k]? with | some c => parRow c (fbs k) | none => [])
theorem rowsOf_congr (l : List Cod) {a b : Nat → Value} : ∀ (k : Nat), (∀ i, i < k → a i = b i) → rowsOf l a k = rowsOf l b k
  | 0, _ => rfl
  | k + 1, h => by
    simp only [rowsOf]
    rw [rowsOf_congr l k (fun i hi => h i (by omega)), h k (by omega)]

theorem news_second (w : World) (X : Obj) (cs : Array Value) (T : TypeId) : ∀ j u, cs.toList[j]? = some u → ((w.alloc X).alloc (.cells cs T)).cell? ((⟨w.heap.size + 1, 0, none⟩ : Addr).add j) = some u := fun j u hj => by
  rw [add_at]
  have h := Blk.new (w.alloc X) cs.toList T
  rw [World.size_alloc] at h
  exact h.cell hj

theorem steps_length : ∀ (l : List Cod), (∀ c ∈ l, CodIs c) → (allSteps l).length ≤ 5 * l.length
  | [], _ => by simp [allSteps]
  | c :: r, h => by
    have ih := steps_length r (fun d hd => h d (by simp [hd]))
    have hc := (h c (by simp)).len
    have e : allSteps (c :: r) = codSteps c ++ allSteps r := by simp [allSteps]
    have h1 : (codSteps c).length ≤ 5 := by
      unfold codSteps
      split <;> simp <;> omega
    rw [e, List.length_append, List.length_cons]
    omega
theorem grown_alloc_drew {w w' : World} {O : Obj} {row : Option Nat} (h : (w.alloc O).drew.grownBy w' row) : w.grownBy w' row :=
  (World.grownBy_alloc w O row).andThen (⟨h.os, h.tape, h.output, h.size, h.block⟩ : (w.alloc O).grownBy w' row) (fun _ hj => .inr hj)
theorem kvs_step {wx w8 : World} {S gg : Nat} {own : Option Nat} {A : Option Addr} {l : List KV} (h : KVs (fun b => S ≤ b ∧ some b ≠ own) wx A l) (g : wx.grownBy w8 own) (hat : own = some gg ∨ gg = wx.heap.size + 1) :
    KVs (fun b => S ≤ b ∧ some b ≠ some gg) w8 A l := fun i p hp => by
  obtain ⟨b, o, e, ⟨h1, h2⟩, c, d⟩ := h i p hp
  have lt : b < wx.heap.size := World.block_lt_of_cell? _ _ c
  have kb := g.block b lt h2
  refine ⟨b, o, e, ⟨h1, fun q => ?_⟩, ?_, ?_⟩
  · injection q with q
    rcases hat with h3 | h3
    · exact h2 (by rw [q, h3])
    · omega
  · simp only [World.cell?] at c ⊢; rw [kb]; exact c
  · simp only [World.cell?] at d ⊢; rw [kb]; exact d

set_option maxHeartbeats 4000000 in
set_option maxRecDepth 100000 in
theorem codecsOf_any {D : Nat → Prop} (p : Nat) (l : List Cod) (w : World) (ev0 ev1 ev2 evs : Value) (hl : l.length ≤ 5) (hc : ∀ c ∈ l, CodIs c) (hd : (l.map Cod.pay).Nodup)
    (hmd : MD D w p ⟨#[97, 117, 100, 105, 111]⟩ (l.map fun c => dec c.pay) ((allSteps l).map stepAttr))
    (hg0 : w.cell? ⟨0, 0, none⟩ = some ev0) (hg1 : w.cell? ⟨1, 0, none⟩ = some ev1) (hg2 : w.cell? ⟨2, 0, none⟩ = some ev2)
    (hgs : w.cell? ⟨3, 0, none⟩ = some evs) (hevs : evs = .nilIface ∨ ∃ te pe, evs = .iface te pe) :
    Calls Tryd.prog 23 #[.pointer (some ⟨p, 0, none⟩)] w fun e w' => ∃ v fbs B, e = .returned (.tuple #[v, .nilIface]) ∧ w.heap.size ≤ B ∧ w'.ownsRow B 62 6 v l.length (rowsOf l fbs l.length) ∧
      (∀ i (h : i < l.length), ∃ A k, fbs i = .slice A l[i].fb.length k ∧ KVs (w.heap.size ≤ ·) w' A l[i].fb) ∧ Below w.heap.size w w' := by
  have HS := all_steps l (fun _ => none) hc hd (fun _ _ => rfl)
  have hlen : (allSteps l).length ≤ 1000 := by have := steps_length l hc; omega
  have HC := Lib.hid hc
  have HF := Lib.hid HS.2.1
  have HM := Lib.hid hmd
  obtain ⟨_, k0, ⟨A4, c4, k4, hst⟩, _⟩ := hmd
  have e4 : (l.map fun c => dec c.pay).length = l.length := by simp
  rw [e4] at k4
  have HST := Lib.hid hst
  have lp := World.block_lt_of_cell? _ _ k0
  have K0 := Lib.hid k0
  have K4 := Lib.hid k4
  have GS := Lib.hid hgs
  have EVS := Lib.hid hevs
  clear hc hst e4 hgs hevs
  have HGC := fun (wx : World) (k : Kp w wx) (q pb : Nat) h1 h2 => getCodecMap_any (D := D) q pb p (allSteps l) _ _ wx ev0 ev1 ev2 HS.1 hlen h1 h2 (HM.out.keep k) (k _ _ hg0) (k _ _ hg1) (k _ _ hg2)
  have HGC := Lib.hid HGC
  clear HS hg0 hg1 hg2
  go_enter Tryd.func23, Tryd.ntmps23
  go_wp2_with (go_at_call 28; refine (HGC.out _ ((Kp.alloc _ _).trans (Kp.alloc _ _)) (w.heap.size + 1) w.heap.size (by simp [go_sem]) (by simp [go_sem])).mono ?_; rintro e w1 ⟨m, n, B, f, V, rfl, hrel, hmw, hb1⟩; have bw1 : Below w.heap.size w w1 := (((Below.refl _ w).alloc (Nat.le_refl _) _).alloc (by simp) _).trans (hb1.mono (by simp; omega)); have f4 := kp_of_below bw1 _ _ K4.out)
  obtain ⟨iF, hiF, hzF0, hzF1, hzF2⟩ := info_parts Tryd.infoFb
  obtain ⟨iP, hiP, hzP0, hzP1, hzP2⟩ := info_parts Tryd.infoPar
  have HR := Lib.hid hrel
  have BW1 := Lib.hid bw1
  clear hrel hb1 bw1
  go_loopw [2, 31] (fun v i wr => ∃ (k : Nat) (fbs : Nat → Value), k ≤ l.length ∧ i = .int .i64 (k : Nat) ∧ wr.ownsRow w1.heap.size 62 6 v k (rowsOf l fbs k) ∧
    (∀ i (h : i < k) (h' : i < l.length), ∃ A c, fbs i = .slice A l[i].fb.length c ∧ KVs (fun b => w.heap.size ≤ b ∧ some b ≠ v.ownBlock) wr A l[i].fb) ∧ Below w1.heap.size w1 wr) (fun _ i _ => l.length - (intOf i).toNat)
  case atStart => exact ⟨0, fun _ => .slice none 0 0, Nat.zero_le _, rfl, World.ownsRow_nil _ _ _ _, fun i h => by omega, Below.refl _ _⟩
  case round =>
    obtain ⟨k, fbs, hk, rfl, hown, hfb, hb⟩ := hrel
    have HO := Lib.hid hown
    have HFB := Lib.hid hfb
    have HB := Lib.hid hb
    have bwr : Below w.heap.size w wr := below_step BW1.out BW1.out.size hb
    have BWR := Lib.hid bwr
    clear hown hfb hb bwr
    by_cases hlt : k < l.length
    · have hd1 : decide ((k : Int) < (l.length : Int)) = true := by simp; omega
      obtain ⟨sb, so, rfl, _, d0⟩ := HST.out k (dec l[k].pay) (by simp [hlt])
      have d0 := kp_of_below BWR.out _ _ d0
      have hci := HC.out l[k] (List.getElem_mem hlt)
      have hF := HF.out l[k] (List.getElem_mem hlt)
      have hrl := HR.out.below HB.out
      obtain ⟨hf, hrow, _⟩ := hrl.some_ _ _ hF
      obtain ⟨vA, vc, hvs⟩ := own_shape hrow
      obtain ⟨vA', vc', hvs', hstx⟩ := own_strs hrow
      obtain rfl : vA' = vA := by rw [hvs] at hvs'; injection hvs' with h _ _; exact h.symm
      rw [hvs] at hf
      clear hrow hvs hvs'
      simp only [List.length_map] at hf
      have hlk : l[k]? = some l[k] := List.getElem?_eq_getElem hlt
      generalize hcd : l[k] = cd at hci hF hf hstx d0 hlk
      have HSX := Lib.hid hstx
      have HRL := Lib.hid hrl
      have hpay := hci.pay
      have hrate := hci.rate
      have hch := hci.chans
      have u8 := Lib.hid (fun w => Tryd.strconv_ParseUint_10_at8_ok (dec cd.pay) (by have := dec_short (n := cd.pay) (by omega); omega) cd.pay (parseB_dec 8 cd.pay (by decide) (by omega)) w)
      have hw8 : IntKind.u8.wrap (cd.pay : Int) = cd.pay := IntWalk.u8_in _ (by omega)
      have hw16 : IntKind.u16.wrap (cd.chans : Int) = cd.chans := IntWalk.u16_in _ (by omega)
      clear hstx hrl
      by_cases hcz : 0 < cd.chans
      · have henc : encB cd = dec cd.chans := by unfold encB; rw [if_pos hcz]
        rw [henc] at hf
        have HFK := Lib.hid hf
        clear hf
        have u16 := Lib.hid (fun w => Tryd.strconv_ParseUint_10_at16_ok (dec cd.chans) (by have := dec_short (n := cd.chans) (by omega); omega) cd.chans (parseB_dec 16 cd.chans (by decide) (by omega)) w)
        go_wp2_with (first
          | (go_at_call_of 29 (dec cd.pay); refine (u8.out _).mono ?_; rintro e w3 ⟨rfl, hb3'⟩; have hb3 := below_pu hb3'; clear hb3'; have HB3 := Lib.hid hb3; clear hb3)
          | (refine wpList_look_cod_ok _ rfl _ _ rfl m n f rfl (HRL.out.map.below HB3.out) cd.pay (by omega) rfl _ HFK.out ?_; simp only [codV])
          | (go_at_call_of 29 (dec cd.chans); refine (u16.out _).mono ?_; rintro e w4 ⟨rfl, hb4'⟩; have hb4 := below_pu hb4'; clear hb4'; have HB4 := Lib.hid hb4; clear hb4; have CB4 := Lib.hid ((Blk.new w3 [.int .u8 cd.pay, .string cd.name, .int .u32 cd.rate, .string (dec cd.chans), .string cd.line, .slice vA' cd.fb.length vc] 101).below HB4.out); have q5 := cell_al (CB4.out.cell (j := 5) rfl) (.cells #[] 64); have z4 : w3.heap.size < w4.heap.size := CB4.out.lt))
        have K4 : Kp wr w4 := (kp_of_below HB3.out).trans ((Kp.alloc _ _).trans (kp_of_below HB4.out))
        have bw4 : Below w.heap.size w w4 := below_step (below_step BWR.out BWR.out.size HB3.out |>.alloc (Nat.le_trans BWR.out.size HB3.out.size) _) (Nat.le_trans BWR.out.size (Nat.le_trans HB3.out.size (by simp))) HB4.out
        have HSX4 := Lib.hid (HSX.out.keep K4)
        have hlen3 := hci.len
        have HK4 := Lib.hid K4
        have BW4 := Lib.hid bw4
        clear K4 bw4 q5
        go_loopw [14, 69] (fun v2 j wx => ∃ q : Nat, q ≤ cd.fb.length ∧ j = .int .i64 (q : Nat) ∧ wx.ownsRow w4.heap.size 64 2 v2 q (kvCells (cd.fb.take q)) ∧ Below w4.heap.size w4 wx) (fun _ j _ => cd.fb.length - (intOf j).toNat)
        case atStart => exact ⟨0, Nat.zero_le _, rfl, World.ownsRow_made w4 #[] 0 (Nat.le_refl _) (Nat.zero_le _) rfl, (Below.refl _ _).alloc (Nat.le_refl _) _⟩
        case round =>
          obtain ⟨wx, rfl⟩ : ∃ wx : World, wx = wr := ⟨_, rfl⟩
          obtain ⟨q, hq, rfl, hown2, hbx⟩ := hrel
          have HO2 := Lib.hid hown2
          have HBX := Lib.hid hbx
          clear hown2 hbx
          by_cases hql : q < cd.fb.length
          · have hd2 : decide ((q : Int) < (cd.fb.length : Int)) = true := by simp; omega
            obtain ⟨tb, to, rfl, _, e0⟩ := HSX4.out q (fbText cd.fb[q]) (by simp [hql])
            have e0 := kp_of_below HBX.out _ _ e0
            have hmem := hci.fb cd.fb[q] (List.getElem_mem hql)
            have htz := fbText_size hmem.1 hmem.2
            have hsp := fun w => split_any (fbText cd.fb[q]) 32 w (by omega)
            rw [fb_pieces hmem.1 hmem.2] at hsp
            have htk : cd.fb.take (q + 1) = cd.fb.take q ++ [cd.fb[q]] := by rw [List.take_add_one, List.getElem?_eq_getElem hql]; rfl
            have HTK := Lib.hid htk
            clear htk
            generalize cd.fb[q] = ff at e0 hmem htz hsp HTK
            have sx := Nat.le_trans BW4.out.size HBX.out.size
            by_cases hz : ff.2.size = 0
            · rw [if_pos hz] at hsp
              have HSP := Lib.hid hsp
              clear hsp
              obtain ⟨f1, f2⟩ := ff
              have ef : f2 = ⟨#[]⟩ := by
                apply ByteArray.ext
                apply Array.toList_inj.1
                have : f2.data.toList.length = 0 := by rw [← Lib.size_eq]; exact hz
                exact List.length_eq_zero_iff.1 this
              subst ef
              go_wp2_with (first
                | (go_at_call 30; refine (HSP.out _).mono ?_; rintro e w6 ⟨A6, k6, rfl, hr6, hb6⟩; obtain ⟨b6, o6, rfl, _, p0⟩ := hr6 0 _ rfl; simp only [Nat.add_zero, List.length_cons, List.length_nil] at p0 ⊢; have HO6 := Lib.hid (own_below HO2.out hb6); have HB6 := Lib.hid (below_step HBX.out HBX.out.size hb6); clear hr6 hb6)
                | (at_builtin; refine wpList_append_own_at _ rfl _ _ 57 rfl w4.heap.size 64 iF _ 2 32 Tryd.underlying57 hiF hzF0 hzF1 hzF2 rfl (by decide) _ q (kvCells (cd.fb.take q)) rfl ((HO6.out.alloc _).alloc _) ⟨w6.heap.size + 1, 0, none⟩ 1 1 [.string f1, .string ⟨#[]⟩] rfl rfl (news_second w6 _ #[.string f1, .string ⟨#[]⟩] _) (by simp [Value.oneCell']) (by have := hci.len; unfold maxLen; omega) (by have := hci.len; omega) (Nat.le_trans HB6.out.size (by rw [World.size_alloc, World.size_alloc]; omega)) ?_; intro v7 w7 hown7 hg7 _ hat7; have H7 := Lib.hid (And.intro hown7 (And.intro hg7 hat7)); clear hown7 hg7 hat7))
              have row7 : w7.ownsRow w4.heap.size 64 2 v7 (q + 1) (kvCells (cd.fb.take (q + 1))) := by rw [HTK.out, kvCells_snoc]; exact H7.out.1
              have bel7 : Below w4.heap.size w4 w7 := ((HB6.out.alloc HB6.out.size _).alloc (Nat.le_trans HB6.out.size (by simp)) _).grown H7.out.2.1 (Nat.le_trans HB6.out.size (by rw [World.size_alloc, World.size_alloc]; omega)) (fun j hj => (HO6.out.lt j hj).1)
              have R7 := Lib.hid row7
              have BL7 := Lib.hid bel7
              clear row7 bel7
              go_roundw
              case rel => exact ⟨q + 1, hql, by go_num, R7.out, BL7.out⟩
              case measure => simp [intOf]; omega
            · rw [if_neg hz] at hsp
              have HSP := Lib.hid hsp
              clear hsp
              obtain ⟨f1, f2⟩ := ff
              go_wp2_with (first
                | (go_at_call 30; refine (HSP.out _).mono ?_; rintro e w6 ⟨A6, k6, rfl, hr6, hb6⟩; obtain ⟨b6, o6, rfl, _, p0⟩ := hr6 0 _ rfl; obtain ⟨_, _, e6, _, p1⟩ := hr6 1 _ rfl; cases e6; have lb6 : b6 < w6.heap.size := World.block_lt_of_cell? _ _ p0; have nb6 : b6 ≠ w6.heap.size := (by omega); simp only [Nat.add_zero, List.length_cons, List.length_nil] at p0 p1 ⊢; have HO6 := Lib.hid (own_below HO2.out hb6); have HB6 := Lib.hid (below_step HBX.out HBX.out.size hb6); clear hr6 hb6)
                | (at_builtin; refine wpList_append_own_at _ rfl _ _ 57 rfl w4.heap.size 64 iF _ 2 32 Tryd.underlying57 hiF hzF0 hzF1 hzF2 rfl (by decide) _ q (kvCells (cd.fb.take q)) rfl ((HO6.out.alloc _).alloc _) ⟨w6.heap.size + 1, 0, none⟩ 1 1 [.string f1, .string f2] rfl rfl (news_second w6 _ #[.string f1, .string f2] _) (by simp [Value.oneCell']) (by have := hci.len; unfold maxLen; omega) (by have := hci.len; omega) (Nat.le_trans HB6.out.size (by rw [World.size_alloc, World.size_alloc]; omega)) ?_; intro v7 w7 hown7 hg7 _ hat7; have H7 := Lib.hid (And.intro hown7 (And.intro hg7 hat7)); clear hown7 hg7 hat7))
              have row7 : w7.ownsRow w4.heap.size 64 2 v7 (q + 1) (kvCells (cd.fb.take (q + 1))) := by rw [HTK.out, kvCells_snoc]; exact H7.out.1
              have bel7 : Below w4.heap.size w4 w7 := ((HB6.out.alloc HB6.out.size _).alloc (Nat.le_trans HB6.out.size (by simp)) _).grown H7.out.2.1 (Nat.le_trans HB6.out.size (by rw [World.size_alloc, World.size_alloc]; omega)) (fun j hj => (HO6.out.lt j hj).1)
              have R7 := Lib.hid row7
              have BL7 := Lib.hid bel7
              clear row7 bel7
              go_roundw
              case rel => exact ⟨q + 1, hql, by go_num, R7.out, BL7.out⟩
              case measure => simp [intOf]; omega
          · obtain rfl : q = cd.fb.length := by omega
            rw [List.take_length] at HO2
            have hd2 : decide ((cd.fb.length : Int) < (cd.fb.length : Int)) = false := by simp
            go_wp2_with fail
            obtain ⟨A14, c14, rfl, hkv14⟩ := own_kvs HO2.out
            have HKV14 := Lib.hid hkv14
            clear hkv14 HO2
            have CBX := CB4.out.below HBX.out
            have neP : some p ≠ u2.ownBlock := fun e => by have := (HO.out.lt _ e.symm).1; have := BW1.out.size; omega
            have neC : some w3.heap.size ≠ u2.ownBlock := fun e => by have := (HO.out.lt _ e.symm).2; have := HB3.out.size; omega
            have lc3 : w3.heap.size < wx.heap.size := CBX.lt
            have lpx : p < wx.heap.size := World.block_lt_of_cell? _ _ (kp_of_below HBX.out _ _ (HK4.out _ _ (kp_of_below BWR.out _ _ K0.out)))
            have s1 := CBX.cell (j := 1) rfl
            have s2 := CBX.cell (j := 2) rfl
            have s4 := CBX.cell (j := 4) rfl
            have s0 := kp_of_below HBX.out _ _ (HK4.out _ _ (kp_of_below BWR.out _ _ K0.out))
            have nsz := (word_size hci.name).2
            have g1 : ¬ 9223372036854775807 < 6 + cd.name.size := by omega
            have g2 : ¬ 9223372036854775807 < 5 + 1 + cd.name.size := by omega
            have HOX := Lib.hid (own_below (own_below (own_below HO.out HB3.out |>.alloc (.cells #[.int .u8 cd.pay, .string cd.name, .int .u32 cd.rate, .string (dec cd.chans), .string cd.line, .slice vA' cd.fb.length vc] 101)) HB4.out) HBX.out)
            have bwx : Below w.heap.size w wx := below_step BW4.out BW4.out.size HBX.out
            have b1x : Below w1.heap.size w1 wx := ((((HB.out.trans (HB3.out.mono HB.out.size)).alloc (Nat.le_trans HB.out.size HB3.out.size) _).trans (HB4.out.mono (Nat.le_trans HB.out.size (Nat.le_trans HB3.out.size (by simp))))).trans (HBX.out.mono (Nat.le_trans (Nat.le_trans HB.out.size (Nat.le_trans HB3.out.size (by simp))) HB4.out.size)))
            have B1X := Lib.hid b1x
            have BWX := Lib.hid bwx
            clear b1x bwx
            go_region_held3 (fun w' => w'.cell? ⟨p, 0, none⟩ = some (.string ⟨#[97, 117, 100, 105, 111]⟩) ∧ w'.cell? ⟨w3.heap.size, 1, none⟩ = some (.string cd.name) ∧ w'.cell? ⟨w3.heap.size, 2, none⟩ = some (.int .u32 cd.rate) ∧ w'.cell? ⟨w3.heap.size, 4, none⟩ = some (.string cd.line))
              (first
                | exact ⟨s0, s1, s2, s4⟩
                | exact ⟨cell_al s0 _, cell_al s1 _, cell_al s2 _, cell_al s4 _⟩
                | (refine ⟨?_, ?_, ?_, ?_⟩ <;> first | exact (hg8.cell_far _ (by simp; omega) neP).trans (cell_al (by assumption) _) | exact (hg8.cell_far _ (by simp; omega) neC).trans (cell_al (by assumption) _))
                | go_keep)
              (first
                | (refine step_append_lies _ (by rfl) _ _ _ (by rfl) w1.heap.size 62 iP _ 6 72 Tryd.underlying48 hiP hzP0 hzP1 hzP2 rfl (by omega) _ k (rowsOf l fbs k) (by rfl) ((HOX.out.alloc _).drew) ⟨wx.heap.size, 0, none⟩ 1 1 [.string (audioB cd), .int .u32 cd.rate, .int .u16 cd.chans, .string cd.line, .slice A14 cd.fb.length c14, .int .u8 cd.pay] (by rfl) (by rfl) (World.news_of_block (cs := #[.string (audioB cd), .int .u32 cd.rate, .int .u16 cd.chans, .string cd.line, .slice A14 cd.fb.length c14, .int .u8 cd.pay]) (t := 62) (fr := (0, 0)) (heap_alloc_new wx _)) (by simp [Value.oneCell']) (by omega) (by unfold maxLen; omega) (by omega) (by have := B1X.out.size; simp; omega) (wx.heap.size + 1) (by simp) ?_; intro gg cap w8 hown8 hg8 hat8 hlt8))
            have epar : parRow cd (.slice A14 cd.fb.length c14) = [.string (audioB cd), .int .u32 cd.rate, .int .u16 cd.chans, .string cd.line, .slice A14 cd.fb.length c14, .int .u8 cd.pay] := by unfold parRow; rfl
            have erow : rowsOf l (fun i => if i = k then .slice A14 cd.fb.length c14 else fbs i) (k + 1) = rowsOf l fbs k ++ [.string (audioB cd), .int .u32 cd.rate, .int .u16 cd.chans, .string cd.line, .slice A14 cd.fb.length c14, .int .u8 cd.pay] := by
              rw [← epar]
              simp only [rowsOf, hlk, if_true]
              congr 1
              exact rowsOf_congr l k (fun i hi => if_neg (by omega))
            have row8 : w8.ownsRow w1.heap.size 62 6 (.slice (some ⟨gg, 0, none⟩) (k + 1) cap) (k + 1) (rowsOf l (fun i => if i = k then .slice A14 cd.fb.length c14 else fbs i) (k + 1)) := by rw [erow]; exact hown8
            have g8 : wx.grownBy w8 u2.ownBlock := grown_alloc_drew hg8
            have hkv : ∀ i (h : i < k + 1) (h' : i < l.length), ∃ A c, (if i = k then Value.slice A14 cd.fb.length c14 else fbs i) = .slice A l[i].fb.length c ∧ KVs (fun b => w.heap.size ≤ b ∧ some b ≠ some gg) w8 A l[i].fb := fun i h h' => by
              by_cases e : i = k
              · subst e
                rw [if_pos rfl, hcd]
                refine ⟨A14, c14, rfl, kvs_step (HKV14.out.wide (fun b hb _ => ⟨Nat.le_trans BW4.out.size hb, fun q => ?_⟩)) g8 hat8⟩
                have := (HO.out.lt _ q.symm).2
                have := HB3.out.size
                have hb : w4.heap.size ≤ b := hb
                have := CB4.out.lt
                omega
              · rw [if_neg e]
                obtain ⟨A, c, q1, q2⟩ := HFB.out i (by omega) h'
                exact ⟨A, c, q1, kvs_step (q2.keep (HK4.out.trans (kp_of_below HBX.out))) g8 hat8⟩
            have bel8 : Below w1.heap.size w1 w8 := B1X.out.grown g8 B1X.out.size (fun j hj => (HO.out.lt j hj).1)
            have R8 := Lib.hid row8
            have K8 := Lib.hid hkv
            have BL8 := Lib.hid bel8
            clear row8 hkv bel8 hown8 hg8 g8 epar erow s0 s1 s2 s4
            go_wp2_with fail
            go_roundw
            case rel => exact ⟨k + 1, _, hlt, by go_num, R8.out, K8.out, BL8.out⟩
            case measure => simp [intOf]; omega
      · have henc : encB cd = ⟨#[]⟩ := by unfold encB; rw [if_neg hcz]
        have hc0 : cd.chans = 0 := by omega
        rw [henc] at hf
        have HFK := Lib.hid hf
        clear hf
        have u16 := Lib.hid (fun w h => Tryd.strconv_ParseUint_10_at16_empty evs w h EVS.out)
        go_wp2_with (first
          | (go_at_call_of 29 (dec cd.pay); refine (u8.out _).mono ?_; rintro e w3 ⟨rfl, hb3'⟩; have hb3 := below_pu hb3'; clear hb3'; have HB3 := Lib.hid hb3; clear hb3)
          | (refine wpList_look_cod_ok _ rfl _ _ rfl m n f rfl (HRL.out.map.below HB3.out) cd.pay (by omega) rfl _ HFK.out ?_; simp only [codV])
          | (go_at_call 29; refine (u16.out _ (cell_al (kp_of_below HB3.out _ _ (kp_of_below BWR.out _ _ GS.out)) _)).mono ?_; rintro e w4 ⟨N4, rfl, _, _, hb4⟩; have HB4 := Lib.hid hb4; clear hb4; have CB4 := Lib.hid ((Blk.new w3 [.int .u8 cd.pay, .string cd.name, .int .u32 cd.rate, .string ⟨#[]⟩, .string cd.line, .slice vA' cd.fb.length vc] 101).below HB4.out); have q5 := cell_al (CB4.out.cell (j := 5) rfl) (.cells #[] 64); have z4 : w3.heap.size < w4.heap.size := CB4.out.lt))
        have K4 : Kp wr w4 := (kp_of_below HB3.out).trans ((Kp.alloc _ _).trans (kp_of_below HB4.out))
        have bw4 : Below w.heap.size w w4 := below_step (below_step BWR.out BWR.out.size HB3.out |>.alloc (Nat.le_trans BWR.out.size HB3.out.size) _) (Nat.le_trans BWR.out.size (Nat.le_trans HB3.out.size (by simp))) HB4.out
        have HSX4 := Lib.hid (HSX.out.keep K4)
        have hlen3 := hci.len
        have HK4 := Lib.hid K4
        have BW4 := Lib.hid bw4
        clear K4 bw4 q5
        go_loopw [14, 69] (fun v2 j wx => ∃ q : Nat, q ≤ cd.fb.length ∧ j = .int .i64 (q : Nat) ∧ wx.ownsRow w4.heap.size 64 2 v2 q (kvCells (cd.fb.take q)) ∧ Below w4.heap.size w4 wx) (fun _ j _ => cd.fb.length - (intOf j).toNat)
        case atStart => exact ⟨0, Nat.zero_le _, rfl, World.ownsRow_made w4 #[] 0 (Nat.le_refl _) (Nat.zero_le _) rfl, (Below.refl _ _).alloc (Nat.le_refl _) _⟩
        case round =>
          obtain ⟨wx, rfl⟩ : ∃ wx : World, wx = wr := ⟨_, rfl⟩
          obtain ⟨q, hq, rfl, hown2, hbx⟩ := hrel
          have HO2 := Lib.hid hown2
          have HBX := Lib.hid hbx
          clear hown2 hbx
          by_cases hql : q < cd.fb.length
          · have hd2 : decide ((q : Int) < (cd.fb.length : Int)) = true := by simp; omega
            obtain ⟨tb, to, rfl, _, e0⟩ := HSX4.out q (fbText cd.fb[q]) (by simp [hql])
            have e0 := kp_of_below HBX.out _ _ e0
            have hmem := hci.fb cd.fb[q] (List.getElem_mem hql)
            have htz := fbText_size hmem.1 hmem.2
            have hsp := fun w => split_any (fbText cd.fb[q]) 32 w (by omega)
            rw [fb_pieces hmem.1 hmem.2] at hsp
            have htk : cd.fb.take (q + 1) = cd.fb.take q ++ [cd.fb[q]] := by rw [List.take_add_one, List.getElem?_eq_getElem hql]; rfl
            have HTK := Lib.hid htk
            clear htk
            generalize cd.fb[q] = ff at e0 hmem htz hsp HTK
            have sx := Nat.le_trans BW4.out.size HBX.out.size
            by_cases hz : ff.2.size = 0
            · rw [if_pos hz] at hsp
              have HSP := Lib.hid hsp
              clear hsp
              obtain ⟨f1, f2⟩ := ff
              have ef : f2 = ⟨#[]⟩ := by
                apply ByteArray.ext
                apply Array.toList_inj.1
                have : f2.data.toList.length = 0 := by rw [← Lib.size_eq]; exact hz
                exact List.length_eq_zero_iff.1 this
              subst ef
              go_wp2_with (first
                | (go_at_call 30; refine (HSP.out _).mono ?_; rintro e w6 ⟨A6, k6, rfl, hr6, hb6⟩; obtain ⟨b6, o6, rfl, _, p0⟩ := hr6 0 _ rfl; simp only [Nat.add_zero, List.length_cons, List.length_nil] at p0 ⊢; have HO6 := Lib.hid (own_below HO2.out hb6); have HB6 := Lib.hid (below_step HBX.out HBX.out.size hb6); clear hr6 hb6)
                | (at_builtin; refine wpList_append_own_at _ rfl _ _ 57 rfl w4.heap.size 64 iF _ 2 32 Tryd.underlying57 hiF hzF0 hzF1 hzF2 rfl (by decide) _ q (kvCells (cd.fb.take q)) rfl ((HO6.out.alloc _).alloc _) ⟨w6.heap.size + 1, 0, none⟩ 1 1 [.string f1, .string ⟨#[]⟩] rfl rfl (news_second w6 _ #[.string f1, .string ⟨#[]⟩] _) (by simp [Value.oneCell']) (by have := hci.len; unfold maxLen; omega) (by have := hci.len; omega) (Nat.le_trans HB6.out.size (by rw [World.size_alloc, World.size_alloc]; omega)) ?_; intro v7 w7 hown7 hg7 _ hat7; have H7 := Lib.hid (And.intro hown7 (And.intro hg7 hat7)); clear hown7 hg7 hat7))
              have row7 : w7.ownsRow w4.heap.size 64 2 v7 (q + 1) (kvCells (cd.fb.take (q + 1))) := by rw [HTK.out, kvCells_snoc]; exact H7.out.1
              have bel7 : Below w4.heap.size w4 w7 := ((HB6.out.alloc HB6.out.size _).alloc (Nat.le_trans HB6.out.size (by simp)) _).grown H7.out.2.1 (Nat.le_trans HB6.out.size (by rw [World.size_alloc, World.size_alloc]; omega)) (fun j hj => (HO6.out.lt j hj).1)
              have R7 := Lib.hid row7
              have BL7 := Lib.hid bel7
              clear row7 bel7
              go_roundw
              case rel => exact ⟨q + 1, hql, by go_num, R7.out, BL7.out⟩
              case measure => simp [intOf]; omega
            · rw [if_neg hz] at hsp
              have HSP := Lib.hid hsp
              clear hsp
              obtain ⟨f1, f2⟩ := ff
              go_wp2_with (first
                | (go_at_call 30; refine (HSP.out _).mono ?_; rintro e w6 ⟨A6, k6, rfl, hr6, hb6⟩; obtain ⟨b6, o6, rfl, _, p0⟩ := hr6 0 _ rfl; obtain ⟨_, _, e6, _, p1⟩ := hr6 1 _ rfl; cases e6; have lb6 : b6 < w6.heap.size := World.block_lt_of_cell? _ _ p0; have nb6 : b6 ≠ w6.heap.size := (by omega); simp only [Nat.add_zero, List.length_cons, List.length_nil] at p0 p1 ⊢; have HO6 := Lib.hid (own_below HO2.out hb6); have HB6 := Lib.hid (below_step HBX.out HBX.out.size hb6); clear hr6 hb6)
                | (at_builtin; refine wpList_append_own_at _ rfl _ _ 57 rfl w4.heap.size 64 iF _ 2 32 Tryd.underlying57 hiF hzF0 hzF1 hzF2 rfl (by decide) _ q (kvCells (cd.fb.take q)) rfl ((HO6.out.alloc _).alloc _) ⟨w6.heap.size + 1, 0, none⟩ 1 1 [.string f1, .string f2] rfl rfl (news_second w6 _ #[.string f1, .string f2] _) (by simp [Value.oneCell']) (by have := hci.len; unfold maxLen; omega) (by have := hci.len; omega) (Nat.le_trans HB6.out.size (by rw [World.size_alloc, World.size_alloc]; omega)) ?_; intro v7 w7 hown7 hg7 _ hat7; have H7 := Lib.hid (And.intro hown7 (And.intro hg7 hat7)); clear hown7 hg7 hat7))
              have row7 : w7.ownsRow w4.heap.size 64 2 v7 (q + 1) (kvCells (cd.fb.take (q + 1))) := by rw [HTK.out, kvCells_snoc]; exact H7.out.1
              have bel7 : Below w4.heap.size w4 w7 := ((HB6.out.alloc HB6.out.size _).alloc (Nat.le_trans HB6.out.size (by simp)) _).grown H7.out.2.1 (Nat.le_trans HB6.out.size (by rw [World.size_alloc, World.size_alloc]; omega)) (fun j hj => (HO6.out.lt j hj).1)
              have R7 := Lib.hid row7
              have BL7 := Lib.hid bel7
              clear row7 bel7
              go_roundw
              case rel => exact ⟨q + 1, hql, by go_num, R7.out, BL7.out⟩
              case measure => simp [intOf]; omega
          · obtain rfl : q = cd.fb.length := by omega
            rw [List.take_length] at HO2
            have hd2 : decide ((cd.fb.length : Int) < (cd.fb.length : Int)) = false := by simp
            go_wp2_with fail
            obtain ⟨A14, c14, rfl, hkv14⟩ := own_kvs HO2.out
            have HKV14 := Lib.hid hkv14
            clear hkv14 HO2
            have CBX := CB4.out.below HBX.out
            have neP : some p ≠ u2.ownBlock := fun e => by have := (HO.out.lt _ e.symm).1; have := BW1.out.size; omega
            have neC : some w3.heap.size ≠ u2.ownBlock := fun e => by have := (HO.out.lt _ e.symm).2; have := HB3.out.size; omega
            have lc3 : w3.heap.size < wx.heap.size := CBX.lt
            have lpx : p < wx.heap.size := World.block_lt_of_cell? _ _ (kp_of_below HBX.out _ _ (HK4.out _ _ (kp_of_below BWR.out _ _ K0.out)))
            have s1 := CBX.cell (j := 1) rfl
            have s2 := CBX.cell (j := 2) rfl
            have s4 := CBX.cell (j := 4) rfl
            have s0 := kp_of_below HBX.out _ _ (HK4.out _ _ (kp_of_below BWR.out _ _ K0.out))
            have nsz := (word_size hci.name).2
            have g1 : ¬ 9223372036854775807 < 6 + cd.name.size := by omega
            have g2 : ¬ 9223372036854775807 < 5 + 1 + cd.name.size := by omega
            have HOX := Lib.hid (own_below (own_below (own_below HO.out HB3.out |>.alloc (.cells #[.int .u8 cd.pay, .string cd.name, .int .u32 cd.rate, .string ⟨#[]⟩, .string cd.line, .slice vA' cd.fb.length vc] 101)) HB4.out) HBX.out)
            have bwx : Below w.heap.size w wx := below_step BW4.out BW4.out.size HBX.out
            have b1x : Below w1.heap.size w1 wx := ((((HB.out.trans (HB3.out.mono HB.out.size)).alloc (Nat.le_trans HB.out.size HB3.out.size) _).trans (HB4.out.mono (Nat.le_trans HB.out.size (Nat.le_trans HB3.out.size (by simp))))).trans (HBX.out.mono (Nat.le_trans (Nat.le_trans HB.out.size (Nat.le_trans HB3.out.size (by simp))) HB4.out.size)))
            have B1X := Lib.hid b1x
            have BWX := Lib.hid bwx
            clear b1x bwx
            go_region_held3 (fun w' => w'.cell? ⟨p, 0, none⟩ = some (.string ⟨#[97, 117, 100, 105, 111]⟩) ∧ w'.cell? ⟨w3.heap.size, 1, none⟩ = some (.string cd.name) ∧ w'.cell? ⟨w3.heap.size, 2, none⟩ = some (.int .u32 cd.rate) ∧ w'.cell? ⟨w3.heap.size, 4, none⟩ = some (.string cd.line))
              (first
                | exact ⟨s0, s1, s2, s4⟩
                | exact ⟨cell_al s0 _, cell_al s1 _, cell_al s2 _, cell_al s4 _⟩
                | (refine ⟨?_, ?_, ?_, ?_⟩ <;> first | exact (hg8.cell_far _ (by simp; omega) neP).trans (cell_al (by assumption) _) | exact (hg8.cell_far _ (by simp; omega) neC).trans (cell_al (by assumption) _))
                | go_keep)
              (first
                | (refine step_append_lies _ (by rfl) _ _ _ (by rfl) w1.heap.size 62 iP _ 6 72 Tryd.underlying48 hiP hzP0 hzP1 hzP2 rfl (by omega) _ k (rowsOf l fbs k) (by rfl) ((HOX.out.alloc _).drew) ⟨wx.heap.size, 0, none⟩ 1 1 [.string (audioB cd), .int .u32 cd.rate, .int .u16 0, .string cd.line, .slice A14 cd.fb.length c14, .int .u8 cd.pay] (by rfl) (by rfl) (World.news_of_block (cs := #[.string (audioB cd), .int .u32 cd.rate, .int .u16 0, .string cd.line, .slice A14 cd.fb.length c14, .int .u8 cd.pay]) (t := 62) (fr := (0, 0)) (heap_alloc_new wx _)) (by simp [Value.oneCell']) (by omega) (by unfold maxLen; omega) (by omega) (by have := B1X.out.size; simp; omega) (wx.heap.size + 1) (by simp) ?_; intro gg cap w8 hown8 hg8 hat8 hlt8))
            have epar : parRow cd (.slice A14 cd.fb.length c14) = [.string (audioB cd), .int .u32 cd.rate, .int .u16 0, .string cd.line, .slice A14 cd.fb.length c14, .int .u8 cd.pay] := by unfold parRow; rw [hc0]; rfl
            have erow : rowsOf l (fun i => if i = k then .slice A14 cd.fb.length c14 else fbs i) (k + 1) = rowsOf l fbs k ++ [.string (audioB cd), .int .u32 cd.rate, .int .u16 0, .string cd.line, .slice A14 cd.fb.length c14, .int .u8 cd.pay] := by
              rw [← epar]
              simp only [rowsOf, hlk, if_true]
              congr 1
              exact rowsOf_congr l k (fun i hi => if_neg (by omega))
            have row8 : w8.ownsRow w1.heap.size 62 6 (.slice (some ⟨gg, 0, none⟩) (k + 1) cap) (k + 1) (rowsOf l (fun i => if i = k then .slice A14 cd.fb.length c14 else fbs i) (k + 1)) := by rw [erow]; exact hown8
            have g8 : wx.grownBy w8 u2.ownBlock := grown_alloc_drew hg8
            have hkv : ∀ i (h : i < k + 1) (h' : i < l.length), ∃ A c, (if i = k then Value.slice A14 cd.fb.length c14 else fbs i) = .slice A l[i].fb.length c ∧ KVs (fun b => w.heap.size ≤ b ∧ some b ≠ some gg) w8 A l[i].fb := fun i h h' => by
              by_cases e : i = k
              · subst e
                rw [if_pos rfl, hcd]
                refine ⟨A14, c14, rfl, kvs_step (HKV14.out.wide (fun b hb _ => ⟨Nat.le_trans BW4.out.size hb, fun q => ?_⟩)) g8 hat8⟩
                have := (HO.out.lt _ q.symm).2
                have := HB3.out.size
                have hb : w4.heap.size ≤ b := hb
                have := CB4.out.lt
                omega
              · rw [if_neg e]
                obtain ⟨A, c, q1, q2⟩ := HFB.out i (by omega) h'
                exact ⟨A, c, q1, kvs_step (q2.keep (HK4.out.trans (kp_of_below HBX.out))) g8 hat8⟩
            have bel8 : Below w1.heap.size w1 w8 := B1X.out.grown g8 B1X.out.size (fun j hj => (HO.out.lt j hj).1)
            have R8 := Lib.hid row8
            have K8 := Lib.hid hkv
            have BL8 := Lib.hid bel8
            clear row8 hkv bel8 hown8 hg8 g8 epar erow s0 s1 s2 s4
            go_wp2_with fail
            go_roundw
            case rel => exact ⟨k + 1, _, hlt, by go_num, R8.out, K8.out, BL8.out⟩
            case measure => simp [intOf]; omega
    · obtain rfl : k = l.length := by omega
      have hd1 : decide ((l.length : Int) < (l.length : Int)) = false := by simp
      go_wp2_with fail
      go_ret2
      refine ⟨_, fbs, w1.heap.size, rfl, BW1.out.size, HO.out, fun i h => ?_, BWR.out⟩
      obtain ⟨A, c, q1, q2⟩ := HFB.out i h h
      exact ⟨A, c, q1, q2.wide fun b hb _ => hb.1⟩
end Go.Proofs.YtkaelnfhohggeaaDoor
