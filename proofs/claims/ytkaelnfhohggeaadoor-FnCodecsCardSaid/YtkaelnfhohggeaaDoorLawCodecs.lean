/- FnCodecs: the walk of the law. -/
import Derived.Test.YtkaelnfhohggeaaDoorLawCodBase
import Derived.Test.YtkaelnfhohggeaaDoorMid
import Derived.Test.YtkaelnfhohggeaaDoorLater
import Derived.Deep.AppendLies
import Derived.Deep.RegionLaw
import Derived.Deep.CutRange
namespace Go.Proofs.YtkaelnfhohggeaaDoor
open Go.RowKit

theorem Tryd.infoStrC : (Tryd.prog.info? 9).map (fun i => (i.zero, i.size, i.bytes)) = some (some (.string ByteArray.empty), 1, 16) := by kernel_rfl

set_option maxHeartbeats 4000000 in
set_option maxRecDepth 100000 in
theorem fnCodecs_walk (A : Option Addr) (c : Nat) (l0 : List RCod) (w : World) (ev0 ev1 ev2 evs : Value) (hl : l0.length ≤ 140737488351232) (hcap : l0.length ≤ c) (h : RCods w A l0) (hs : ∀ c ∈ l0, RSmall c)
    (hg0 : w.cell? ⟨0, 0, none⟩ = some ev0) (hg1 : w.cell? ⟨1, 0, none⟩ = some ev1) (hg2 : w.cell? ⟨2, 0, none⟩ = some ev2)
    (hgs : w.cell? ⟨3, 0, none⟩ = some evs) (hevs : evs = .nilIface ∨ ∃ te pe, evs = .iface te pe) :
    Calls Tryd.prog 3 #[.slice A l0.length c] w fun e w' => e = .returned (.bool true) ∧ Below w.heap.size w w' := by
  have H := Lib.hid h
  have HFC := Lib.hid (fits4_any A c l0 w hl h hs)
  have HSC := Lib.hid (fun w' (hb : Below w.heap.size w w') hn hf => specCodecs_any A c l0 w' hn hcap (h.keep (kp_of_below hb)) hf)
  have HG := Lib.hid (fun (W : World) (hk : Kp w W) (fA aA : Option Addr) (fc ac : Nat) (l : List Cod) hl hc hd hf ha => codecs_any fA aA fc ac l W ev0 ev1 ev2 evs hl hc hd hf ha (hk _ _ hg0) (hk _ _ hg1) (hk _ _ hg2) (hk _ _ hgs) hevs)
  clear h hs hg0 hg1 hg2 hgs hevs
  obtain ⟨iS, hiS, hzS0, hzS1, hzS2⟩ := info_parts Tryd.infoStrC
  obtain ⟨iK, hiK, hzK0, hzK1, hzK2⟩ := info_parts Tryd.infoIKVp
  go_enter Tryd.func3, Tryd.ntmps3
  go_wp2_with (first
    | (go_at_call 4; refine HFC.out.mono ?_; rintro e w1 ⟨r, rfl, hr, hb1⟩; have HR := Lib.hid hr; clear hr; cases r)
    | (go_at_call 5; refine (HSC.out _ hb1 (HR.out trivial).1 (HR.out trivial).2).mono ?_; rintro e w2 ⟨r2, rfl, hr2, hb2⟩; have HR2 := Lib.hid hr2; clear hr2; have B2 := Lib.hid (below_step hb1 hb1.size hb2); clear hb2; cases r2)
    | (go_at_call 6; refine (works_any _).mono ?_; rintro e w6 ⟨rfl, hb6⟩))
  · go_ret
    exact ⟨rfl, hb1⟩
  · go_ret
    exact ⟨rfl, below_step B2.out B2.out.size hb6⟩
  · obtain ⟨l, rfl, hl5, hcs, hnd⟩ := good_cods (HR2.out trivial)
    clear HR HR2 HSC HFC hb1
    simp only [List.length_map] at hl hcap ⊢
    have HCS := Lib.hid hcs
    have HND := Lib.hid hnd
    clear hcs hnd
    go_loopw [23] (fun i wr => ∃ (k : Nat) (fv av : Value), i = .int .i64 k ∧ k ≤ l.length ∧ CodSt w2 wr l k k fv av) (fun i _ => l.length - (intOf i).toNat)
    case atStart => exact ⟨0, _, _, rfl, Nat.zero_le _, ⟨by simp [go_sem], by simp [go_sem], by simp [go_sem], by simp [go_sem], by simp [go_sem], World.ownsRow_nil _ _ _ _, World.ownsRow_nil _ _ _ _, (Below.refl _ _).alloc (Nat.le_refl _) _⟩⟩
    case round =>
      obtain ⟨wo, rfl⟩ : ∃ wo : World, wo = wr := ⟨_, rfl⟩
      obtain ⟨k, fv, av, rfl, hk, hst⟩ := hrel
      have HST := Lib.hid hst
      have lM : w2.heap.size < wo.heap.size := hst.lt
      by_cases hlt : k < l.length
      · have hd : decide ((k : Int) < (l.length : Int)) = true := by simp; omega
        obtain ⟨b, o, A5, c5, rfl, e0, e1, e2, e3, e4, e5, hkv⟩ := H.out k (ofCod l[k]) (by simp [hlt])
        have kb := kp_of_below (below_step B2.out B2.out.size hst.hb)
        have e0 := kb _ _ e0
        have e1 := kb _ _ e1
        have e2 := kb _ _ e2
        have e3 := kb _ _ e3
        have e4 := kb _ _ e4
        have e5 := kb _ _ e5
        have HK2 := Lib.hid (hkv.keep (kp_of_below B2.out))
        have hci := HCS.out _ (List.getElem_mem hlt)
        have E1 := Lib.hid (fmts_step hlt)
        have E2 := Lib.hid (attrs_step hlt)
        clear hkv kb hst
        simp only [ofCod] at e0 e1 e2 e3 e4 e5 HK2
        generalize l[k] = x at e0 e1 e2 e3 e4 e5 HK2 hci E1 E2
        have hpay := hci.pay
        have HCI := Lib.hid hci
        clear hci
        go_wp2_with fail
        have BT := Lib.hid (BlkT.new wo [.string x.name, .int .i64 x.rate, .int .i64 x.chans, .int .i64 x.pay, .string x.line, .slice A5 x.fb.length c5] 31)
        have ST1 := Lib.hid (HST.out.alloc (.cells #[.string x.name, .int .i64 x.rate, .int .i64 x.chans, .int .i64 x.pay, .string x.line, .slice A5 x.fb.length c5] 31))
        have lN : wo.heap.size < (wo.alloc (.cells #[.string x.name, .int .i64 x.rate, .int .i64 x.chans, .int .i64 x.pay, .string x.line, .slice A5 x.fb.length c5] 31)).heap.size := by simp
        clear HST e0 e1 e2 e3 e4 e5
        generalize (wo.alloc (.cells #[.string x.name, .int .i64 x.rate, .int .i64 x.chans, .int .i64 x.pay, .string x.line, .slice A5 x.fb.length c5] 31)) = W1 at *
        have HP := Lib.hid (fun w => decimal_any x.pay w (by omega))
        go_cut [] from 27 to 42 (fun wx => ∃ fv', CodSt w2 wx l (k + 1) k fv' av ∧ BlkT wx wo.heap.size [.string x.name, .int .i64 x.rate, .int .i64 x.chans, .int .i64 x.pay, .string x.line, .slice A5 x.fb.length c5] 31)
        case first =>
          have m1 := ST1.out.m1
          have z1 := ST1.out.z1
          have p3 : W1.cell? ⟨wo.heap.size, 3, none⟩ = some (.int .i64 x.pay) := BT.out.blk.cell (j := 3) rfl
          have neF := ST1.out.neF
          have lM1 := ST1.out.lt
          go_region_law (first
            | (refine step_append_lies _ (by rfl) _ _ _ (by rfl) (w2.heap.size + 1) 9 iS _ 1 16 Tryd.underlying25 hiS hzS0 hzS1 hzS2 rfl (by omega) fv k ((fmtsTo l k).map Value.string) (by rfl) (ST3.out.of.alloc _) ⟨w3.heap.size, 0, none⟩ 1 1 [.string (dec x.pay)] (by rfl) (by rfl) (World.news_of_block (cs := #[.string (dec x.pay)]) (t := 9) (fr := (0, 0)) (heap_alloc_new w3 _)) (by simp [Value.oneCell']) (by omega) (by unfold maxLen; omega) (by omega) (by simp; omega) (w3.heap.size + 1) (by simp) ?_; intro gg cap w4 hown4 hgrow4 hat4 hlt4; have h184 : w4.cell? ⟨w2.heap.size, 1, none⟩ = some fv := (hgrow4.cell_far _ (by simp; omega) neF).trans (cell_al h183 _); have hz4 : w4.frozen? ⟨w2.heap.size, 1, none⟩ = false := (hgrow4.frozen_far _ (by simp; omega) neF).trans (frozen_al h183 hz3 _))
            | (go_simp; go_at_call 7; refine (HP.out _).mono ?_; rintro e w3 ⟨rfl, hb3⟩; have ST3 := Lib.hid (ST1.out.drew.below hb3); have BT3 := Lib.hid (BlkT.below (w := W1.drew) BT.out hb3); have h183 := ST3.out.m1; have hz3 := ST3.out.z1; have ls3 := ST3.out.lt))
          all_goals
            go_wp2_with fail
            go_meet
            case rel =>
              have hrow := hown4
              have ee : (fmtsTo l k).map Value.string ++ [.string (dec x.pay)] = (fmtsTo l (k + 1)).map Value.string := by rw [E1.out]; simp
              rw [ee] at hrow
              have st5 := (ST3.out.alloc (.cells #[.string (dec x.pay)] 9)).fmt hgrow4 hrow
              have bt4 := (BT3.out.below ((Below.refl _ _).alloc (Nat.le_refl _) (.cells #[.string (dec x.pay)] 9))).grown hgrow4 (blk_ne_row ST3.out.of BT3.out (by decide))
              exact ⟨_, st5, bt4.set _ (by show wo.heap.size ≠ w2.heap.size; omega)⟩
        case rest =>
          obtain ⟨fv', st', bt'⟩ := hcut
          have ST2 := Lib.hid st'
          have BT2 := Lib.hid bt'
          clear st' bt' ST1 BT fv
          go_wp2_with fail
          have HAT := Lib.hid (fun (W : World) (hW : Below w2.heap.size w2 W) => attrs_any x A5 c5 W HCI.out (HK2.out.keep (kp_of_below hW)))
          have HPL := Lib.hid (fun (B9 : Nat) (W : World) (A' : Option Addr) (c' : Nat) (hq : KVs (B9 ≤ ·) W A' (codAttrs x)) => plain_any A' c' (codAttrs x) W (by have := codAttrs_short HCI.out; omega) hq)
          have hpos := codAttrs_pos x
          have hsh := codAttrs_short HCI.out
          have hal := attrs_length HCS.out k
          have m2 := ST2.out.m2
          have z2 := ST2.out.z2
          have p0 : wc.cell? ⟨wo.heap.size, 0, none⟩ = some (.string x.name) := BT2.out.blk.cell (j := 0) rfl
          have p1 : wc.cell? ⟨wo.heap.size, 1, none⟩ = some (.int .i64 x.rate) := BT2.out.blk.cell (j := 1) rfl
          have p2 : wc.cell? ⟨wo.heap.size, 2, none⟩ = some (.int .i64 x.chans) := BT2.out.blk.cell (j := 2) rfl
          have p3 : wc.cell? ⟨wo.heap.size, 3, none⟩ = some (.int .i64 x.pay) := BT2.out.blk.cell (j := 3) rfl
          have p4 : wc.cell? ⟨wo.heap.size, 4, none⟩ = some (.string x.line) := BT2.out.blk.cell (j := 4) rfl
          have p5 : wc.cell? ⟨wo.heap.size, 5, none⟩ = some (.slice A5 x.fb.length c5) := BT2.out.blk.cell (j := 5) rfl
          have neA := ST2.out.neA
          have lM2 := ST2.out.lt
          go_region_law (first
            | (refine step_append_lies _ (by rfl) _ _ _ (by rfl) (w2.heap.size + 1) 42 iK _ 2 32 Tryd.underlying26 hiK hzK0 hzK1 hzK2 rfl (by omega) av (attrsTo l k).length (kvCells (attrsTo l k)) (by rfl) ST4.out.oa ⟨b9, o9, none⟩ (codAttrs x).length c9 (kvCells (codAttrs x)) (by rfl) (kvCells_length _) HN9.out (kvOne _) hpos (by unfold maxLen; omega) (by omega) (by omega) w4.heap.size rfl ?_; intro gg cap w5 hown5 hgrow5 hat5 hlt5; have h184 : w5.cell? ⟨w2.heap.size, 2, none⟩ = some av := (hgrow5.cell_far _ (by omega) neA).trans h183; have hz4 : w5.frozen? ⟨w2.heap.size, 2, none⟩ = false := (hgrow5.frozen_far _ (by omega) neA).trans hz3)
            | (go_simp; go_at_call 9; refine (HAT.out _ ST2.out.drew.hb).mono ?_; rintro e w3 ⟨⟨A8, c8, rfl, hkv8⟩, hb3⟩; have ST3 := Lib.hid (ST2.out.drew.below hb3); have HK8 := Lib.hid hkv8; have h182 := ST3.out.m2; have hz2 := ST3.out.z2; have ls2 := ST3.out.lt)
            | (go_simp; go_at_call 8; refine (HPL.out _ _ _ _ HK8.out).mono ?_; rintro e w4 ⟨A9, c9, rfl, hkv9, hb4⟩; have ST4 := Lib.hid (ST3.out.below hb4); obtain ⟨b9, o9, rfl, _, _, hn9⟩ := kvs_news hkv9 hpos; have HN9 := Lib.hid hn9; have h183 := ST4.out.m2; have hz3 := ST4.out.z2; have ls3 := ST4.out.lt))
          all_goals
            have e2 := E2.out
            have hrow := hown5
            rw [← kvCells_append, ← e2] at hrow
            have st6 := Lib.hid (ST4.out.att hgrow5 (by rw [e2, List.length_append]) hrow)
            clear hrow hown5 hgrow5 h184 hz4 h183 hz3 h182 e2
            go_wp2
            go_roundw
            case rel => exact ⟨k + 1, _, _, by go_num, by omega, st6.out⟩
            case measure => simp [intOf]; omega
      · obtain rfl : k = l.length := by omega
        have hd : decide ((l.length : Int) < (l.length : Int)) = false := by simp
        have HW := Lib.hid (below_step B2.out B2.out.size hst.hb)
        obtain ⟨fA, fc, rfl, hF⟩ := own_strs hst.of
        obtain ⟨aA, ac, rfl, hA⟩ := own_kvs hst.oa
        rw [fmts_all] at hF
        rw [attrs_all] at hA
        have hgc := HG.out wo (kp_of_below HW.out) fA aA fc ac l hl5 HCS.out HND.out (hF.wide fun _ _ _ => trivial) (hA.wide fun _ _ _ => trivial)
        have HGC := Lib.hid hgc
        have m0 := hst.m0
        have m1 := hst.m1
        have m2 := hst.m2
        rw [fmts_length (Nat.le_refl _)] at m1
        rw [attrs_all, List.length_map] at m2
        clear hgc HG hF hA hst HST
        go_wp2_with (go_at_call 10; refine HGC.out.mono ?_; rintro e w3 ⟨v, rfl, hrd, hb3⟩; obtain ⟨vA, vc, rfl⟩ := (let ⟨_, h, _⟩ := hrd; own_shape h); have RD := Lib.hid hrd; have B3 := Lib.hid (below_step HW.out HW.out.size hb3); clear hrd hb3)
        have S3 := HW.out.size
        go_loopw [59] (fun i wr => ∃ k : Nat, i = .int .i64 k ∧ k ≤ l.length ∧ Below w3.heap.size w3 wr) (fun i _ => l.length - (intOf i).toNat)
        case atStart => exact ⟨0, rfl, Nat.zero_le _, Below.refl _ _⟩
        case round =>
          obtain ⟨wo, rfl⟩ : ∃ wo : World, wo = wr := ⟨_, rfl⟩
          obtain ⟨k, rfl, hk, hb⟩ := hrel
          have HB := Lib.hid hb
          have BW := Lib.hid (below_step B3.out B3.out.size hb)
          have ss := BW.out.size
          have sw := hb.size
          clear hb
          by_cases hlt : k < l.length
          · have hd : decide ((k : Int) < (l.length : Int)) = true := by simp; omega
            obtain ⟨b, o, A5, c5, rfl, e0, e1, e2, e3, e4, e5, hkv⟩ := H.out k (ofCod l[k]) (by simp [hlt])
            obtain ⟨g, vc', A7, k7, ev, hcell, hkv7⟩ := read_cells RD.out hlt
            injection ev with eva _ evc
            subst eva
            subst evc
            have kb := kp_of_below BW.out
            have kh := kp_of_below HB.out
            have e0 := kb _ _ e0
            have e1 := kb _ _ e1
            have e2 := kb _ _ e2
            have e3 := kb _ _ e3
            have e4 := kb _ _ e4
            have e5 := kb _ _ e5
            have d0 := kh _ _ (hcell 0 _ rfl)
            have d1 := kh _ _ (hcell 1 _ rfl)
            have d2 := kh _ _ (hcell 2 _ rfl)
            have d3 := kh _ _ (hcell 3 _ rfl)
            have d4 := kh _ _ (hcell 4 _ rfl)
            have d5 := kh _ _ (hcell 5 _ rfl)
            rw [Nat.add_zero] at d0
            have HK := Lib.hid (hkv.keep kb)
            have HK7 := Lib.hid (hkv7.keep kh)
            have hci := HCS.out _ (List.getElem_mem hlt)
            clear hkv hkv7 kb kh hcell
            simp only [ofCod] at e0 e1 e2 e3 e4 e5 HK
            generalize l[k] = x at e0 e1 e2 e3 e4 e5 d0 d1 d2 d3 d4 d5 HK HK7 hci
            have zn := (word_size hci.name).2
            have hfl := hci.len
            have HCI := Lib.hid hci
            clear hci
            rw [audioB_eq] at d0
            have lg : g < wo.heap.size := World.block_lt_of_cell? _ _ d0
            have g1 : ¬ 9223372036854775807 < 6 + x.name.size := by omega
            go_wp2_with fail
            go_loopw [114] (fun i wx => ∃ n : Nat, i = .int .i64 n ∧ n ≤ x.fb.length ∧ Below wo.heap.size wo wx ∧ wx.cell? ⟨wo.heap.size + 1, 4, none⟩ = some (.slice A7 x.fb.length k7)) (fun i _ => x.fb.length - (intOf i).toNat)
            case atStart => exact ⟨0, rfl, Nat.zero_le _, ((Below.refl _ _).alloc (Nat.le_refl _) _).alloc (by simp) _, by simp [go_sem]⟩
            case round =>
              obtain ⟨wi, rfl⟩ : ∃ wi : World, wi = wr := ⟨_, rfl⟩
              obtain ⟨n, rfl, hn, hbi, c4⟩ := hrel
              have HBI := Lib.hid hbi
              have lN := World.block_lt_of_cell? _ _ c4
              simp only at lN
              clear hbi
              by_cases hnl : n < x.fb.length
              · have hd : decide ((n : Int) < (x.fb.length : Int)) = true := by simp; omega
                obtain ⟨b5, o5, rfl, _, s0, s1⟩ := HK.out n x.fb[n] (List.getElem?_eq_getElem hnl)
                obtain ⟨b7, o7, rfl, _, r0, r1⟩ := HK7.out n x.fb[n] (List.getElem?_eq_getElem hnl)
                have kb := kp_of_below HBI.out
                have s0 := kb _ _ s0
                have s1 := kb _ _ s1
                have r0 := kb _ _ r0
                have r1 := kb _ _ r1
                have CC4 := Lib.hid c4
                clear kb
                generalize x.fb[n] = p at s0 s1 r0 r1
                go_wp2_with fail
                have b0 := Blk.new wi [.string p.1, .string p.2] 41
                have t4 := cell_al c4 (.cells #[.string p.1, .string p.2] 41)
                have t0 := cell_al r0 (.cells #[.string p.1, .string p.2] 41)
                have t1 := cell_al r1 (.cells #[.string p.1, .string p.2] 41)
                have hbw := Lib.hid (HBI.out.alloc (by omega) (.cells #[.string p.1, .string p.2] 41))
                have f0 := b0.cell (j := 0) rfl
                have f1 := b0.cell (j := 1) rfl
                clear b0 s0 s1 r0 r1 c4
                generalize (wi.alloc (.cells #[.string p.1, .string p.2] 41)) = W9 at *
                have M4 : ∀ y : Later W9, y.W.cell? ⟨wo.heap.size + 1, 4, none⟩ = some (.slice (some ⟨b7, o7, none⟩) x.fb.length k7) := fun y => y.cell t4
                have M0 : ∀ y : Later W9, y.W.cell? ⟨b7, o7 + n * 2, none⟩ = some (.string p.1) := fun y => y.cell t0
                have M1 : ∀ y : Later W9, y.W.cell? ⟨b7, o7 + n * 2 + 1, none⟩ = some (.string p.2) := fun y => y.cell t1
                have N0 : ∀ y : Later W9, y.W.cell? ⟨wi.heap.size, 0, none⟩ = some (.string p.1) := fun y => y.cell f0
                have N1 : ∀ y : Later W9, y.W.cell? ⟨wi.heap.size, 1, none⟩ = some (.string p.2) := fun y => y.cell f1
                refine wp_region_later (by kernel_rfl) (by kernel_rfl) ?_
                repeat (go_big_quiet_step (fail))
                refine wpQuiet_nil ?_
                rintro wz ⟨y, rfl⟩
                have bel := Lib.hid (below_step hbw.out hbw.out.size y.h)
                have c4 := Lib.hid (y.cell t4)
                go_wp2
                go_roundw
                case rel => exact ⟨n + 1, by go_num, by omega, bel.out, c4.out⟩
                case measure => simp [intOf]; omega
              · obtain rfl : n = x.fb.length := by omega
                have hd : decide ((x.fb.length : Int) < (x.fb.length : Int)) = false := by simp
                have hbw := Lib.hid (HB.out.trans (HBI.out.mono sw))
                go_wp2
                go_roundw
                case rel => exact ⟨k + 1, by go_num, by omega, hbw.out⟩
                case measure => simp [intOf]; omega
          · obtain rfl : k = l.length := by omega
            have hd : decide ((l.length : Int) < (l.length : Int)) = false := by simp
            go_wp2_with (go_at_call 6; refine (works_any _).mono ?_; rintro e w6 ⟨rfl, hb6⟩)
            go_ret
            exact ⟨rfl, below_step BW.out (by omega) hb6⟩
end Go.Proofs.YtkaelnfhohggeaaDoor
