/- GetCodecMap on the attributes of FnCodecs. -/
import Derived.Test.YtkaelnfhohggeaaDoorCodRel
import Derived.Test.YtkaelnfhohggeaaDoorCodRange
import Derived.Test.YtkaelnfhohggeaaDoorCodParse3
import Derived.Test.YtkaelnfhohggeaaDoorMedium
namespace Go.Proofs.YtkaelnfhohggeaaDoor
open Go.RowKit Go.Maps

theorem pre_map (v : ByteArray) : Lib.hasPrefix (attrText kMap v).data.toList [114, 116, 112, 109, 97, 112, 58] = true := by
  rw [attrText_data]; simp [Lib.hasPrefix]
theorem pre_line1 (v : ByteArray) : Lib.hasPrefix (attrText kLine v).data.toList [114, 116, 112, 109, 97, 112, 58] = false := by
  rw [attrText_data]; simp [Lib.hasPrefix]; rfl
theorem pre_line2 (v : ByteArray) : Lib.hasPrefix (attrText kLine v).data.toList [102, 109, 116, 112, 58] = true := by
  rw [attrText_data]; simp [Lib.hasPrefix]
theorem pre_fb1 (v : ByteArray) : Lib.hasPrefix (attrText kFb v).data.toList [114, 116, 112, 109, 97, 112, 58] = false := by
  rw [attrText_data]; simp [Lib.hasPrefix]; rfl
theorem pre_fb2 (v : ByteArray) : Lib.hasPrefix (attrText kFb v).data.toList [102, 109, 116, 112, 58] = false := by
  rw [attrText_data]; simp [Lib.hasPrefix]; rfl
theorem pre_fb3 (v : ByteArray) : Lib.hasPrefix (attrText kFb v).data.toList [114, 116, 99, 112, 45, 102, 98, 58] = true := by
  rw [attrText_data]; simp [Lib.hasPrefix]

/-- What the program's own three codecs are. -/
def static3 : Nat → Option Value := updF (updF (updF (fun _ => none) 0 (codV 0 ⟨#[80, 67, 77, 85]⟩ 8000 ⟨#[]⟩ ⟨#[]⟩ (.slice none 0 0))) 8 (codV 8 ⟨#[80, 67, 77, 65]⟩ 8000 ⟨#[]⟩ ⟨#[]⟩ (.slice none 0 0))) 9 (codV 9 ⟨#[71, 55, 50, 50]⟩ 8000 ⟨#[]⟩ ⟨#[]⟩ (.slice none 0 0))
theorem rel_start {w : World} {m B : Nat} (h : CodMap w m 3 static3) (hl : m < B) (hB : B ≤ w.heap.size) : Rel w m B 3 (fun _ => none) static3 (fun _ => .slice none 0 0) :=
  ⟨h, hl, hB, fun k a e => (by cases e), fun k hk _ => (by
    unfold static3
    rw [updF_other (by omega), updF_other (by omega), updF_other (by omega)]), fun k v e => (by
    unfold static3 updF at e
    split at e
    · cases e; exact ⟨_, _, _, _, _, _, _, _, rfl⟩
    · split at e
      · cases e; exact ⟨_, _, _, _, _, _, _, _, rfl⟩
      · split at e
        · cases e; exact ⟨_, _, _, _, _, _, _, _, rfl⟩
        · cases e), fun _ _ _ _ e => absurd rfl e⟩

theorem byte_inv (key : Value) (kl : Lit) (h : keyOf Tryd.prog 5 key = some kl) : ∃ x : Nat, key = .int .u8 (x : Int) := by
  obtain ⟨x, rfl, _, hw⟩ := Maps.keyOf_int_inv Tryd.underlying5 h
  have h1 : IntKind.u8.min = 0 := by decide
  have hx : 0 ≤ x := by
    have := hw
    simp [Lit.wf, h1] at this
    exact this.1
  exact ⟨x.toNat, by rw [Int.toNat_of_nonneg hx]⟩
theorem byte_wf {x : Nat} {kl : Lit} (h : keyOf Tryd.prog 5 (.int .u8 (x : Int)) = some kl) : x ≤ 255 ∧ kl = .int .u8 (x : Int) := by
  obtain ⟨z, e, rfl, hw⟩ := Maps.keyOf_int_inv Tryd.underlying5 h
  injection e with _ e
  subst e
  have h1 : IntKind.u8.min = 0 := by decide
  have h2 : IntKind.u8.max = 255 := by decide
  simp [Lit.wf, h1, h2] at hw
  exact ⟨by omega, rfl⟩

set_option maxHeartbeats 4000000 in
set_option maxRecDepth 100000 in
theorem getCodecMap_any {D : Nat → Prop} (q pb p : Nat) (L : List CStep) (kind : ByteArray) (fs : List ByteArray) (w : World) (ev0 ev1 ev2 : Value) (hL : GoodFrom (fun _ => none) L) (hlen : L.length ≤ 1000)
    (cq : w.cell? ⟨q, 18, none⟩ = some (.slice (some ⟨pb, 0, none⟩) 1 1)) (cp : w.cell? ⟨pb, 0, none⟩ = some (.pointer (some ⟨p, 0, none⟩))) (hmd : MD D w p kind fs (L.map stepAttr))
    (hg0 : w.cell? ⟨0, 0, none⟩ = some ev0) (hg1 : w.cell? ⟨1, 0, none⟩ = some ev1) (hg2 : w.cell? ⟨2, 0, none⟩ = some ev2) :
    Calls Tryd.prog 28 #[.pointer (some ⟨q, 0, none⟩)] w fun e w' => ∃ m n B f V, e = .returned (.map (some m)) ∧ Rel w' m B n (L.foldl stepA (fun _ => none)) f V ∧ w.heap.size ≤ m ∧ Below w.heap.size w w' := by
  have hmm := @run_makeMap Tryd.prog
  obtain ⟨_, _, _, A9, c9, k9, hkv⟩ := hmd
  have e9 : (L.map stepAttr).length = L.length := by simp
  rw [e9] at k9
  have HKV := Lib.hid hkv
  have HL := Lib.hid hL
  have G0 := Lib.hid hg0
  have G1 := Lib.hid hg1
  have G2 := Lib.hid hg2
  have CQ := Lib.hid cq
  have CP := Lib.hid cp
  have K9 := Lib.hid k9
  have H0 := Lib.hid (CodMap.new w)
  clear hkv hL hg0 hg1 hg2 cq cp k9 e9
  go_enter Tryd.func28, Tryd.ntmps28
  go_wp2_with (first
    | (refine wpList_insert_cod _ rfl _ _ _ rfl w.heap.size 0 (fun _ => none) rfl H0.out (by unfold maxLen; omega) 0 (by decide) rfl (codV 0 ⟨#[80, 67, 77, 85]⟩ 8000 ⟨#[]⟩ ⟨#[]⟩ (.slice none 0 0)) rfl ?_; intro w1 h1 g1; have H1 := Lib.hid h1; have G1' := Lib.hid g1; clear h1 g1)
    | (refine wpList_insert_cod _ rfl _ _ _ rfl w.heap.size 1 _ rfl H1.out (by unfold maxLen; omega) 8 (by decide) rfl (codV 8 ⟨#[80, 67, 77, 65]⟩ 8000 ⟨#[]⟩ ⟨#[]⟩ (.slice none 0 0)) rfl ?_; intro w2 h2 g2; have H2 := Lib.hid h2; have G2' := Lib.hid g2; clear h2 g2)
    | (refine wpList_insert_cod _ rfl _ _ _ rfl w.heap.size 2 _ rfl H2.out (by unfold maxLen; omega) 9 (by decide) rfl (codV 9 ⟨#[71, 55, 50, 50]⟩ 8000 ⟨#[]⟩ ⟨#[]⟩ (.slice none 0 0)) rfl ?_; intro w3 h3 g3; have H3 : Hid (CodMap w3 w.heap.size 3 static3) := Lib.hid h3; have B3 : Hid (Below w.heap.size w w3) := Lib.hid (((((Below.refl _ w).alloc (Nat.le_refl _) _).grown G1'.out (by simp) (fun j hj => by cases hj; exact Nat.le_refl _)).grown G2'.out (Nat.le_trans (by simp) G1'.out.size) (fun j hj => by cases hj; exact Nat.le_refl _)).grown g3 (Nat.le_trans (Nat.le_trans (by simp) G1'.out.size) G2'.out.size) (fun j hj => by cases hj; exact Nat.le_refl _)); clear h3 g3; have cq3 := kp_of_below B3.out _ _ CQ.out; have cp3 := kp_of_below B3.out _ _ CP.out; have lq3 := World.block_lt_of_cell? _ _ cq3; have lp3 := World.block_lt_of_cell? _ _ cp3))
  refine wp_loop_rounds 2 ?_
  rw [rounds_succ]
  have cm3 : ∀ (x : Addr) (v : Value), w.cell? x = some v → w3.cell? x = some v := kp_of_below B3.out
  have CM3 := Lib.hid cm3
  clear cm3
  have k93 := CM3.out _ _ K9.out
  have l93 := World.block_lt_of_cell? _ _ k93
  go_wp2_with fail
  go_loopw [4, 41] (fun wl i wr => ∃ (k n : Nat) (f : Nat → Option Value) (V : Nat → Value), k ≤ L.length ∧ n ≤ 3 + k ∧ wl = .slice (some ⟨w3.heap.size, 0, none⟩) 0 0 ∧ i = .int .i64 (k : Nat) ∧ Rel wr w.heap.size (w.heap.size + 1) n ((L.take k).foldl stepA (fun _ => none)) f V ∧ Below w.heap.size w wr) (fun _ i _ => L.length - (intOf i).toNat)
  case atStart =>
    refine ⟨0, 3, static3, _, Nat.zero_le _, Nat.le_refl _, rfl, rfl, rel_start (H3.out.alloc _) (Nat.lt_succ_self _) ?_, B3.out.alloc (Nat.le_trans (Nat.le_refl _) B3.out.size) _⟩
    have := H3.out.lt
    simp; omega
  case round =>
    obtain ⟨k, n, f, V, hk, hn, rfl, rfl, hrel, hb⟩ := hrel
    have HR := Lib.hid hrel
    have HB := Lib.hid hb
    clear hrel hb
    by_cases hlt : k < L.length
    · have hd : decide ((k : Int) < (L.length : Int)) = true := by simp; omega
      obtain ⟨ab, ao, rfl, _, a0, a1⟩ := HKV.out k (stepAttr L[k]) (by simp [hlt])
      have hok := good_at L _ k hlt HL.out
      have hfs := fold_succ L (fun _ => none) k hlt
      have d0 := kp_of_below HB.out _ _ a0
      have d1 := kp_of_below HB.out _ _ a1
      clear a0 a1
      generalize hF : (L.take k).foldl stepA (fun _ => none) = F at hok hfs HR
      cases hs : L[k] with
      | map c =>
        rw [hs] at hok hfs d0 d1
        simp only [stepAttr] at d0 d1
        obtain ⟨hc, hFn⟩ := hok
        have hpay := hc.pay
        have hvs := codVal_size c.pay (restMap c) (by omega) (by have := restMap_size hc; omega)
        rw [← mapVal_rest] at hvs
        have HA := Lib.hid (fun w => attrString_any kMap (mapVal c) w (by decide) hvs.1 (by omega))
        have hfn := HR.out.none_ c.pay hpay.1 hFn
        have hp1 := fun w => Tryd.strings_HasPrefix (attrText kMap (mapVal c)) ⟨#[114, 116, 112, 109, 97, 112, 58]⟩ w
        rw [show (⟨#[114, 116, 112, 109, 97, 112, 58]⟩ : ByteArray).data.toList = [114, 116, 112, 109, 97, 112, 58] from rfl, pre_map] at hp1
        have HP1 := Lib.hid hp1
        clear hp1
        go_wp2_with (first
          | (go_at_call 31; refine (HA.out _).mono ?_; rintro e w4 ⟨rfl, hb4⟩)
          | (go_at_call 32; refine (HP1.out _).mono ?_; rintro e w10 ⟨rfl, hw⟩; have hw := hw.symm; subst hw)
          | (go_at_call 33; refine (parseRtpmap_any c _ ev0 hc (kp_of_below hb4 _ _ (cell_al (kp_of_below HB.out _ _ G0.out) _))).mono ?_; rintro e w5 ⟨rfl, hb5⟩; simp only [codV]; have B5 := Lib.hid ((((HB.out.alloc HB.out.size _).trans (hb4.mono (Nat.le_trans HB.out.size (by simp)))).trans (hb5.mono (Nat.le_trans (Nat.le_trans HB.out.size (by simp)) hb4.size)))); have R5 := Lib.hid (((HR.out.alloc _).below hb4).below hb5); clear hb4 hb5)
          | (go_at_call 34; refine (merge_new c.pay c.name c.rate (encB c) w.heap.size n f _ (by omega) (by unfold maxLen; omega) (R5.out.alloc _).map hfn).mono ?_; rintro e w6 ⟨rfl, hcm, hgr⟩; have R7 := Lib.hid ((R5.out.alloc _).put (F' := ⟨c.name, c.rate, encB c, ⟨#[]⟩, []⟩) (v' := .slice none 0 0) hpay.1 hcm (World.ownsRow_nil _ _ _ _) (fun _ => rfl) none (fun b h => by cases h) (grown_of_below (Below.refl _ _) none) hgr (fun b h => by cases h)); have B7 := Lib.hid ((B5.out.alloc B5.out.size _).grown hgr (Nat.le_trans B5.out.size (by simp)) (fun j hj => by cases hj; exact Nat.le_refl _)); clear hcm hgr))
        go_roundw
        case rel => exact ⟨k + 1, n + 1, _, _, hlt, by omega, rfl, by go_num, by rw [hfs]; exact R7.out, B7.out⟩
        case measure => simp [intOf]; omega
      | line c =>
        rw [hs] at hok hfs d0 d1
        simp only [stepAttr, lineVal, payB] at d0 d1
        obtain ⟨hc, hln, a, hFa, hal, haf, han, har⟩ := hok
        simp only [stepA, hFa] at hfs
        have hpay := hc.pay
        have hls := line_size hc.line
        have hvs := codVal_size c.pay c.line (by omega) (by omega)
        have HA := Lib.hid (fun w => attrString_any kLine ((dec c.pay ++ ⟨#[32]⟩) ++ c.line) w (by decide) hvs.1 (by omega))
        have hsm := HR.out.some_ c.pay a hFa
        obtain ⟨hfa, _, hva⟩ := hsm
        rw [hal, hva haf] at hfa
        have HFA := Lib.hid hfa
        clear hfa hva
        have hp1 := fun w => Tryd.strings_HasPrefix (attrText kLine ((dec c.pay ++ ⟨#[32]⟩) ++ c.line)) ⟨#[114, 116, 112, 109, 97, 112, 58]⟩ w
        rw [show (⟨#[114, 116, 112, 109, 97, 112, 58]⟩ : ByteArray).data.toList = [114, 116, 112, 109, 97, 112, 58] from rfl, pre_line1] at hp1
        have HP1 := Lib.hid hp1
        clear hp1
        have hp2 := fun w => Tryd.strings_HasPrefix (attrText kLine ((dec c.pay ++ ⟨#[32]⟩) ++ c.line)) ⟨#[102, 109, 116, 112, 58]⟩ w
        rw [show (⟨#[102, 109, 116, 112, 58]⟩ : ByteArray).data.toList = [102, 109, 116, 112, 58] from rfl, pre_line2] at hp2
        have HP2 := Lib.hid hp2
        clear hp2
        go_wp2_with (first
          | (go_at_call 31; refine (HA.out _).mono ?_; rintro e w4 ⟨rfl, hb4⟩)
          | (go_at_call 32; refine (HP1.out _).mono ?_; rintro e w10 ⟨rfl, hw⟩; have hw := hw.symm; subst hw)
          | (go_at_call 32; refine (HP2.out _).mono ?_; rintro e w11 ⟨rfl, hw⟩; have hw := hw.symm; subst hw)
          | (go_at_call 35; refine (parseFmtp_any c.pay c.line _ ev1 (by omega) (by omega) (kp_of_below hb4 _ _ (cell_al (kp_of_below HB.out _ _ G1.out) _))).mono ?_; rintro e w5 ⟨rfl, hb5⟩; simp only [codV]; have B5 := Lib.hid ((((HB.out.alloc HB.out.size _).trans (hb4.mono (Nat.le_trans HB.out.size (by simp)))).trans (hb5.mono (Nat.le_trans (Nat.le_trans HB.out.size (by simp)) hb4.size)))); have R5 := Lib.hid (((HR.out.alloc _).below hb4).below hb5); clear hb4 hb5)
          | (go_at_call 34; refine (merge_line c.pay a.name a.rate a.enc c.line w.heap.size n f _ (by omega) (by omega) han har (by unfold maxLen; omega) (R5.out.alloc _).map HFA.out).mono ?_; rintro e w6 ⟨rfl, hcm, hgr⟩; have R7 := Lib.hid ((R5.out.alloc _).put (F' := { a with line := c.line }) (v' := .slice none 0 0) hpay.1 hcm (by rw [haf]; exact World.ownsRow_nil _ _ _ _) (fun _ => rfl) none (fun b h => by cases h) (grown_of_below (Below.refl _ _) none) hgr (fun b h => by cases h)); have B7 := Lib.hid ((B5.out.alloc B5.out.size _).grown hgr (Nat.le_trans B5.out.size (by simp)) (fun j hj => by cases hj; exact Nat.le_refl _)); clear hcm hgr))
        go_roundw
        case rel => exact ⟨k + 1, n + 1, _, _, hlt, by omega, rfl, by go_num, by rw [hfs]; exact R7.out, B7.out⟩
        case measure => simp [intOf]; omega
      | fb c x =>
        rw [hs] at hok hfs d0 d1
        simp only [stepAttr, fbVal_rest] at d0 d1
        obtain ⟨hc, hx, a, hFa, han, har, hal⟩ := hok
        simp only [stepA, hFa] at hfs
        have hpay := hc.pay
        have hxz := fbText_size (hc.fb x hx).1 (hc.fb x hx).2
        have hvs := codVal_size c.pay (fbText x) (by omega) (by omega)
        have HA := Lib.hid (fun w => attrString_any kFb ((dec c.pay ++ ⟨#[32]⟩) ++ fbText x) w (by decide) hvs.1 (by omega))
        have HSM := Lib.hid (HR.out.some_ c.pay a hFa)
        have hfn : F c.pay ≠ none := by rw [hFa]; simp
        have hp1 := fun w => Tryd.strings_HasPrefix (attrText kFb ((dec c.pay ++ ⟨#[32]⟩) ++ fbText x)) ⟨#[114, 116, 112, 109, 97, 112, 58]⟩ w
        rw [show (⟨#[114, 116, 112, 109, 97, 112, 58]⟩ : ByteArray).data.toList = [114, 116, 112, 109, 97, 112, 58] from rfl, pre_fb1] at hp1
        have HP1 := Lib.hid hp1
        clear hp1
        have hp2 := fun w => Tryd.strings_HasPrefix (attrText kFb ((dec c.pay ++ ⟨#[32]⟩) ++ fbText x)) ⟨#[102, 109, 116, 112, 58]⟩ w
        rw [show (⟨#[102, 109, 116, 112, 58]⟩ : ByteArray).data.toList = [102, 109, 116, 112, 58] from rfl, pre_fb2] at hp2
        have HP2 := Lib.hid hp2
        clear hp2
        have hp3 := fun w => Tryd.strings_HasPrefix (attrText kFb ((dec c.pay ++ ⟨#[32]⟩) ++ fbText x)) ⟨#[114, 116, 99, 112, 45, 102, 98, 58]⟩ w
        rw [show (⟨#[114, 116, 99, 112, 45, 102, 98, 58]⟩ : ByteArray).data.toList = [114, 116, 99, 112, 45, 102, 98, 58] from rfl, pre_fb3] at hp3
        have HP3 := Lib.hid hp3
        clear hp3
        go_wp2_with (first
          | (go_at_call 31; refine (HA.out _).mono ?_; rintro e w4 ⟨rfl, hb4⟩)
          | (go_at_call 32; refine (HP1.out _).mono ?_; rintro e w10 ⟨rfl, hw⟩; have hw := hw.symm; subst hw)
          | (go_at_call 32; refine (HP2.out _).mono ?_; rintro e w11 ⟨rfl, hw⟩; have hw := hw.symm; subst hw)
          | (go_at_call 32; refine (HP3.out _).mono ?_; rintro e w12 ⟨rfl, hw⟩; have hw := hw.symm; subst hw)
          | (go_at_call 36; refine (parseRtcpFb_any c.pay (fbText x) _ ev2 (by omega) (by omega) (kp_of_below hb4 _ _ (cell_al (kp_of_below HB.out _ _ G2.out) _))).mono ?_; rintro e w5 ⟨A5, k5, rfl, hst5, hb5⟩; simp only [codV]; obtain ⟨xb, xo, rfl, _, hx5⟩ := hst5 0 _ rfl; simp only [Nat.add_zero] at hx5; have HX5 := Lib.hid hx5; clear hst5 hx5; have B5 := Lib.hid ((((HB.out.alloc HB.out.size _).trans (hb4.mono (Nat.le_trans HB.out.size (by simp)))).trans (hb5.mono (Nat.le_trans (Nat.le_trans HB.out.size (by simp)) hb4.size)))); have R5 := Lib.hid (((HR.out.alloc _).below hb4).below hb5); clear hb4 hb5)
          | (go_at_call 34; refine (merge_fb c.pay a.name a.rate a.enc a.line (fbText x) (V c.pay) a.fbs (w.heap.size + 1) xb xo k5 w.heap.size n f _ (by omega) (by omega) han har (by unfold maxLen; omega) (R5.out.alloc _).map HSM.out.1 ((R5.out.alloc _).some_ c.pay a hFa).2.1 (R5.out.alloc _).le (by omega) (Nat.lt_succ_self _) (cell_al HX5.out _)).mono ?_; rintro e w6 ⟨rfl, w7, v7, hcm, hrw, hg1, hg2, hv7⟩; have R7 := Lib.hid ((R5.out.alloc _).put (F' := { a with fbs := a.fbs ++ [fbText x] }) (v' := v7) hpay.1 hcm hrw (fun q => by simp at q) (V c.pay).ownBlock (fun b h => ⟨hfn, h⟩) hg1 hg2 (fun b h => hv7.elim (fun q => .inl ⟨hfn, q ▸ h⟩) (fun ⟨b', q, l⟩ => .inr (by rw [q] at h; injection h with h; omega)))); have B7 := Lib.hid (((B5.out.alloc B5.out.size _).grown hg1 (Nat.le_trans B5.out.size (by simp)) (fun j hj => by have := (HR.out.row_lt hFa j hj).1; omega)).grown hg2 (Nat.le_trans (Nat.le_trans B5.out.size (by simp)) hg1.size) (fun j hj => by cases hj; exact Nat.le_refl _)); clear hcm hrw hg1 hg2 hv7))
        go_roundw
        case rel => exact ⟨k + 1, n + 1, _, _, hlt, by omega, rfl, by go_num, by rw [hfs]; exact R7.out, B7.out⟩
        case measure => simp [intOf]; omega
    · obtain rfl : k = L.length := by omega
      obtain ⟨wo, rfl⟩ : ∃ wo : World, wo = wr := ⟨_, rfl⟩
      rw [List.take_length] at HR
      have hd : decide ((L.length : Int) < (L.length : Int)) = false := by simp
      obtain ⟨D0, hown0, hf0⟩ := HR.out.map
      have HO0 := Lib.hid hown0
      have HF0 := Lib.hid hf0
      clear hown0 hf0
      go_wp2_with fail
      rw [rounds_succ]
      go_wp2_with (at_range; refine wpList_range_own _ rfl _ 96 rfl 5 101 Tryd.keyedB Tryd.underlying96 rawElem w.heap.size n D0 rfl HO0.out ?_; intro w8 hrg hgr hsz; have HRG := Lib.hid hrg; have HGR := Lib.hid hgr; have HSZ := Lib.hid hsz; clear hrg hgr hsz)
      go_frame
      have bg : Below wo.heap.size wo w8 := (Below.refl _ _).grown HGR.out (Nat.le_refl _) (fun j hj => by cases hj)
      have R8 := Lib.hid (HR.out.below bg)
      have B8 := Lib.hid (below_step HB.out HB.out.size bg)
      have hVr : ∀ k a, (L.foldl stepA (fun _ => none)) k = some a → (V k).ownBlock ≠ some wo.heap.size := fun k a e q => by have := (HR.out.row_lt e _ q).2; omega
      have hr1 : w.heap.size + 1 ≤ wo.heap.size := HR.out.le
      have HSH := Lib.hid HR.out.shape
      clear bg HGR HB HR
      have HVR := Lib.hid hVr
      clear hVr
      go_loopw [17] (fun _ wx => ∃ (left : Lit → Bool) (cnt : Nat), wx.ranges Tryd.prog 5 rawElem w.heap.size wo.heap.size n D0 left cnt ∧ Rel wx w.heap.size (w.heap.size + 1) n (L.foldl stepA (fun _ => none)) f V ∧ Below w.heap.size w wx) (fun _ wx => wx.rangeLeft w.heap.size wo.heap.size)
      case atStart => exact ⟨_, _, HRG.out, R8.out, B8.out⟩
      case round =>
        obtain ⟨left, cnt, hrg, hrl, hb9⟩ := hrel
        have H9 := Lib.hid hrg
        have R9 := Lib.hid hrl
        have B9 := Lib.hid hb9
        have hle := hrg.left_eq
        clear hrg hrl hb9
        go_wp2_with (at_next; refine wpList_next_ranges _ rfl _ rfl 5 Tryd.keyedB rawElem (fun x : Nat => .int .u8 (x : Int)) (fun v : Value => v) byte_inv (fun v y _ => ⟨v, rfl⟩) w.heap.size wo.heap.size n D0 left cnt rfl H9.out ?_ ?_)
        · intro _ _
          go_wp2
          go_ret
          exact ⟨w.heap.size, n, _, f, V, rfl, R9.out, Nat.le_refl _, B9.out⟩
        · intro x c kl y ps w10 cnt10 hkey hlk hRc hat hrg10 hlt10 hgr10 hsz10 hent
          obtain ⟨hx, rfl⟩ := byte_wf hkey
          have hy : DataW.held c = y := congrArg Prod.fst (Option.some.inj (show some (DataW.held c, []) = _ from hRc))
          subst hy
          have hfx : f x = some c := by
            cases e : f x with
            | none =>
              have h1 := (HF0.out x hx).2 e .nil
              rw [hat .nil] at h1
              cases h1
            | some u =>
              have h1 := (HF0.out x hx).1 u e .nil
              rw [hat .nil] at h1
              rw [DataW.held.inj h1]
          obtain ⟨cp', cr', cn', ce', cl', cA', cx', cc', rfl⟩ := HSH.out x c hfx
          have HAT := Lib.hid hat
          have HG10 := Lib.hid hgr10
          have H10 := Lib.hid hrg10
          clear hat hgr10 hrg10 hlk hRc hfx
          have hst := store_same (H10.out.alloc (.cells #[.int .u8 cp', .string cn', .int .u32 cr', .string ce', .string cl', .slice cA' cx' cc'] 101)) hkey HAT.out
          unfold codV at hent hst ⊢
          go_wp2_with fail
          refine wp_loop_rounds 1 ?_
          rw [rounds_succ]
          go_wp2_with fail
          go_roundw
          case rel => exact ⟨_, cnt10, H10.out.alloc _, (R9.out.grown HG10.out (by omega) HVR.out).alloc _, (B9.out.grown HG10.out B9.out.size (fun j hj => by cases hj; omega)).alloc (by have := B9.out.size; omega) _⟩
          case measure =>
            rw [(H10.out.alloc _).left_eq, hle]
            exact hlt10
end Go.Proofs.YtkaelnfhohggeaaDoor
