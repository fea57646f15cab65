/- The inner loop of trackDetailsFromSDP: the round of the second source: the track at hand is written again. -/
import Derived.Test.YtkaelnfhohggeaaGreatDoorTrackNew
import Derived.Test.YtkaelnfhohggeaaGreatDoorCells
namespace Go.Proofs.YtkaelnfhohggeaaGreatDoor
open Go.RowKit Go.WideMaps Go.Maps

theorem TrackRow.below {B g n : Nat} {mid s t : ByteArray} {w w' : World} (h : TrackRow (B ≤ ·) w g mid s t n) (hb : Below w.heap.size w w') : TrackRow (B ≤ ·) w' g mid s t n := by
  have k := kp_of_below hb
  obtain ⟨hg, t0, t1, t2, t3, ⟨sb, hsb, hsg, tsb, t4⟩, t5, t6, t7, tz⟩ := h
  have lg : g < w.heap.size := World.block_lt_of_cell? _ _ t0
  exact ⟨hg, k _ _ t0, k _ _ t1, k _ _ t2, k _ _ t3, ⟨sb, hsb, hsg, k _ _ tsb, k _ _ t4⟩, k _ _ t5, k _ _ t6, k _ _ t7, fun j hj => (hb.frozen (p := ⟨g, j, none⟩) lg).trans (tz j hj)⟩
/-- The row behind the store of new sources. -/
theorem TrackRow.again {B g n : Nat} {mid s t : ByteArray} {w : World} (h : TrackRow (B ≤ ·) w g mid s t n) (hB : B ≤ w.heap.size) (T : TypeId) : TrackRow (B ≤ ·) ((w.alloc (.cells #[.int .u32 n] T)).setCell ⟨g, 4, none⟩ (.slice (some ⟨w.heap.size, 0, none⟩) 1 1)) g mid s t n := by
  obtain ⟨hg, t0, t1, t2, t3, ⟨sb, hsb, hsg, tsb, t4⟩, t5, t6, t7, tz⟩ := h
  have lg := World.block_lt_of_cell? _ _ t0
  have lg : g < w.heap.size := lg
  have o : ∀ (j : Nat) (u : Value), j ≠ 4 → w.cell? ⟨g, j, none⟩ = some u → ((w.alloc (.cells #[.int .u32 n] T)).setCell ⟨g, 4, none⟩ (.slice (some ⟨w.heap.size, 0, none⟩) 1 1)).cell? ⟨g, j, none⟩ = some u := fun j u hj hc =>
    (World.cell?_setCell_other _ _ _ _ (fun e => by injection e with _ e _; exact hj e.symm)).trans (cell_al hc _)
  refine ⟨hg, o 0 _ (by decide) t0, o 1 _ (by decide) t1, o 2 _ (by decide) t2, o 3 _ (by decide) t3, ⟨w.heap.size, hB, by omega, (World.cell?_setCell_other _ _ _ _ (fun e => by injection e with e _ _; omega)).trans ((Blk.new w [.int .u32 n] T).cell (j := 0) rfl), World.cell?_setCell_same _ _ _ (cell_al t4 _)⟩, o 5 _ (by decide) t5, o 6 _ (by decide) t6, o 7 _ (by decide) t7, fun j hj => ?_⟩
  have lj : ∃ u, w.cell? ⟨g, j, none⟩ = some u := by
    match j, hj with
    | 0, _ => exact ⟨_, t0⟩
    | 1, _ => exact ⟨_, t1⟩
    | 2, _ => exact ⟨_, t2⟩
    | 3, _ => exact ⟨_, t3⟩
    | 4, _ => exact ⟨_, t4⟩
    | 5, _ => exact ⟨_, t5⟩
    | 6, _ => exact ⟨_, t6⟩
    | 7, _ => exact ⟨_, t7⟩
  obtain ⟨u, hu⟩ := lj
  rw [World.frozen?_setCell]
  exact frozen_al hu (tz j hj) _

set_option maxHeartbeats 8000000 in
set_option maxRecDepth 1000000 in
theorem round_again {K : Act → World → Prop} {Q0 : Exit → Act → World → Prop} (ab ao c9 k B g c m1 m2 n : Nat) (key val mid s t : ByteArray) (wr : World) (hk : k < 5) (hv : val.size ≤ 4294967296) (hn : n ≤ 4294967295) (hss : s.size ≤ 20)
    (c0 : wr.cell? ⟨ab, ao + k * 2, none⟩ = some (.string key)) (c1 : wr.cell? ⟨ab, ao + k * 2 + 1, none⟩ = some (.string val))
    (g1 : (key.toList == [115, 115, 114, 99, 45, 103, 114, 111, 117, 112]) = false) (g2 : (key.toList == [109, 115, 105, 100]) = false) (g3 : (key.toList == [115, 115, 114, 99]) = true) (hp : piecesB 32 val = [dec n, ⟨#[109, 115, 105, 100, 58]⟩ ++ s, t])
    (x1 : NoKeys wr m1) (x2 : NoKeys wr m2) (hne1 : g ≠ m1) (hne2 : g ≠ m2) (hB : B ≤ wr.heap.size) (htr : TrackRow (B ≤ ·) wr g mid s t n)
    (u0 u1 u2 u3 u4 u10 u13 u14 u15 u16 u17 u18 u19 u20 u21 u22 u23 u24 u25 u26 u27 u28 u29 u30 u31 u32 u33 u34 u35 u36 u37 u38 u39 u40 u41 u42 u43 u44 u45 u46 u47 u48 u49 u50 u51 u52 u53 u54 u55 u56 u57 u58 u59 u60 u61 u62 u63 u64 u65 u66 u67 u68 u69 u70 u71 u72 u73 u74 u75 u76 u77 u78 u79 u80 u81 u82 u83 u84 u85 u89 u90 u91 u92 u93 u94 u95 u96 u97 u98 u99 u100 u101 u102 u103 u104 u105 u106 u107 u108 u109 u110 u111 u112 u113 u114 u115 u116 u117 u118 u119 u120 u121 u122 u123 u124 u125 u126 u127 u128 u129 u130 u131 u132 u133 u134 u135 u136 u137 u138 u139 u140 u141 u142 u143 u144 u145 u146 u147 u148 u149 u150 u151 u152 u153 u154 u155 u156 u157 u158 u159 u160 u161 u162 u163 u164 u165 u166 u167 u168 u169 u170 u171 u172 u173 u174 u175 u176 u177 u178 u179 u180 u181 u182 u183 u184 u185 u186 u187 u188 u189 u190 u191 u192 u193 u194 u195 u196 u197 u198 u199 u200 u201 u202 u203 u204 u205 u206 u207 u208 u209 u210 u211 u212 u213 u214 u215 u216 u217 u218 u219 u220 u221 u222 u223 u224 u225 u226 u227 u228 u229 u230 u231 u232 u233 u234 u235 u236 u237 u238 u239 u240 u241 u242 u243 u244 u245 u246 u247 u248 u249 u250 u251 u252 u253 u254 u255 u256 u257 u258 u259 u260 u261 u262 u263 u264 u265 u266 u267 u268 u269 u270 u271 u272 u273 u274 u275 u276 u277 u278 u279 u280 u281 u282 u283 u284 u285 u286 u287 u288 u289 u290 u291 u292 u293 u294 u295 u296 u297 u298 u299 u300 u301 u302 u303 u304 u305 u306 u307 u308 u309 u310 u311 u312 u313 u314 u315 u316 u317 u318 u319 u320 u321 u322 u323 u324 u325 u326 u327 u328 u329 u330 u331 u332 u333 u334 u335 u336 u337 u338 u339 u340 u341 u342 u343 u344 u345 u346 u347 u348 u349 u350 u351 u352 u353 u354 u355 u356 u357 u358 u359 u360 u361 u362 u363 u364 u365 u366 u367 u368 u369 u370 u371 u372 u373 u374 u375 u376 u377 u378 u379 u380 u381 u382 u383 u384 u385 u386 u387 u388 u389 u390 u391 u392 u393 u394 u395 u396 u397 u398 u399 u400 u401 u402 u403 u404 u405 u406 : Value)
    (hK : ∀ a w', FrameIs a u2 u4 (.slice (some ⟨g, 0, none⟩) 1 c) (.map (some m1)) (.map (some m2)) (.string s) (.string t) (.string mid) (.int .i64 1) u53 u54 u55 (.slice (some ⟨ab, ao, none⟩) 5 c9) (.int .i64 5) (.int .i64 ((k + 1 : Nat) : Int)) → Below B wr w' → NoKeys w' m1 → NoKeys w' m2 → TrackRow (B ≤ ·) w' g mid s t n → K a w') :
    Code.wp Tryz.prog trackBody (Exit.then K Q0) ⟨#[u0, u1, u2, u3, u4, .slice (some ⟨g, 0, none⟩) 1 c, .map (some m1), .map (some m2), .string s, .string t, u10, .string mid, .int .i64 1, u13, u14, u15, u16, u17, u18, u19, u20, u21, u22, u23, u24, u25, u26, u27, u28, u29, u30, u31, u32, u33, u34, u35, u36, u37, u38, u39, u40, u41, u42, u43, u44, u45, u46, u47, u48, u49, u50, u51, u52, u53, u54, u55, u56, u57, u58, u59, u60, u61, u62, u63, u64, u65, u66, u67, u68, u69, u70, u71, u72, u73, u74, u75, u76, u77, u78, u79, u80, u81, u82, u83, u84, u85, .slice (some ⟨ab, ao, none⟩) 5 c9, .int .i64 5, .int .i64 (k : Int), u89, u90, u91, u92, u93, u94, u95, u96, u97, u98, u99, u100, u101, u102, u103, u104, u105, u106, u107, u108, u109, u110, u111, u112, u113, u114, u115, u116, u117, u118, u119, u120, u121, u122, u123, u124, u125, u126, u127, u128, u129, u130, u131, u132, u133, u134, u135, u136, u137, u138, u139, u140, u141, u142, u143, u144, u145, u146, u147, u148, u149, u150, u151, u152, u153, u154, u155, u156, u157, u158, u159, u160, u161, u162, u163, u164, u165, u166, u167, u168, u169, u170, u171, u172, u173, u174, u175, u176, u177, u178, u179, u180, u181, u182, u183, u184, u185, u186, u187, u188, u189, u190, u191, u192, u193, u194, u195, u196, u197, u198, u199, u200, u201, u202, u203, u204, u205, u206, u207, u208, u209, u210, u211, u212, u213, u214, u215, u216, u217, u218, u219, u220, u221, u222, u223, u224, u225, u226, u227, u228, u229, u230, u231, u232, u233, u234, u235, u236, u237, u238, u239, u240, u241, u242, u243, u244, u245, u246, u247, u248, u249, u250, u251, u252, u253, u254, u255, u256, u257, u258, u259, u260, u261, u262, u263, u264, u265, u266, u267, u268, u269, u270, u271, u272, u273, u274, u275, u276, u277, u278, u279, u280, u281, u282, u283, u284, u285, u286, u287, u288, u289, u290, u291, u292, u293, u294, u295, u296, u297, u298, u299, u300, u301, u302, u303, u304, u305, u306, u307, u308, u309, u310, u311, u312, u313, u314, u315, u316, u317, u318, u319, u320, u321, u322, u323, u324, u325, u326, u327, u328, u329, u330, u331, u332, u333, u334, u335, u336, u337, u338, u339, u340, u341, u342, u343, u344, u345, u346, u347, u348, u349, u350, u351, u352, u353, u354, u355, u356, u357, u358, u359, u360, u361, u362, u363, u364, u365, u366, u367, u368, u369, u370, u371, u372, u373, u374, u375, u376, u377, u378, u379, u380, u381, u382, u383, u384, u385, u386, u387, u388, u389, u390, u391, u392, u393, u394, u395, u396, u397, u398, u399, u400, u401, u402, u403, u404, u405, u406], []⟩ wr := by
  have hd : decide ((k : Int) < 5) = true := by simp; omega
  have HK := Lib.hid hK
  have hsp := fun w => split_any val 32 w hv
  rw [hp] at hsp
  have HSP := Lib.hid hsp
  have HPU := Lib.hid (fun w => Tryz.strconv_ParseUint_10_at32_ok (dec n) (by have := dec_short hn; omega) n (parseB_dec 32 n (by decide) (by simpa using hn)) w)
  have hhp := fun w => Tryz.strings_HasPrefix (⟨#[109, 115, 105, 100, 58]⟩ ++ s) ⟨#[109, 115, 105, 100, 58]⟩ w
  rw [show (⟨#[109, 115, 105, 100, 58]⟩ : ByteArray).data.toList = [109, 115, 105, 100, 58] from rfl, has_msid s] at hhp
  have HHP := Lib.hid hhp
  have hre : (⟨#[109, 115, 105, 100, 58]⟩ ++ s : ByteArray).extract 5 (5 + s.size) = s := by
    have h := msid_rest s
    rw [ByteArray.size_append] at h
    exact h
  have HRE := Lib.hid hre
  clear hre
  have X1 := Lib.hid x1
  have X2 := Lib.hid x2
  have hwf : (Lit.int .u64 (n : Int)).wf = true := WalkArith.wf_u64 (by omega)
  have HTR := Lib.hid htr
  obtain ⟨hg, t0, t1, t2, t3, ⟨sb, hsb, hsg, tsb, t4⟩, t5, t6, t7, tz⟩ := htr
  have lg := World.block_lt_of_cell? _ _ t0
  clear hK hp hsp hhp x1 x2
  conv => arg 2; whnf
  go_wp2_with (first
    | (go_at_call 25; refine (HSP.out _).mono ?_; rintro e w1 ⟨A1, k1, rfl, hr1, hb1⟩; obtain ⟨b1, o1, rfl, _, d0⟩ := hr1 0 (dec n) rfl; obtain ⟨_, _, e1, _, d1⟩ := hr1 1 _ rfl; cases e1; obtain ⟨_, _, e2, _, d2⟩ := hr1 2 t rfl; cases e2; simp only [Nat.add_zero, List.length_cons, List.length_nil] at d0 d1 d2 ⊢)
    | (go_at_call 26; refine (HPU.out _).mono ?_; rintro e w2 ⟨rfl, hb2'⟩; have hb2 := below_pu hb2'; clear hb2'; have Y1 := Lib.hid (((X1.out.alloc _).below hb1).below hb2); have Y2 := Lib.hid (((X2.out.alloc _).below hb1).below hb2); have f1 := kp_of_below hb2 _ _ d1; have f2 := kp_of_below hb2 _ _ d2; have KW := Lib.hid (((Kp.alloc _ _).trans (kp_of_below hb1)).trans (kp_of_below hb2)); have v4 := KW.out _ _ t4; have vs := KW.out _ _ tsb; have lg2 := World.block_lt_of_cell? _ _ v4; have ls2 := World.block_lt_of_cell? _ _ vs)
    | (go_at_call 28; refine (HHP.out _).mono ?_; rintro e w3 ⟨rfl, rfl⟩)
    | (at_lookup; refine wpList_look_none _ rfl _ _ rfl m1 rfl Y1.out n rfl hwf ?_)
    | (at_lookup; refine wpList_look_none _ rfl _ _ rfl m2 rfl Y2.out n rfl hwf ?_))
  rw [HRE.out]
  refine wp_loop_rounds 2 ?_
  rw [rounds_succ]
  go_wp2_with fail
  refine wp_loop_rounds 2 ?_
  rw [rounds_succ]
  go_wp2_with fail
  rw [rounds_succ]
  go_wp2_with fail
  rw [rounds_succ]
  have hz1 := hb1.size
  have hz2 := hb2.size
  simp only [World.size_alloc] at hz1
  have bW : Below wr.heap.size wr (w3.alloc (.cells #[.string ⟨#[]⟩, .int .i64 0, .string ⟨#[]⟩, .string ⟨#[]⟩, .slice none 0 0, .pointer none, .pointer none, .slice none 0 0] 60)) := ((((Below.refl _ _).alloc (Nat.le_refl _) _).trans (hb1.mono (by simp))).trans (hb2.mono (by omega))).alloc (by omega) _
  have cW := kp_of_below bW
  have zW : ∀ j, j < 8 → (w3.alloc (.cells #[.string ⟨#[]⟩, .int .i64 0, .string ⟨#[]⟩, .string ⟨#[]⟩, .slice none 0 0, .pointer none, .pointer none, .slice none 0 0] 60)).frozen? ⟨g, j, none⟩ = false := fun j hj => (bW.frozen (p := ⟨g, j, none⟩) lg).trans (tz j hj)
  have W1 := Lib.hid (Y1.out.alloc (.cells #[.string ⟨#[]⟩, .int .i64 0, .string ⟨#[]⟩, .string ⟨#[]⟩, .slice none 0 0, .pointer none, .pointer none, .slice none 0 0] 60))
  have W2 := Lib.hid (Y2.out.alloc (.cells #[.string ⟨#[]⟩, .int .i64 0, .string ⟨#[]⟩, .string ⟨#[]⟩, .slice none 0 0, .pointer none, .pointer none, .slice none 0 0] 60))
  have CW := Lib.hid cW
  have ZW := Lib.hid zW
  have BW := Lib.hid bW
  clear cW zW bW
  go_wp2_with (first
    | (refine wpList_store_held rfl _ _ _ rfl g 0 (.string mid) rfl rfl (by kernel_rfl) rfl (CW.out _ _ t0) (ZW.out 0 (by decide)) ?_)
    | (refine wpList_store_held rfl _ _ _ rfl g 1 (.int .i64 1) rfl rfl (by kernel_rfl) rfl (CW.out _ _ t1) (ZW.out 1 (by decide)) ?_)
    | (refine wpList_store_held rfl _ _ _ rfl g 2 (.string s) rfl rfl (by kernel_rfl) rfl (CW.out _ _ t2) (ZW.out 2 (by decide)) ?_)
    | (refine wpList_store_held rfl _ _ _ rfl g 3 (.string t) rfl rfl (by kernel_rfl) rfl (CW.out _ _ t3) (ZW.out 3 (by decide)) ?_)
    | (refine wpList_store_cell rfl _ _ _ rfl g 4 (.slice (some ⟨w3.heap.size + 1, 0, none⟩) 1 1) _ rfl rfl (by kernel_rfl) rfl (cell_al (CW.out _ _ t4) _) (frozen_al (CW.out _ _ t4) (ZW.out 4 (by decide)) _) ?_; intro w4 e4; have E4 := Lib.hid e4; clear e4))
  have N1 : NoKeys w4 m1 := by rw [E4.out]; exact (W1.out.alloc _).set _ (Ne.symm hne1)
  have N2 : NoKeys w4 m2 := by rw [E4.out]; exact (W2.out.alloc _).set _ (Ne.symm hne2)
  have N1 := Lib.hid N1
  have N2 := Lib.hid N2
  have B4 : Below B wr w4 := by rw [E4.out]; exact ((BW.out.mono hB).alloc (by simp; omega) _).setCell hg _
  have B4 := Lib.hid B4
  refine (keys_none m1 _ N1.out).mono ?_
  rintro e w5 ⟨rfl, hb5⟩
  go_wp2_with fail
  refine wp_loop_rounds 1 ?_
  rw [rounds_succ]
  go_wp2_with fail
  refine (keys_none m2 _ (N2.out.below hb5)).mono ?_
  rintro e w6 ⟨rfl, hb6⟩
  go_wp2_with fail
  refine wp_loop_rounds 1 ?_
  rw [rounds_succ]
  go_wp2_with fail
  have B5 : Below B wr w6 := (B4.out.trans (hb5.mono (Nat.le_trans hB B4.out.size))).trans (hb6.mono (Nat.le_trans (Nat.le_trans hB B4.out.size) hb5.size))
  have R4 : TrackRow (B ≤ ·) w4 g mid s t n := by
    rw [E4.out]
    have := (HTR.out.below BW.out).again (by have := BW.out.size; omega) 61
    rw [World.size_alloc] at this
    exact this
  exact HK.out _ _ ⟨rfl, rfl, rfl, rfl, rfl, rfl, rfl, rfl, rfl, rfl, rfl, rfl, rfl, rfl, rfl, rfl, rfl⟩ B5 ((N1.out.below hb5).below hb6) ((N2.out.below hb5).below hb6) ((R4.below hb5).below hb6)
end Go.Proofs.YtkaelnfhohggeaaGreatDoor
