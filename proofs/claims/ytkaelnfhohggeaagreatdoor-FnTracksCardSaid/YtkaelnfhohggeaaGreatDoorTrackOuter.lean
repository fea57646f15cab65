/- The outer loop of trackDetailsFromSDP: the round of the law's one medium. -/
import Derived.Test.YtkaelnfhohggeaaGreatDoorTrackLoop
import Derived.Maps.AppendAt
namespace Go.Proofs.YtkaelnfhohggeaaGreatDoor
open Go.RowKit Go.WideMaps Go.Maps

set_option maxHeartbeats 400000 in
theorem codecType_audio (w : World) : Calls Tryz.prog 24 #[.string ⟨#[97, 117, 100, 105, 111]⟩] w fun e w' => e = .returned (.int .i64 1) ∧ w = w' := by
  go_enter Tryz.func24, Tryz.ntmps24
  go_wp2
  go_ret
  exact ⟨rfl, rfl⟩

def rowCells (mid s t : ByteArray) (b : Nat) : List Value := [.string mid, .int .i64 1, .string s, .string t, .slice (some ⟨b, 0, none⟩) 1 1, .pointer none, .pointer none, .slice none 0 0]
theorem TrackRow.news {D : Nat → Prop} {w : World} {g n : Nat} {mid s t : ByteArray} (h : TrackRow D w g mid s t n) : ∃ b, D b ∧ w.cell? ⟨b, 0, none⟩ = some (.int .u32 n) ∧ ∀ j u, (rowCells mid s t b)[j]? = some u → w.cell? ((⟨g, 0, none⟩ : Addr).add j) = some u := by
  obtain ⟨hg, t0, t1, t2, t3, ⟨sb, hsb, hsg, tsb, t4⟩, t5, t6, t7, tz⟩ := h
  refine ⟨sb, hsb, tsb, fun j u hj => ?_⟩
  rw [add_at]
  match j, hj with
  | 0, hj => cases hj; exact t0
  | 1, hj => cases hj; exact t1
  | 2, hj => cases hj; exact t2
  | 3, hj => cases hj; exact t3
  | 4, hj => cases hj; exact t4
  | 5, hj => cases hj; exact t5
  | 6, hj => cases hj; exact t6
  | 7, hj => cases hj; exact t7
/-- The row that the last append makes. -/
theorem track_out {B n b : Nat} {mid s t : ByteArray} {w w' : World} {v : Value} (hb : B ≤ b) (hB : B ≤ w.heap.size) (hc : w.cell? ⟨b, 0, none⟩ = some (.int .u32 n)) (h : w'.ownsRow B 60 8 v 1 (rowCells mid s t b)) (hg : w.grownBy w' none) (hv : v.ownBlock = none ∨ v.ownBlock = some w.heap.size) :
    ∃ g c, v = .slice (some ⟨g, 0, none⟩) 1 c ∧ TrackRow (B ≤ ·) w' g mid s t n := by
  have hcl := @World.ownsRow.cells _ _ _ _ _ _ _ h
  rcases h.2 with ⟨rfl, hx⟩ | ⟨g, cap, cur, rfl, _, hgb, _⟩
  · cases hx
  · have e : g = w.heap.size := by
      rcases hv with hv | hv
      · simp [Value.ownBlock] at hv
      · simpa [Value.ownBlock] using hv
    have cell : ∀ j u, (rowCells mid s t b)[j]? = some u → w'.cell? ⟨g, j, none⟩ = some u := fun j u hj => by
      have := hcl (g := g) rfl j u hj
      rwa [add_at] at this
    refine ⟨g, cap, rfl, by show B ≤ g; omega, cell 0 _ rfl, cell 1 _ rfl, cell 2 _ rfl, cell 3 _ rfl, ⟨b, hb, by have := World.block_lt_of_cell? _ _ hc; simp at this; omega, ?_, cell 4 _ rfl⟩, cell 5 _ rfl, cell 6 _ rfl, cell 7 _ rfl, fun j _ => ?_⟩
    · have lt := World.block_lt_of_cell? _ _ hc
      have := hg.block b lt (by simp)
      simp only [World.cell?] at hc ⊢
      rw [this]; exact hc
    · simp only [World.frozen?, hgb]
      simp

noncomputable def outerBody : Code := ((Tryz.f20.body).bind firstLoop).getD .skip

set_option maxHeartbeats 8000000 in
set_option maxRecDepth 1000000 in
theorem round_outer {D : Nat → Prop} {K : Act → World → Prop} {Q0 : Exit → Act → World → Prop} (q pb po c18 n p : Nat) (mid s t : ByteArray) (fs : List ByteArray) (wr : World) (hm : wordB mid = true) (hs : wordB s = true) (ht : wordB t = true) (hn : n ≤ 4294967295)
    (hsd : SD D wr q [] [⟨⟨#[97, 117, 100, 105, 111]⟩, fs, trackAttrs mid s t n⟩]) (cp : wr.cell? ⟨pb, po, none⟩ = some (.pointer (some ⟨p, 0, none⟩))) (hmd : MD D wr p ⟨#[97, 117, 100, 105, 111]⟩ fs (trackAttrs mid s t n))
    (u1 u3 u4 u5 u6 u7 u8 u9 u10 u11 u12 u13 u14 u15 u16 u17 u18 u19 u20 u21 u22 u23 u24 u25 u26 u27 u28 u29 u30 u31 u32 u33 u34 u35 u36 u37 u38 u39 u40 u41 u42 u43 u44 u45 u46 u47 u48 u49 u50 u51 u52 u56 u57 u58 u59 u60 u61 u62 u63 u64 u65 u66 u67 u68 u69 u70 u71 u72 u73 u74 u75 u76 u77 u78 u79 u80 u81 u82 u83 u84 u85 u86 u87 u88 u89 u90 u91 u92 u93 u94 u95 u96 u97 u98 u99 u100 u101 u102 u103 u104 u105 u106 u107 u108 u109 u110 u111 u112 u113 u114 u115 u116 u117 u118 u119 u120 u121 u122 u123 u124 u125 u126 u127 u128 u129 u130 u131 u132 u133 u134 u135 u136 u137 u138 u139 u140 u141 u142 u143 u144 u145 u146 u147 u148 u149 u150 u151 u152 u153 u154 u155 u156 u157 u158 u159 u160 u161 u162 u163 u164 u165 u166 u167 u168 u169 u170 u171 u172 u173 u174 u175 u176 u177 u178 u179 u180 u181 u182 u183 u184 u185 u186 u187 u188 u189 u190 u191 u192 u193 u194 u195 u196 u197 u198 u199 u200 u201 u202 u203 u204 u205 u206 u207 u208 u209 u210 u211 u212 u213 u214 u215 u216 u217 u218 u219 u220 u221 u222 u223 u224 u225 u226 u227 u228 u229 u230 u231 u232 u233 u234 u235 u236 u237 u238 u239 u240 u241 u242 u243 u244 u245 u246 u247 u248 u249 u250 u251 u252 u253 u254 u255 u256 u257 u258 u259 u260 u261 u262 u263 u264 u265 u266 u267 u268 u269 u270 u271 u272 u273 u274 u275 u276 u277 u278 u279 u280 u281 u282 u283 u284 u285 u286 u287 u288 u289 u290 u291 u292 u293 u294 u295 u296 u297 u298 u299 u300 u301 u302 u303 u304 u305 u306 u307 u308 u309 u310 u311 u312 u313 u314 u315 u316 u317 u318 u319 u320 u321 u322 u323 u324 u325 u326 u327 u328 u329 u330 u331 u332 u333 u334 u335 u336 u337 u338 u339 u340 u341 u342 u343 u344 u345 u346 u347 u348 u349 u350 u351 u352 u353 u354 u355 u356 u357 u358 u359 u360 u361 u362 u363 u364 u365 u366 u367 u368 u369 u370 u371 u372 u373 u374 u375 u376 u377 u378 u379 u380 u381 u382 u383 u384 u385 u386 u387 u388 u389 u390 u391 u392 u393 u394 u395 u396 u397 u398 u399 u400 u401 u402 u403 u404 u405 u406 : Value)
    (hK : ∀ a w' g c x4 x5 x6 x7 x8 x9 x11 x12 x86 x87 x88, FrameIs a (.slice (some ⟨g, 0, none⟩) 1 c) x4 x5 x6 x7 x8 x9 x11 x12 (.slice (some ⟨pb, po, none⟩) 1 c18) (.int .i64 1) (.int .i64 1) x86 x87 x88 → Below wr.heap.size wr w' → TrackRow (wr.heap.size ≤ ·) w' g mid s t n → K a w') :
    Code.wp Tryz.prog outerBody (Exit.then K Q0) ⟨#[.pointer (some ⟨q, 0, none⟩), u1, .slice none 0 0, u3, u4, u5, u6, u7, u8, u9, u10, u11, u12, u13, u14, u15, u16, u17, u18, u19, u20, u21, u22, u23, u24, u25, u26, u27, u28, u29, u30, u31, u32, u33, u34, u35, u36, u37, u38, u39, u40, u41, u42, u43, u44, u45, u46, u47, u48, u49, u50, u51, u52, .slice (some ⟨pb, po, none⟩) 1 c18, .int .i64 1, .int .i64 0, u56, u57, u58, u59, u60, u61, u62, u63, u64, u65, u66, u67, u68, u69, u70, u71, u72, u73, u74, u75, u76, u77, u78, u79, u80, u81, u82, u83, u84, u85, u86, u87, u88, u89, u90, u91, u92, u93, u94, u95, u96, u97, u98, u99, u100, u101, u102, u103, u104, u105, u106, u107, u108, u109, u110, u111, u112, u113, u114, u115, u116, u117, u118, u119, u120, u121, u122, u123, u124, u125, u126, u127, u128, u129, u130, u131, u132, u133, u134, u135, u136, u137, u138, u139, u140, u141, u142, u143, u144, u145, u146, u147, u148, u149, u150, u151, u152, u153, u154, u155, u156, u157, u158, u159, u160, u161, u162, u163, u164, u165, u166, u167, u168, u169, u170, u171, u172, u173, u174, u175, u176, u177, u178, u179, u180, u181, u182, u183, u184, u185, u186, u187, u188, u189, u190, u191, u192, u193, u194, u195, u196, u197, u198, u199, u200, u201, u202, u203, u204, u205, u206, u207, u208, u209, u210, u211, u212, u213, u214, u215, u216, u217, u218, u219, u220, u221, u222, u223, u224, u225, u226, u227, u228, u229, u230, u231, u232, u233, u234, u235, u236, u237, u238, u239, u240, u241, u242, u243, u244, u245, u246, u247, u248, u249, u250, u251, u252, u253, u254, u255, u256, u257, u258, u259, u260, u261, u262, u263, u264, u265, u266, u267, u268, u269, u270, u271, u272, u273, u274, u275, u276, u277, u278, u279, u280, u281, u282, u283, u284, u285, u286, u287, u288, u289, u290, u291, u292, u293, u294, u295, u296, u297, u298, u299, u300, u301, u302, u303, u304, u305, u306, u307, u308, u309, u310, u311, u312, u313, u314, u315, u316, u317, u318, u319, u320, u321, u322, u323, u324, u325, u326, u327, u328, u329, u330, u331, u332, u333, u334, u335, u336, u337, u338, u339, u340, u341, u342, u343, u344, u345, u346, u347, u348, u349, u350, u351, u352, u353, u354, u355, u356, u357, u358, u359, u360, u361, u362, u363, u364, u365, u366, u367, u368, u369, u370, u371, u372, u373, u374, u375, u376, u377, u378, u379, u380, u381, u382, u383, u384, u385, u386, u387, u388, u389, u390, u391, u392, u393, u394, u395, u396, u397, u398, u399, u400, u401, u402, u403, u404, u405, u406], []⟩ wr := by
  have SDH := Lib.hid hsd
  have HM := Lib.hid hmd
  have HK := Lib.hid hK
  obtain ⟨i0, hi, hz0, hz1, hz2⟩ := info_parts Tryz.infoTrack
  obtain ⟨_, k0, _, A9, c9, k9, hkv⟩ := hmd
  have k9 : wr.cell? ⟨p, 9, none⟩ = some (.slice A9 5 c9) := k9
  obtain ⟨ab, ao, rfl, _, a0, a0'⟩ := hkv 0 _ rfl
  have hat : ∀ j p, (trackAttrs mid s t n)[j]? = some p → wr.cell? ⟨ab, ao + j * 2, none⟩ = some (.string p.1) ∧ wr.cell? ⟨ab, ao + j * 2 + 1, none⟩ = some (.string p.2) := fun j p hj => by
    obtain ⟨_, _, e, _, h, h'⟩ := hkv j p hj
    cases e
    exact ⟨h, h'⟩
  have lab : ab < wr.heap.size := World.block_lt_of_cell? _ _ a0
  have HAT := Lib.hid hat
  clear hat a0 a0' hkv hsd
  have nempty : ∀ x : ByteArray, wordB x = true → (x.toList == []) = false := fun x hx => by
    rw [Lib.toList_data, beq_eq_false_iff_ne]
    intro e
    have := (word_size hx).1
    rw [Lib.size_eq, e] at this
    exact absurd this (by decide)
  have hmz := nempty mid hm
  clear nempty
  have hmm := @run_makeMap Tryz.prog
  have HDIR := Lib.hid (fun wx h1 h2 => track_dir mid s t n ▸ getPeer_any (D := D) (D' := D) p q ⟨#[97, 117, 100, 105, 111]⟩ fs (trackAttrs mid s t n) [] [⟨⟨#[97, 117, 100, 105, 111]⟩, fs, trackAttrs mid s t n⟩] wx (by simp [trackAttrs]) (by simp) h1 h2)
  have HMID := Lib.hid (fun wx h1 => track_mid mid s t n ▸ getMid_any (D := D) p ⟨#[97, 117, 100, 105, 111]⟩ fs (trackAttrs mid s t n) wx (by simp [trackAttrs]) h1)
  have HRID := Lib.hid (fun wx h1 => getRids_any (D := D) p ⟨#[97, 117, 100, 105, 111]⟩ fs (trackAttrs mid s t n) wx (by simp [trackAttrs]) (track_vals hm hs ht hn) (track_sim mid s t n) h1)
  have e1 := heap_alloc_new (wr.alloc (Obj.cells #[] 60)) (Obj.map #[] 0)
  rw [World.size_alloc] at e1
  have e2 := heap_alloc_new ((wr.alloc (Obj.cells #[] 60)).alloc (Obj.map #[] 0)) (Obj.map #[] 0)
  rw [World.size_alloc, World.size_alloc] at e2
  have n1 : NoKeys (((wr.alloc (Obj.cells #[] 60)).alloc (Obj.map #[] 0)).alloc (Obj.map #[] 0)) (wr.heap.size + 1) := NoKeys.alloc e1 _
  have n2 : NoKeys (((wr.alloc (Obj.cells #[] 60)).alloc (Obj.map #[] 0)).alloc (Obj.map #[] 0)) (wr.heap.size + 1 + 1) := e2
  have b3 : Below wr.heap.size wr (((wr.alloc (Obj.cells #[] 60)).alloc (Obj.map #[] 0)).alloc (Obj.map #[] 0)) := (((Below.refl _ wr).alloc (Nat.le_refl _) _).alloc (by simp) _).alloc (by simp; omega) _
  have N1 := Lib.hid n1
  have N2 := Lib.hid n2
  have B3 := Lib.hid b3
  have KW := Lib.hid (kp_of_below b3)
  clear e1 e2 n1 n2 b3
  clear hK
  conv => arg 2; whnf
  go_wp2_with (first
    | (go_at_call 23; refine (HDIR.out _ (HM.out.keep KW.out) (SDH.out.keep KW.out)).mono ?_; rintro e w1 ⟨rfl, hb1⟩)
    | (go_at_call 22; refine (HMID.out _ (HM.out.keep (KW.out.trans (kp_of_below hb1)))).mono ?_; rintro e w2 ⟨rfl, hb2⟩; have d0 := kp_of_below hb2 _ _ (kp_of_below hb1 _ _ (KW.out _ _ k0)); have d9 := kp_of_below hb2 _ _ (kp_of_below hb1 _ _ (KW.out _ _ k9)))
    | (go_at_call 24; refine (codecType_audio _).mono ?_; rintro e w3 ⟨rfl, rfl⟩))
  have h12 := hb1.size
  have h22 := hb2.size
  have bw2 : Below wr.heap.size wr w2 := below_step (below_step B3.out (below_le B3.out (Nat.le_refl _)) hb1) (Nat.le_trans (below_le B3.out (Nat.le_refl _)) h12) hb2
  have n12 := (N1.out.below hb1).below hb2
  have n22 := (N2.out.below hb1).below hb2
  have BW2 := Lib.hid bw2
  refine wp_loop_rounds 6 ?_
  apply inner_loop ab ao c9 wr.heap.size wr.heap.size (wr.heap.size + 1) (wr.heap.size + 1 + 1) n mid s t w2 hm hs ht hn (fun j p hj => ⟨kp_of_below BW2.out _ _ (HAT.out j p hj).1, kp_of_below BW2.out _ _ (HAT.out j p hj).2⟩) n12 n22 bw2.size lab
  intro a3 w3 g c hf3 hb3 tr3
  obtain ⟨f, rfl⟩ := frame_fn hf3
  clear hf3
  have KW3 : Kp wr w3 := fun x v h => (hb3.cell (World.block_lt_of_cell? _ _ h)).trans (kp_of_below BW2.out _ _ h)
  have KW3 := Lib.hid KW3
  have TR3 := Lib.hid tr3
  have HB3 := Lib.hid hb3
  clear tr3 hb3
  go_wp2_with (first
    | (go_at_call 30; refine (HRID.out _ (HM.out.keep KW3.out)).mono ?_; rintro e w4 ⟨A4, c4, ps4, rfl, _, _, hb4⟩; rw [track_rids]; simp only [List.length_nil]; have TR4 := TR3.out.below hb4; obtain ⟨sb, hsb, hsc, hnw⟩ := TR4.news; have HNW := Lib.hid hnw; clear hnw; have HSC := Lib.hid hsc; clear hsc; have hB4 := Nat.le_trans BW2.out.size (Nat.le_trans HB3.out.size hb4.size))
    | (at_builtin; refine wpList_append_own_at _ rfl _ _ 54 rfl wr.heap.size 60 i0 _ 8 120 Tryz.underlying54 hi hz0 hz1 hz2 rfl (by decide) (.slice none 0 0) 0 [] rfl (World.ownsRow_nil _ _ _ _) ⟨g, 0, none⟩ 1 c (rowCells mid s t sb) rfl rfl HNW.out (fun u hu => by simp only [rowCells, List.mem_cons, List.not_mem_nil, or_false] at hu; rcases hu with rfl | rfl | rfl | rfl | rfl | rfl | rfl | rfl <;> rfl) (by decide) (by decide) hB4 ?_; intro v5 w5 hown5 hg5 _ hat5; obtain ⟨g5, c5, rfl, tr5⟩ := track_out hsb hB4 HSC.out hown5 hg5 hat5; have TR5 := Lib.hid tr5; have HG5 := Lib.hid hg5; clear hown5 hg5 hat5 tr5))
  exact HK.out _ _ g5 c5 _ _ _ _ _ _ _ _ _ _ _ ⟨rfl, rfl, rfl, rfl, rfl, rfl, rfl, rfl, rfl, rfl, rfl, rfl, rfl, rfl, rfl, rfl, rfl⟩ (((BW2.out.trans HB3.out).trans (hb4.mono (Nat.le_trans BW2.out.size HB3.out.size))).grown HG5.out hB4 (fun j hj => by cases hj)) TR5.out
end Go.Proofs.YtkaelnfhohggeaaGreatDoor
