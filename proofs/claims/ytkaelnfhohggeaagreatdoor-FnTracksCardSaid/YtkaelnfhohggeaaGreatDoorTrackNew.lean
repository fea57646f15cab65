/- The inner loop of trackDetailsFromSDP: the round of the first source: a new track. -/
import Derived.Test.YtkaelnfhohggeaaGreatDoorTrackBody
import Derived.Deep.AppendLies
namespace Go.Proofs.YtkaelnfhohggeaaGreatDoor
open Go.RowKit Go.WideMaps Go.Maps

/-- Block g's first element is the law's track. -/
def TrackRow (D : Nat → Prop) (w : World) (g : Nat) (mid s t : ByteArray) (n : Nat) : Prop :=
  D g ∧ w.cell? ⟨g, 0, none⟩ = some (.string mid) ∧ w.cell? ⟨g, 1, none⟩ = some (.int .i64 1) ∧ w.cell? ⟨g, 2, none⟩ = some (.string s) ∧ w.cell? ⟨g, 3, none⟩ = some (.string t) ∧
    (∃ b, D b ∧ b ≠ g ∧ w.cell? ⟨b, 0, none⟩ = some (.int .u32 n) ∧ w.cell? ⟨g, 4, none⟩ = some (.slice (some ⟨b, 0, none⟩) 1 1)) ∧
    w.cell? ⟨g, 5, none⟩ = some (.pointer none) ∧ w.cell? ⟨g, 6, none⟩ = some (.pointer none) ∧ w.cell? ⟨g, 7, none⟩ = some (.slice none 0 0) ∧ ∀ j, j < 8 → w.frozen? ⟨g, j, none⟩ = false

theorem below_pu {w w' : World} {s : ByteArray} (h : w' = w ∨ w' = Lib.bytesWorld w 5 s) : Below w.heap.size w w' := by
  rcases h with rfl | rfl
  · exact Below.refl _ _
  · exact ⟨rfl, rfl, rfl, by rw [Lib.bytesWorld_size]; omega, fun j hj => Lib.bytesWorld_at_old w _ s j hj⟩
theorem Tryz.infoTrack : (Tryz.prog.info? 60).map (fun i => (i.zero, i.size, i.bytes)) = some (some (.agg #[.string ByteArray.empty, .int .i64 0, .string ByteArray.empty, .string ByteArray.empty, .slice none 0 0, .pointer none, .pointer none, .slice none 0 0]), 8, 120) := by kernel_rfl

theorem new_close {B m1 m2 n : Nat} {mid s t : ByteArray} (w : World) (b : Nat) (Z : Array Value) (hB : B ≤ w.heap.size) (hb : B ≤ b) (x1 : NoKeys w m1) (x2 : NoKeys w m2) (hc : w.cell? ⟨b, 0, none⟩ = some (.int .u32 n)) :
    let A : Array Value := #[.string mid, .int .i64 1, .string s, .string t, .slice (some ⟨b, 0, none⟩) 1 1, .pointer none, .pointer none, .slice none 0 0]
    let W := ((w.alloc (.cells A 60)).alloc (.cells (A ++ Z) 60)).drew
    Below B w W ∧ NoKeys W m1 ∧ NoKeys W m2 ∧ w.heap.size + 1 ≠ m1 ∧ w.heap.size + 1 ≠ m2 ∧ TrackRow (B ≤ ·) W (w.heap.size + 1) mid s t n := by
  intro A W
  have l1 := x1.lt
  have l2 := x2.lt
  have lb : b < w.heap.size := World.block_lt_of_cell? _ _ hc
  have hg : W.heap[w.heap.size + 1]? = some (.cells (A ++ Z) 60 (0, 0)) := by
    have := heap_alloc_new (w.alloc (.cells A 60)) (.cells (A ++ Z) 60)
    rw [World.size_alloc] at this
    exact this
  have cell : ∀ (j : Nat) (u : Value), A[j]? = some u → W.cell? ⟨w.heap.size + 1, j, none⟩ = some u := fun j u h => by
    have hj : j < A.size := by by_cases hl : j < A.size; exact hl; rw [Array.getElem?_eq_none (by omega)] at h; cases h
    simp only [World.cell?, hg]
    rw [Array.getElem?_append_left hj]
    exact h
  refine ⟨(((Below.refl B w).alloc hB _).alloc (by simp; omega) _).drew, (x1.alloc _).alloc _, (x2.alloc _).alloc _, by omega, by omega, by show B ≤ _; omega, cell 0 _ rfl, cell 1 _ rfl, cell 2 _ rfl, cell 3 _ rfl, ⟨b, hb, by omega, cell_al (cell_al hc _) _, cell 4 _ rfl⟩, cell 5 _ rfl, cell 6 _ rfl, cell 7 _ rfl, fun j _ => ?_⟩
  simp only [World.frozen?, hg]
  simp

set_option maxHeartbeats 8000000 in
set_option maxRecDepth 1000000 in
theorem round_new {K : Act → World → Prop} {Q0 : Exit → Act → World → Prop} (ab ao c9 k B tb m1 m2 n : Nat) (key val mid s t y : ByteArray) (wr : World) (hk : k < 5) (hv : val.size ≤ 4294967296) (hn : n ≤ 4294967295)
    (c0 : wr.cell? ⟨ab, ao + k * 2, none⟩ = some (.string key)) (c1 : wr.cell? ⟨ab, ao + k * 2 + 1, none⟩ = some (.string val))
    (g1 : (key.toList == [115, 115, 114, 99, 45, 103, 114, 111, 117, 112]) = false) (g2 : (key.toList == [109, 115, 105, 100]) = false) (g3 : (key.toList == [115, 115, 114, 99]) = true) (hp : piecesB 32 val = [dec n, y])
    (x1 : NoKeys wr m1) (x2 : NoKeys wr m2) (hB : B ≤ wr.heap.size)
    (u0 u1 u2 u3 u4 u10 u13 u14 u15 u16 u17 u18 u19 u20 u21 u22 u23 u24 u25 u26 u27 u28 u29 u30 u31 u32 u33 u34 u35 u36 u37 u38 u39 u40 u41 u42 u43 u44 u45 u46 u47 u48 u49 u50 u51 u52 u53 u54 u55 u56 u57 u58 u59 u60 u61 u62 u63 u64 u65 u66 u67 u68 u69 u70 u71 u72 u73 u74 u75 u76 u77 u78 u79 u80 u81 u82 u83 u84 u85 u89 u90 u91 u92 u93 u94 u95 u96 u97 u98 u99 u100 u101 u102 u103 u104 u105 u106 u107 u108 u109 u110 u111 u112 u113 u114 u115 u116 u117 u118 u119 u120 u121 u122 u123 u124 u125 u126 u127 u128 u129 u130 u131 u132 u133 u134 u135 u136 u137 u138 u139 u140 u141 u142 u143 u144 u145 u146 u147 u148 u149 u150 u151 u152 u153 u154 u155 u156 u157 u158 u159 u160 u161 u162 u163 u164 u165 u166 u167 u168 u169 u170 u171 u172 u173 u174 u175 u176 u177 u178 u179 u180 u181 u182 u183 u184 u185 u186 u187 u188 u189 u190 u191 u192 u193 u194 u195 u196 u197 u198 u199 u200 u201 u202 u203 u204 u205 u206 u207 u208 u209 u210 u211 u212 u213 u214 u215 u216 u217 u218 u219 u220 u221 u222 u223 u224 u225 u226 u227 u228 u229 u230 u231 u232 u233 u234 u235 u236 u237 u238 u239 u240 u241 u242 u243 u244 u245 u246 u247 u248 u249 u250 u251 u252 u253 u254 u255 u256 u257 u258 u259 u260 u261 u262 u263 u264 u265 u266 u267 u268 u269 u270 u271 u272 u273 u274 u275 u276 u277 u278 u279 u280 u281 u282 u283 u284 u285 u286 u287 u288 u289 u290 u291 u292 u293 u294 u295 u296 u297 u298 u299 u300 u301 u302 u303 u304 u305 u306 u307 u308 u309 u310 u311 u312 u313 u314 u315 u316 u317 u318 u319 u320 u321 u322 u323 u324 u325 u326 u327 u328 u329 u330 u331 u332 u333 u334 u335 u336 u337 u338 u339 u340 u341 u342 u343 u344 u345 u346 u347 u348 u349 u350 u351 u352 u353 u354 u355 u356 u357 u358 u359 u360 u361 u362 u363 u364 u365 u366 u367 u368 u369 u370 u371 u372 u373 u374 u375 u376 u377 u378 u379 u380 u381 u382 u383 u384 u385 u386 u387 u388 u389 u390 u391 u392 u393 u394 u395 u396 u397 u398 u399 u400 u401 u402 u403 u404 u405 u406 : Value)
    (hK : ∀ a w' g c, FrameIs a u2 u4 (.slice (some ⟨g, 0, none⟩) 1 c) (.map (some m1)) (.map (some m2)) (.string s) (.string t) (.string mid) (.int .i64 1) u53 u54 u55 (.slice (some ⟨ab, ao, none⟩) 5 c9) (.int .i64 5) (.int .i64 ((k + 1 : Nat) : Int)) → Below B wr w' → NoKeys w' m1 → NoKeys w' m2 → g ≠ m1 → g ≠ m2 → TrackRow (B ≤ ·) w' g mid s t n → K a w') :
    Code.wp Tryz.prog trackBody (Exit.then K Q0) ⟨#[u0, u1, u2, u3, u4, .slice (some ⟨tb, 0, none⟩) 0 0, .map (some m1), .map (some m2), .string s, .string t, u10, .string mid, .int .i64 1, u13, u14, u15, u16, u17, u18, u19, u20, u21, u22, u23, u24, u25, u26, u27, u28, u29, u30, u31, u32, u33, u34, u35, u36, u37, u38, u39, u40, u41, u42, u43, u44, u45, u46, u47, u48, u49, u50, u51, u52, u53, u54, u55, u56, u57, u58, u59, u60, u61, u62, u63, u64, u65, u66, u67, u68, u69, u70, u71, u72, u73, u74, u75, u76, u77, u78, u79, u80, u81, u82, u83, u84, u85, .slice (some ⟨ab, ao, none⟩) 5 c9, .int .i64 5, .int .i64 (k : Int), u89, u90, u91, u92, u93, u94, u95, u96, u97, u98, u99, u100, u101, u102, u103, u104, u105, u106, u107, u108, u109, u110, u111, u112, u113, u114, u115, u116, u117, u118, u119, u120, u121, u122, u123, u124, u125, u126, u127, u128, u129, u130, u131, u132, u133, u134, u135, u136, u137, u138, u139, u140, u141, u142, u143, u144, u145, u146, u147, u148, u149, u150, u151, u152, u153, u154, u155, u156, u157, u158, u159, u160, u161, u162, u163, u164, u165, u166, u167, u168, u169, u170, u171, u172, u173, u174, u175, u176, u177, u178, u179, u180, u181, u182, u183, u184, u185, u186, u187, u188, u189, u190, u191, u192, u193, u194, u195, u196, u197, u198, u199, u200, u201, u202, u203, u204, u205, u206, u207, u208, u209, u210, u211, u212, u213, u214, u215, u216, u217, u218, u219, u220, u221, u222, u223, u224, u225, u226, u227, u228, u229, u230, u231, u232, u233, u234, u235, u236, u237, u238, u239, u240, u241, u242, u243, u244, u245, u246, u247, u248, u249, u250, u251, u252, u253, u254, u255, u256, u257, u258, u259, u260, u261, u262, u263, u264, u265, u266, u267, u268, u269, u270, u271, u272, u273, u274, u275, u276, u277, u278, u279, u280, u281, u282, u283, u284, u285, u286, u287, u288, u289, u290, u291, u292, u293, u294, u295, u296, u297, u298, u299, u300, u301, u302, u303, u304, u305, u306, u307, u308, u309, u310, u311, u312, u313, u314, u315, u316, u317, u318, u319, u320, u321, u322, u323, u324, u325, u326, u327, u328, u329, u330, u331, u332, u333, u334, u335, u336, u337, u338, u339, u340, u341, u342, u343, u344, u345, u346, u347, u348, u349, u350, u351, u352, u353, u354, u355, u356, u357, u358, u359, u360, u361, u362, u363, u364, u365, u366, u367, u368, u369, u370, u371, u372, u373, u374, u375, u376, u377, u378, u379, u380, u381, u382, u383, u384, u385, u386, u387, u388, u389, u390, u391, u392, u393, u394, u395, u396, u397, u398, u399, u400, u401, u402, u403, u404, u405, u406], []⟩ wr := by
  have hd : decide ((k : Int) < 5) = true := by simp; omega
  have HK := Lib.hid hK
  have hsp := fun w => split_any val 32 w hv
  rw [hp] at hsp
  have HSP := Lib.hid hsp
  have HPU := Lib.hid (fun w => Tryz.strconv_ParseUint_10_at32_ok (dec n) (by have := dec_short hn; omega) n (parseB_dec 32 n (by decide) (by simpa using hn)) w)
  have X1 := Lib.hid x1
  have X2 := Lib.hid x2
  have hwf : (Lit.int .u64 (n : Int)).wf = true := by
    have h1 : IntKind.u64.min = 0 := by decide
    have h2 : IntKind.u64.max = 18446744073709551615 := by decide
    simp [Lit.wf, h1, h2]; omega
  clear hK hp hsp x1 x2
  conv => arg 2; whnf
  go_wp2_with (first
    | (go_at_call 25; refine (HSP.out _).mono ?_; rintro e w1 ⟨A1, k1, rfl, hr1, hb1⟩; obtain ⟨b1, o1, rfl, _, d0⟩ := hr1 0 (dec n) rfl; simp only [Nat.add_zero, List.length_cons, List.length_nil] at d0 ⊢)
    | (go_at_call 26; refine (HPU.out _).mono ?_; rintro e w2 ⟨rfl, hb2'⟩; have hb2 := below_pu hb2'; clear hb2'; have Y1 := Lib.hid (((X1.out.alloc _).below hb1).below hb2); have Y2 := Lib.hid (((X2.out.alloc _).below hb1).below hb2))
    | (at_lookup; refine wpList_look_none _ rfl _ _ rfl m1 rfl Y1.out n rfl hwf ?_)
    | (at_lookup; refine wpList_look_none _ rfl _ _ rfl m2 rfl Y2.out n rfl hwf ?_))
  go_loop [34, 35, 269] (fun nw td i => nw = .bool true ∧ td = .pointer (some ⟨w2.heap.size, 0, none⟩) ∧ i = .int .i64 0) (fun _ _ _ => 0)
  case atStart => exact ⟨rfl, rfl, rfl⟩
  case round =>
    obtain ⟨rfl, rfl, rfl⟩ := hrel
    go_wp2_with fail
    refine (keys_none m1 _ ((Y1.out.alloc _).alloc _)).mono ?_
    rintro e w3 ⟨rfl, hb3⟩
    have z3 := hb3.size
    have kc3 : ∀ (j : Nat) (u : Value), ((w2.alloc (.cells #[.string mid, .int .i64 1, .string s, .string t, .slice (some ⟨w2.heap.size + 1, 0, none⟩) 1 1, .pointer none, .pointer none, .slice none 0 0] 60)).alloc (.cells #[.int .u32 n] 61)).cell? ⟨w2.heap.size, j, none⟩ = some u → w3.cell? ⟨w2.heap.size, j, none⟩ = some u := fun j u h => kp_of_below hb3 _ _ h
    have Y3 := Lib.hid (((Y1.out.alloc _).alloc _).below hb3)
    have Y4 := Lib.hid (((Y2.out.alloc _).alloc _).below hb3)
    go_wp2_with fail
    go_loop [322] (fun i => i = .int .i64 0) (fun _ => 0)
    case atStart => rfl
    case round =>
      obtain rfl := hrel
      go_wp2_with fail
      refine (keys_none m2 _ Y4.out).mono ?_
      rintro e w4 ⟨rfl, hb4⟩
      go_wp2_with fail
      go_loop [341] (fun i => i = .int .i64 0) (fun _ => 0)
      case atStart => rfl
      case round =>
        obtain rfl := hrel
        have d0 := kp_of_below hb4 _ _ (kc3 0 (.string mid) (by simp [go_sem]))
        have d1 := kp_of_below hb4 _ _ (kc3 1 (.int .i64 1) (by simp [go_sem]))
        have d2 := kp_of_below hb4 _ _ (kc3 2 (.string s) (by simp [go_sem]))
        have d3 := kp_of_below hb4 _ _ (kc3 3 (.string t) (by simp [go_sem]))
        have d4 := kp_of_below hb4 _ _ (kc3 4 (.slice (some ⟨w2.heap.size + 1, 0, none⟩) 1 1) (by simp [go_sem]))
        have d5 := kp_of_below hb4 _ _ (kc3 5 (.pointer none) (by simp [go_sem]))
        have d6 := kp_of_below hb4 _ _ (kc3 6 (.pointer none) (by simp [go_sem]))
        have d7 := kp_of_below hb4 _ _ (kc3 7 (.slice none 0 0) (by simp [go_sem]))
        go_wp2_with fail
        have Y5 := Lib.hid (Y3.out.below hb4)
        have Y6 := Lib.hid (Y4.out.below hb4)
        have ds : w4.cell? ⟨w2.heap.size + 1, 0, none⟩ = some (.int .u32 n) := kp_of_below hb4 _ _ (kp_of_below hb3 _ _ (by simp [go_sem]))
        have hz1 := hb1.size
        have hz2 := hb2.size
        have hz4 := hb4.size
        simp only [World.size_alloc] at hz1 z3
        have bel4 : Below B wr w4 := (((((((Below.refl B wr).alloc hB _).trans (hb1.mono (by simp; omega))).trans (hb2.mono (by omega))).alloc (by omega) _).alloc (by simp; omega) _).trans (hb3.mono (by simp; omega))).trans (hb4.mono (by omega))
        obtain ⟨q1, q2, q3, q4, q5, q6⟩ := new_close (B := B) (mid := mid) (s := s) (t := t) w4 (w2.heap.size + 1) _ (by omega) (by omega) Y5.out Y6.out ds
        exact HK.out _ _ _ _ ⟨rfl, rfl, rfl, rfl, rfl, rfl, rfl, rfl, rfl, rfl, rfl, rfl, rfl, rfl, rfl, rfl, rfl⟩ (bel4.trans q1) q2 q3 q4 q5 q6
end Go.Proofs.YtkaelnfhohggeaaGreatDoor
