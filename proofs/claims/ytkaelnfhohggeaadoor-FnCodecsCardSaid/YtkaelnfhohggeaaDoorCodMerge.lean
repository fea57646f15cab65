/- mergeCodecs, in the three ways of FnCodecs. -/
import Derived.Test.YtkaelnfhohggeaaDoorCodMap
import Derived.Test.YtkaelnfhohggeaaDoorCodParse
namespace Go.Proofs.YtkaelnfhohggeaaDoor
open Go.RowKit Go.Maps

theorem grown_two {w w' : World} {X Y : Obj} {m : Nat} (h : ((w.alloc X).alloc Y).grownBy w' (some m)) : w.grownBy w' (some m) :=
  (((World.grownBy_alloc w X (some m)).andThen (World.grownBy_alloc (w.alloc X) Y (some m)) (fun _ hj => .inr hj)).andThen h (fun _ hj => .inr hj))

set_option maxHeartbeats 2000000 in
set_option maxRecDepth 100000 in
/-- A codec that is not there yet. -/
theorem merge_new (pay : Nat) (name : ByteArray) (rate : Nat) (enc : ByteArray) (m n : Nat) (f : Nat → Option Value) (w : World) (hpay : pay ≤ 255) (hn : n < maxLen) (hm : CodMap w m n f) (hf : f pay = none) :
    Calls Tryd.prog 34 #[codV pay name rate enc ⟨#[]⟩ (.slice none 0 0), .map (some m)] w fun e w' => e = .returned (.tuple #[]) ∧ CodMap w' m (n + 1) (updF f pay (codV pay name rate enc ⟨#[]⟩ (.slice none 0 0))) ∧ w.grownBy w' (some m) := by
  have HM := Lib.hid hm
  have hz : (f pay).getD zeroCod = .agg #[.int .u8 0, .string ⟨#[]⟩, .int .u32 0, .string ⟨#[]⟩, .string ⟨#[]⟩, .slice none 0 0] := by rw [hf]; rfl
  have HZ := Lib.hid hz
  clear hm hz hf
  unfold codV
  go_enter Tryd.func34, Tryd.ntmps34
  go_wp2_with (first
    | (refine wpList_look_cod _ rfl _ _ rfl m n f rfl (HM.out.alloc _) pay hpay rfl _ HZ.out ?_)
    | (refine wpList_put_cod _ rfl _ _ _ rfl m n f rfl ((HM.out.alloc _).alloc _) hn pay hpay rfl _ rfl ?_; intro w1 h1 h2; have H1 := Lib.hid h1; have H2 := Lib.hid h2; clear h1 h2))
  refine bodyPost_end (results_none rfl _ _ _) rfl ?_
  exact ⟨rfl, H1.out, grown_two H2.out⟩

theorem bytes_nil {b : ByteArray} (h : (b.toList == []) = true) : b = ⟨#[]⟩ := by
  rw [Lib.toList_data] at h
  have h : b.data.toList = [] := by simpa using h
  apply ByteArray.ext
  exact Array.toList_inj.1 h
theorem word_ne {b : ByteArray} (h : wordB b = true) : (b.toList == []) = false := by
  rw [Lib.toList_data, beq_eq_false_iff_ne]
  intro e
  have := (word_size h).1
  rw [Lib.size_eq, e] at this
  exact absurd this (by decide)

set_option maxHeartbeats 2000000 in
set_option maxRecDepth 100000 in
/-- The line of a codec that is there. -/
theorem merge_line (pay : Nat) (name : ByteArray) (rate : Nat) (enc line : ByteArray) (m n : Nat) (f : Nat → Option Value) (w : World) (hp0 : 0 < pay) (hpay : pay ≤ 255) (hname : wordB name = true) (hrate : 0 < rate) (hn : n < maxLen) (hm : CodMap w m n f) (hf : f pay = some (codV pay name rate enc ⟨#[]⟩ (.slice none 0 0))) :
    Calls Tryd.prog 34 #[codV pay ⟨#[]⟩ 0 ⟨#[]⟩ line (.slice none 0 0), .map (some m)] w fun e w' => e = .returned (.tuple #[]) ∧ CodMap w' m (n + 1) (updF f pay (codV pay name rate enc line (.slice none 0 0))) ∧ w.grownBy w' (some m) := by
  have HM := Lib.hid hm
  have hz : (f pay).getD zeroCod = .agg #[.int .u8 pay, .string name, .int .u32 rate, .string enc, .string ⟨#[]⟩, .slice none 0 0] := by rw [hf]; rfl
  have HZ := Lib.hid hz
  have q1 : decide ((pay : Int) = 0) = false := by simp; omega
  have q2 : ((pay : Int) == 0) = false := by simp; omega
  have q3 : ((rate : Int) == 0) = false := by simp; omega
  have q4 : decide ((rate : Int) = 0) = false := by simp; omega
  have q5 := word_ne hname
  have q6 : ¬ pay = 0 := by omega
  have q7 : ¬ rate = 0 := by omega
  clear hm hz hf
  cases q8 : (enc.toList == []) with
  | true =>
    obtain rfl := bytes_nil q8
    clear q8
    unfold codV
    go_enter Tryd.func34, Tryd.ntmps34
    go_wp2_with (first
      | (refine wpList_look_cod _ rfl _ _ rfl m n f rfl (HM.out.alloc _) pay hpay rfl _ HZ.out ?_)
      | (refine wpList_put_cod _ rfl _ _ _ rfl m n f rfl ((HM.out.alloc _).alloc _) hn pay hpay rfl _ rfl ?_; intro w1 h1 h2; have H1 := Lib.hid h1; have H2 := Lib.hid h2; clear h1 h2))
    refine bodyPost_end (results_none rfl _ _ _) rfl ?_
    exact ⟨rfl, H1.out, grown_two H2.out⟩
  | false =>
    unfold codV
    go_enter Tryd.func34, Tryd.ntmps34
    go_wp2_with (first
      | (refine wpList_look_cod _ rfl _ _ rfl m n f rfl (HM.out.alloc _) pay hpay rfl _ HZ.out ?_)
      | (refine wpList_put_cod _ rfl _ _ _ rfl m n f rfl ((HM.out.alloc _).alloc _) hn pay hpay rfl _ rfl ?_; intro w1 h1 h2; have H1 := Lib.hid h1; have H2 := Lib.hid h2; clear h1 h2))
    refine bodyPost_end (results_none rfl _ _ _) rfl ?_
    exact ⟨rfl, H1.out, grown_two H2.out⟩

theorem news_one {w : World} {b o : Nat} {x : ByteArray} (h : w.cell? ⟨b, o, none⟩ = some (.string x)) (X Y : Obj) : ∀ j u, [Value.string x][j]? = some u → ((w.alloc X).alloc Y).cell? ((⟨b, o, none⟩ : Addr).add j) = some u := fun j u hj => by
  match j, hj with
  | 0, hj =>
    cases hj
    rw [Addr.add_lit]
    exact cell_al (cell_al h _) _
/-- Behind the append: the call's own codec, the row, what was written. -/
theorem merge_row {w w1 : World} {B nn : Nat} {T e : TypeId} {xs : List Value} {X : Obj} {cs : Array Value} {fv v1 : Value}
    (hown : w1.ownsRow B e 1 v1 nn xs) (hg : ((w.alloc X).alloc (.cells cs T)).grownBy w1 fv.ownBlock) (hat : v1.ownBlock = fv.ownBlock ∨ v1.ownBlock = some ((w.alloc X).alloc (.cells cs T)).heap.size)
    (hne : some (w.heap.size + 1) ≠ fv.ownBlock) (_hlt : ∀ j, fv.ownBlock = some j → B ≤ j ∧ j < w.heap.size) :
    Blk w1 (w.heap.size + 1) cs.toList ∧ w1.ownsRow B e 1 v1 nn xs ∧ w.grownBy w1 fv.ownBlock ∧ (v1.ownBlock = fv.ownBlock ∨ ∃ b, v1.ownBlock = some b ∧ w.heap.size + 2 ≤ b) := by
  have hb : Blk ((w.alloc X).alloc (.cells cs T)) (w.heap.size + 1) cs.toList := by
    have := Blk.new (w.alloc X) cs.toList T
    rw [World.size_alloc] at this
    exact this
  refine ⟨hb.grown hg hne, hown, ((World.grownBy_alloc w X fv.ownBlock).andThen (World.grownBy_alloc (w.alloc X) (.cells cs T) fv.ownBlock) (fun j hj => .inr hj)).andThen hg (fun j hj => .inr hj), ?_⟩
  rcases hat with h | h
  · exact .inl h
  · exact .inr ⟨_, h, by simp⟩
theorem grown_setC {w : World} {b o : Nat} (v : Value) : w.grownBy (w.setCell ⟨b, o, none⟩ v) (some b) := by
  refine ⟨rfl, rfl, rfl, by simp [World.setCell], fun i hi hne => ?_⟩
  have : b ≠ i := fun e => hne (by rw [e])
  unfold World.setCell
  simp [Array.getElem?_modify, this]
theorem merge_set {w w1 w2 : World} {B nn j : Nat} {e : TypeId} {xs cs : List Value} {fv v1 u : Value} (e2 : w2 = w1.setCell ⟨w.heap.size + 1, j, none⟩ u)
    (h : Blk w1 (w.heap.size + 1) cs ∧ w1.ownsRow B e 1 v1 nn xs ∧ w.grownBy w1 fv.ownBlock ∧ (v1.ownBlock = fv.ownBlock ∨ ∃ b, v1.ownBlock = some b ∧ w.heap.size + 2 ≤ b)) (hne : some (w.heap.size + 1) ≠ fv.ownBlock) :
    Blk w2 (w.heap.size + 1) (cs.set j u) ∧ w2.ownsRow B e 1 v1 nn xs ∧ w.grownBy w2 fv.ownBlock ∧ (v1.ownBlock = fv.ownBlock ∨ ∃ b, v1.ownBlock = some b ∧ w.heap.size ≤ b) := by
  subst e2
  obtain ⟨h1, h2, h3, h4⟩ := h
  refine ⟨h1.set j u, h2.kept (grown_setC u) (.inr fun q => ?_), h3.andThen (grown_setC u) (fun i hi => .inl (by injection hi with hi; omega)), h4.imp id (fun ⟨b, hb, hl⟩ => ⟨b, hb, by omega⟩)⟩
  rcases h4 with h | ⟨b, hb, hl⟩
  · exact hne (q.symm.trans h)
  · rw [hb] at q; injection q with q; omega

set_option maxHeartbeats 2000000 in
set_option maxRecDepth 100000 in
/-- A piece of feedback of a codec that is there. -/
theorem merge_fb (pay : Nat) (name : ByteArray) (rate : Nat) (enc line x : ByteArray) (fbv : Value) (fbs : List ByteArray) (B xb xo xk : Nat) (m n : Nat) (f : Nat → Option Value) (w : World) (hp0 : 0 < pay) (hpay : pay ≤ 255) (hname : wordB name = true) (hrate : 0 < rate) (hn : n < maxLen) (hm : CodMap w m n f) (hf : f pay = some (codV pay name rate enc line fbv))
    (hown : w.ownsRow B 9 1 fbv fbs.length (fbs.map Value.string)) (hB : B ≤ w.heap.size) (hfl : fbs.length ≤ 100) (hmB : m < B) (hx : w.cell? ⟨xb, xo, none⟩ = some (.string x)) :
    Calls Tryd.prog 34 #[codV pay ⟨#[]⟩ 0 ⟨#[]⟩ ⟨#[]⟩ (.slice (some ⟨xb, xo, none⟩) 1 xk), .map (some m)] w fun e w' => e = .returned (.tuple #[]) ∧ ∃ w1 v', CodMap w' m (n + 1) (updF f pay (codV pay name rate enc line v')) ∧ w'.ownsRow B 9 1 v' (fbs ++ [x]).length ((fbs ++ [x]).map Value.string) ∧
      w.grownBy w1 fbv.ownBlock ∧ w1.grownBy w' (some m) ∧ (v'.ownBlock = fbv.ownBlock ∨ ∃ b, v'.ownBlock = some b ∧ w.heap.size ≤ b) := by
  obtain ⟨i0, hi, hz0, hz1, hz2⟩ := info_parts Tryd.infoStr
  have HM := Lib.hid hm
  obtain ⟨fA, fc, rfl⟩ := own_shape hown
  have hz : (f pay).getD zeroCod = .agg #[.int .u8 pay, .string name, .int .u32 rate, .string enc, .string line, .slice fA fbs.length fc] := by rw [hf]; rfl
  have HZ := Lib.hid hz
  have HO := Lib.hid hown
  have HX := Lib.hid hx
  have q1 : decide ((pay : Int) = 0) = false := by simp; omega
  have q2 : ((pay : Int) == 0) = false := by simp; omega
  have q3 : ((rate : Int) == 0) = false := by simp; omega
  have q4 : decide ((rate : Int) = 0) = false := by simp; omega
  have q5 := word_ne hname
  have q6 : ¬ pay = 0 := by omega
  have q7 : ¬ rate = 0 := by omega
  clear hm hz hf hown hx
  have olt : ∀ j, (Value.slice fA fbs.length fc).ownBlock = some j → B ≤ j ∧ j < w.heap.size := fun j hj => HO.out.lt j hj
  have OLT := Lib.hid olt
  have ne1 : some (w.heap.size + 1) ≠ (Value.slice fA fbs.length fc).ownBlock := fun e => by have := (olt _ e.symm).2; omega
  have nem : some m ≠ (Value.slice fA fbs.length fc).ownBlock := fun e => by have := (olt _ e.symm).1; omega
  have NE1 := Lib.hid ne1
  have NEM := Lib.hid nem
  clear olt ne1 nem
  unfold codV
  cases q8 : (enc.toList == []) <;> cases q9 : (line.toList == [])
  all_goals
    first
      | (obtain rfl := bytes_nil q8; clear q8)
      | skip
    first
      | (obtain rfl := bytes_nil q9; clear q9)
      | skip
    go_enter Tryd.func34, Tryd.ntmps34
    go_wp2_with (first
      | (refine wpList_look_cod _ rfl _ _ rfl m n f rfl (HM.out.alloc _) pay hpay rfl _ HZ.out ?_)
      | (at_builtin; refine wpList_append_own_at _ rfl _ _ 25 rfl B 9 i0 _ 1 16 Tryd.underlying25 hi hz0 hz1 hz2 rfl (by decide) (.slice fA fbs.length fc) fbs.length (fbs.map Value.string) rfl ((HO.out.alloc _).alloc _) ⟨xb, xo, none⟩ 1 xk [.string x] rfl rfl (news_one HX.out _ _) (fun u hu => by simp at hu; subst hu; rfl) (by unfold maxLen; omega) (by omega) (by simp; omega) ?_; intro v1 w1 hown1 hg1 _ hat1; obtain ⟨A1, c1, rfl⟩ := own_shape hown1; have F1 := Lib.hid (merge_row hown1 hg1 hat1 NE1.out OLT.out); have M1 := Lib.hid (((HM.out.alloc _).alloc _).grown hg1 NEM.out); clear hown1 hg1 hat1)
      | (refine wpList_store_cell rfl _ _ _ rfl (w.heap.size + 1) 5 (.slice A1 (fbs.length + 1) c1) _ rfl rfl (by kernel_rfl) rfl (F1.out.1.cell rfl) (F1.out.1.frozen 5) ?_; intro w2 e2; have F2 := Lib.hid (merge_set e2 F1.out NE1.out); have M2 : Hid (CodMap w2 m n f) := Lib.hid (by rw [e2]; exact M1.out.set _ (by show m ≠ w.heap.size + 1; omega)); clear e2; have g0 := F2.out.1.cell (j := 0) rfl; have g1 := F2.out.1.cell (j := 1) rfl; have g2 := F2.out.1.cell (j := 2) rfl; have g3 := F2.out.1.cell (j := 3) rfl; have g4 := F2.out.1.cell (j := 4) rfl; have g5 := F2.out.1.cell (j := 5) rfl)
      | (refine wpList_put_cod _ rfl _ _ _ rfl m n f rfl M2.out hn pay hpay rfl _ rfl ?_; intro w3 h1 h2; have H1 := Lib.hid h1; have H2 := Lib.hid h2; clear h1 h2))
    refine bodyPost_end (results_none rfl _ _ _) rfl ?_
    have hne : some m ≠ (Value.slice A1 (fbs.length + 1) c1).ownBlock := fun e => by
      rcases F2.out.2.2.2 with h | ⟨b, h, hb⟩
      · exact NEM.out (e.trans h)
      · rw [h] at e; injection e with e; omega
    have hrow := F2.out.2.1.kept H2.out (.inr fun e => hne e.symm)
    refine ⟨rfl, w2, _, H1.out, ?_, F2.out.2.2.1, H2.out, F2.out.2.2.2⟩
    exact hrow
end Go.Proofs.YtkaelnfhohggeaaDoor
