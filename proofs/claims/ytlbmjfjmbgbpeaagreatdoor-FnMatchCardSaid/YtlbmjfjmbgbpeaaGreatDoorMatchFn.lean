/- The thin package's answer whether two lines go together. -/
import Derived.Test.YtlbmjfjmbgbpeaaGreatDoorGenMatch
import Derived.Deep.RegionHeld3
namespace Go.Proofs.YtlbmjfjmbgbpeaaGreatDoor
open Go.RowKit Go.Maps

/-- The struct in block b. -/
structure FmtpAt (w : World) (b : Nat) (mime line : ByteArray) (r c : Int) : Prop where
  c0 : w.cell? ⟨b, 0, none⟩ = some (.string mime)
  c1 : w.cell? ⟨b, 1, none⟩ = some (.int .i64 r)
  c2 : w.cell? ⟨b, 2, none⟩ = some (.int .i64 c)
  c3 : w.cell? ⟨b, 3, none⟩ = some (.string line)

set_option maxHeartbeats 4000000 in
set_option maxRecDepth 100000 in
theorem match1_any {H : Type} (fb gb : Nat) (m1 m2 s1 s2 : ByteArray) (r1 r2 c1 c2 : Int) (n1 n2 : Nat) (D1 D2 : DataW H) (w : World)
    (hr1 : 1 ≤ r1) (hr1' : r1 ≤ 200000) (hr2 : 1 ≤ r2) (hr2' : r2 ≤ 200000) (hc1 : 1 ≤ c1) (hc1' : c1 ≤ 100) (hc2 : 1 ≤ c2) (hc2' : c2 ≤ 100)
    (o1 : otherKind m1 = true) (o2 : otherKind m2 = true) (k1 : PlainT m1) (k2 : PlainT m2) (q1 : ParsesTo s1 n1 D1) (q2 : ParsesTo s2 n2 D2) (p1 : PlainM D1) (p2 : PlainM D2) (hsp : Spaces w)
    (f1 : FmtpAt w fb m1 s1 r1 c1) (f2 : FmtpAt w gb m2 s2 r2 c2) :
    Calls Tryz.prog 20 #[.pointer (some ⟨fb, 0, none⟩), .pointer (some ⟨gb, 0, none⟩)] w fun e w' => e = .returned (.bool (togetherB m1 m2 r1 r2 c1 c2 D1 D2)) ∧ Below w.heap.size w w' := by
  have H1 := Lib.hid (fun w h => parsed_any m1 s1 r1 c1 n1 D1 w hr1 hr1' hc1 hc1' o1 q1 h)
  have H2 := Lib.hid (fun w h => parsed_any m2 s2 r2 c2 n2 D2 w hr2 hr2' hc2 hc2' o2 q2 h)
  have HM := Lib.hid (fun (B1 B2 g1 g2 : Nat) w h1 h2 => genMatch_any (B1 := B1) (B2 := B2) g1 g2 m1 m2 r1 r2 c1 c2 n1 n2 D1 D2 w k1 k2 hr1 hr2 hc1 hc2 h1 h2 p1 p2)
  have hnil : ∀ (a : Addr) (w : World), (nilAhead 409 123 (.pointer (some a)) "Match").run Tryz.prog w = .ok (some false) w := fun _ _ => by kernel_rfl
  have hmet : ∀ (a : Addr) (w : World), (method 409 123 (.pointer (some a)) "Match").run Tryz.prog w = .ok (180, .pointer (some a)) w := fun _ _ => by kernel_rfl
  obtain ⟨a0, a1, a2, a3⟩ := f1
  obtain ⟨b0, b1, b2, b3⟩ := f2
  clear o1 o2 k1 k2 q1 q2 p1 p2
  go_enter Tryz.func20, Tryz.ntmps20
  go_wp2_with fail
  go_region_held3 (fun w' => w'.cell? ⟨fb, 0, none⟩ = some (.string m1) ∧ w'.cell? ⟨fb, 1, none⟩ = some (.int .i64 r1) ∧ w'.cell? ⟨fb, 2, none⟩ = some (.int .i64 c1) ∧ w'.cell? ⟨fb, 3, none⟩ = some (.string s1) ∧ w'.cell? ⟨gb, 0, none⟩ = some (.string m2) ∧ w'.cell? ⟨gb, 1, none⟩ = some (.int .i64 r2) ∧ w'.cell? ⟨gb, 2, none⟩ = some (.int .i64 c2) ∧ w'.cell? ⟨gb, 3, none⟩ = some (.string s2) ∧ Spaces w')
    (first
      | (go_split_ands; exact ⟨a0, a1, a2, a3, b0, b1, b2, b3, hsp⟩)
      | (go_split_ands; refine ⟨?_, ?_, ?_, ?_, ?_, ?_, ?_, ?_, ?_⟩ <;> first | exact kp_of_below hba _ _ (by assumption) | exact Spaces.below (by assumption) hba)
      | (go_split_ands; refine ⟨?_, ?_, ?_, ?_, ?_, ?_, ?_, ?_, ?_⟩ <;> first | exact kp_of_below hbb _ _ (by assumption) | exact Spaces.below (by assumption) hbb)
      | go_keep)
    (first
      | (go_at_call_of 21 m1; refine (H1.out _ ?_).mono ?_; (go_split_ands; assumption); rintro e wa ⟨ga, rfl, hga, hba⟩)
      | (go_at_call_of 21 m2; refine (H2.out _ ?_).mono ?_; (go_split_ands; assumption); rintro e wb ⟨gc, rfl, hgb, hbb⟩))
  have hga' := hga.below hbb
  have sa := hba.size
  have sb := hbb.size
  go_wp2_with (go_at_call 180; refine (HM.out _ _ ga gc _ hga' hgb).mono ?_; rintro e wc ⟨rfl, hbc⟩)
  go_ret
  exact ⟨rfl, below_step (below_step (((Below.refl w.heap.size w).drew).trans (hba.mono (Nat.le_refl _))) sa hbb) (Nat.le_trans sa sb) hbc⟩

theorem Tryz.enterMatch1 (cap : Array Value) (w : World) : Sem.run Tryz.prog (callFunc 20 cap) w = .ok (.enter 20 cap) w := by kernel_rfl

/-- What Match's function leaves. -/
def MatchDone (W : World) (r0 : Bool) (r : Bool) (w' : World) : Prop := r = r0 ∧ Below W.heap.size W w'

set_option maxHeartbeats 1000000 in
set_option maxRecDepth 100000 in
theorem matchFn_any {H : Type} (m1 m2 s1 s2 : ByteArray) (r1 r2 c1 c2 : Int) (n1 n2 : Nat) (D1 D2 : DataW H) (w : World)
    (hr1 : 1 ≤ r1) (hr1' : r1 ≤ 200000) (hr2 : 1 ≤ r2) (hr2' : r2 ≤ 200000) (hc1 : 1 ≤ c1) (hc1' : c1 ≤ 100) (hc2 : 1 ≤ c2) (hc2' : c2 ≤ 100)
    (o1 : otherKind m1 = true) (o2 : otherKind m2 = true) (k1 : PlainT m1) (k2 : PlainT m2) (q1 : ParsesTo s1 n1 D1) (q2 : ParsesTo s2 n2 D2) (p1 : PlainM D1) (p2 : PlainM D2) (hsp : Spaces w) :
    Calls Tryz.prog 10 #[.agg #[.string m1, .int .i64 r1, .int .i64 c1, .string s1], .agg #[.string m2, .int .i64 r2, .int .i64 c2, .string s2]] w fun e w' => e = .returned (.bool (togetherB m1 m2 r1 r2 c1 c2 D1 D2)) ∧ Below w.heap.size w w' := by
  have hmf : ∀ (fn : Fn) (first cap : Array Value) (w : World), (Instr.makeFunc fn first cap).run Tryz.prog w = .ok (.func fn first cap) w := fun _ _ _ _ => rfl
  have b3 : Below w.heap.size w (((w.alloc (.cells #[.string m1, .int .i64 r1, .int .i64 c1, .string s1] 30)).alloc (.cells #[.string m2, .int .i64 r2, .int .i64 c2, .string s2] 30)).alloc (.cells #[.bool false] 4)) := (((Below.refl _ _).alloc (Nat.le_refl _) _).alloc (by simp) _).alloc (by simp; omega) _
  have hg0 := match1_any w.heap.size (w.heap.size + 1) m1 m2 s1 s2 r1 r2 c1 c2 n1 n2 D1 D2 (((w.alloc (.cells #[.string m1, .int .i64 r1, .int .i64 c1, .string s1] 30)).alloc (.cells #[.string m2, .int .i64 r2, .int .i64 c2, .string s2] 30)).alloc (.cells #[.bool false] 4)) hr1 hr1' hr2 hr2' hc1 hc1' hc2 hc2' o1 o2 k1 k2 q1 q2 p1 p2 (hsp.below b3)
    ⟨by simp [go_sem], by simp [go_sem], by simp [go_sem], by simp [go_sem]⟩ ⟨by simp [go_sem], by simp [go_sem], by simp [go_sem], by simp [go_sem]⟩
  generalize togetherB m1 m2 r1 r2 c1 c2 D1 D2 = res at hg0 ⊢
  have hg : Calls Tryz.prog 20 #[.pointer (some ⟨w.heap.size, 0, none⟩), .pointer (some ⟨w.heap.size + 1, 0, none⟩)] (((w.alloc (.cells #[.string m1, .int .i64 r1, .int .i64 c1, .string s1] 30)).alloc (.cells #[.string m2, .int .i64 r2, .int .i64 c2, .string s2] 30)).alloc (.cells #[.bool false] 4)) fun e w' => ∃ b, e = .returned (.bool b) ∧
      MatchDone (((w.alloc (.cells #[.string m1, .int .i64 r1, .int .i64 c1, .string s1] 30)).alloc (.cells #[.string m2, .int .i64 r2, .int .i64 c2, .string s2] 30)).alloc (.cells #[.bool false] 4)) res b w' ∧ w'.cell? ⟨((w.alloc (.cells #[.string m1, .int .i64 r1, .int .i64 c1, .string s1] 30)).alloc (.cells #[.string m2, .int .i64 r2, .int .i64 c2, .string s2] 30)).heap.size, 0, none⟩ = some (.bool false) ∧ w'.frozen? ⟨((w.alloc (.cells #[.string m1, .int .i64 r1, .int .i64 c1, .string s1] 30)).alloc (.cells #[.string m2, .int .i64 r2, .int .i64 c2, .string s2] 30)).heap.size, 0, none⟩ = false := by
    refine hg0.mono ?_
    rintro e w' ⟨rfl, hb⟩
    refine ⟨res, rfl, ⟨rfl, hb⟩, ?_, ?_⟩
    · rw [hb.cell (by simp)]
      simp [go_sem]
    · rw [hb.frozen (by simp)]
      simp [go_sem]
  have HG := Lib.hid hg
  clear hg hg0 hsp b3 o1 o2 k1 k2 q1 q2 p1 p2
  go_enter Tryz.func10, Tryz.ntmps10
  go_wp2_with (go_at_call 19; refine (try_any _ _ _ _ (Tryz.enterMatch1 _) HG).mono ?_; rintro e w' ⟨b, w1, rfl, ⟨rfl, hb⟩, rfl⟩)
  go_ret
  exact ⟨rfl, (((((Below.refl w.heap.size w).alloc (Nat.le_refl _) _).alloc (by simp) _).alloc (by simp; omega) _).trans (hb.mono (by simp; omega))).setCell (by simp; omega) _⟩
end Go.Proofs.YtlbmjfjmbgbpeaaGreatDoor
