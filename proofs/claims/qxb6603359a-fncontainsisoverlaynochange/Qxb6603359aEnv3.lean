/-
  contains, ZZcontains, zzSameEnv, walked.
-/
import Derived.Test.Qxb6603359aEnv2
namespace Go.Proofs.Qxb6603359a
open Go.RowKit
variable {P Q : Nat → Prop}

/-- Two boxed environments, at blocks N and N + 1. -/
structure Two (w : World) (N : Nat) (q0 q1 q2 q3 q4 q5 q6 p0 p1 p2 p3 p4 p5 p6 : Option Addr) : Prop where
  c0 : w.cell? ⟨N, 0, none⟩ = some (.pointer q0)
  c1 : w.cell? ⟨N, 1, none⟩ = some (.pointer q1)
  c2 : w.cell? ⟨N, 2, none⟩ = some (.pointer q2)
  c3 : w.cell? ⟨N, 3, none⟩ = some (.pointer q3)
  c4 : w.cell? ⟨N, 4, none⟩ = some (.pointer q4)
  c5 : w.cell? ⟨N, 5, none⟩ = some (.pointer q5)
  c6 : w.cell? ⟨N, 6, none⟩ = some (.pointer q6)
  d0 : w.cell? ⟨N + 1, 0, none⟩ = some (.pointer p0)
  d1 : w.cell? ⟨N + 1, 1, none⟩ = some (.pointer p1)
  d2 : w.cell? ⟨N + 1, 2, none⟩ = some (.pointer p2)
  d3 : w.cell? ⟨N + 1, 3, none⟩ = some (.pointer p3)
  d4 : w.cell? ⟨N + 1, 4, none⟩ = some (.pointer p4)
  d5 : w.cell? ⟨N + 1, 5, none⟩ = some (.pointer p5)
  d6 : w.cell? ⟨N + 1, 6, none⟩ = some (.pointer p6)
  lt : N + 1 < w.heap.size

theorem Two.below {w w1 : World} {N : Nat} {q0 q1 q2 q3 q4 q5 q6 p0 p1 p2 p3 p4 p5 p6 : Option Addr} (h : Two w N q0 q1 q2 q3 q4 q5 q6 p0 p1 p2 p3 p4 p5 p6) (hb : Below w.heap.size w w1) : Two w1 N q0 q1 q2 q3 q4 q5 q6 p0 p1 p2 p3 p4 p5 p6 :=
  ⟨keep hb h.c0, keep hb h.c1, keep hb h.c2, keep hb h.c3, keep hb h.c4, keep hb h.c5, keep hb h.c6, keep hb h.d0, keep hb h.d1, keep hb h.d2, keep hb h.d3, keep hb h.d4, keep hb h.d5, keep hb h.d6, Nat.lt_of_lt_of_le h.lt hb.size⟩

theorem two_of (w : World) (T : TypeId) (q0 q1 q2 q3 q4 q5 q6 p0 p1 p2 p3 p4 p5 p6 : Option Addr) : Two ((w.alloc (.cells #[.pointer q0, .pointer q1, .pointer q2, .pointer q3, .pointer q4, .pointer q5, .pointer q6] T)).alloc (.cells #[.pointer p0, .pointer p1, .pointer p2, .pointer p3, .pointer p4, .pointer p5, .pointer p6] T)) w.heap.size q0 q1 q2 q3 q4 q5 q6 p0 p1 p2 p3 p4 p5 p6 := by
  constructor <;> simp [go_sem]
theorem two_below (w : World) (T : TypeId) (q0 q1 q2 q3 q4 q5 q6 p0 p1 p2 p3 p4 p5 p6 : Option Addr) : Below w.heap.size w ((w.alloc (.cells #[.pointer q0, .pointer q1, .pointer q2, .pointer q3, .pointer q4, .pointer q5, .pointer q6] T)).alloc (.cells #[.pointer p0, .pointer p1, .pointer p2, .pointer p3, .pointer p4, .pointer p5, .pointer p6] T)) := ((Below.refl _ _).alloc (Nat.le_refl _) _).alloc (by simp) _

def containsB (G W : Env) : Bool := holdT W.cls G.cls && holdS W.ven G.ven && holdS W.mdl G.mdl && holdN W.lay G.lay && holdN W.idx G.idx && holdT W.ins G.ins && holdT W.grp G.grp
def sameE (A B : Env) : Bool := sameT A.cls B.cls && sameS A.ven B.ven && sameS A.mdl B.mdl && sameN A.lay B.lay && sameN A.idx B.idx && sameT A.ins B.ins && sameT A.grp B.grp

set_option maxHeartbeats 4000000 in
theorem contains_any (q0 q1 q2 q3 q4 q5 q6 p0 p1 p2 p3 p4 p5 p6 : Option Addr) (E G : Env) (w : World) (h : EnvAt P w q0 q1 q2 q3 q4 q5 q6 E) (h2 : EnvAt Q w p0 p1 p2 p3 p4 p5 p6 G) :
    Calls Try.prog 30 #[.agg #[.pointer q0, .pointer q1, .pointer q2, .pointer q3, .pointer q4, .pointer q5, .pointer q6], .agg #[.pointer p0, .pointer p1, .pointer p2, .pointer p3, .pointer p4, .pointer p5, .pointer p6]] w fun e w' => e = .returned (.bool (containsB E G)) ∧ Below w.heap.size w w' := by
  have HB0 : Hid (Below w.heap.size w ((w.alloc (.cells #[.pointer q0, .pointer q1, .pointer q2, .pointer q3, .pointer q4, .pointer q5, .pointer q6] 34)).alloc (.cells #[.pointer p0, .pointer p1, .pointer p2, .pointer p3, .pointer p4, .pointer p5, .pointer p6] 34))) := two_below w 34 q0 q1 q2 q3 q4 q5 q6 p0 p1 p2 p3 p4 p5 p6
  have HE : Hid (EnvAt P ((w.alloc (.cells #[.pointer q0, .pointer q1, .pointer q2, .pointer q3, .pointer q4, .pointer q5, .pointer q6] 34)).alloc (.cells #[.pointer p0, .pointer p1, .pointer p2, .pointer p3, .pointer p4, .pointer p5, .pointer p6] 34)) q0 q1 q2 q3 q4 q5 q6 E ∧ EnvAt Q ((w.alloc (.cells #[.pointer q0, .pointer q1, .pointer q2, .pointer q3, .pointer q4, .pointer q5, .pointer q6] 34)).alloc (.cells #[.pointer p0, .pointer p1, .pointer p2, .pointer p3, .pointer p4, .pointer p5, .pointer p6] 34)) p0 p1 p2 p3 p4 p5 p6 G) := ⟨h.below HB0.out, h2.below HB0.out⟩
  have bx := two_of w 34 q0 q1 q2 q3 q4 q5 q6 p0 p1 p2 p3 p4 p5 p6
  clear h h2
  unfold containsB
  generalize hr0 : holdT G.cls E.cls = r0
  generalize hr1 : holdS G.ven E.ven = r1
  generalize hr2 : holdS G.mdl E.mdl = r2
  generalize hr3 : holdN G.lay E.lay = r3
  generalize hr4 : holdN G.idx E.idx = r4
  generalize hr5 : holdT G.ins E.ins = r5
  generalize hr6 : holdT G.grp E.grp = r6
  have R0 : Hid (holdT G.cls E.cls = r0) := hr0
  have R1 : Hid (holdS G.ven E.ven = r1) := hr1
  have R2 : Hid (holdS G.mdl E.mdl = r2) := hr2
  have R3 : Hid (holdN G.lay E.lay = r3) := hr3
  have R4 : Hid (holdN G.idx E.idx = r4) := hr4
  have R5 : Hid (holdT G.ins E.ins = r5) := hr5
  have R6 : Hid (holdT G.grp E.grp = r6) := hr6
  clear hr0 hr1 hr2 hr3 hr4 hr5 hr6
  go_enter Try.func30, Try.ntmps30
  go_wp2_with fail
  generalize (w.alloc (.cells #[.pointer q0, .pointer q1, .pointer q2, .pointer q3, .pointer q4, .pointer q5, .pointer q6] 34)).alloc (.cells #[.pointer p0, .pointer p1, .pointer p2, .pointer p3, .pointer p4, .pointer p5, .pointer p6] 34) = W at *
  have BX0 : Hid (Two W w.heap.size q0 q1 q2 q3 q4 q5 q6 p0 p1 p2 p3 p4 p5 p6) := bx
  have B0 : Hid (Below W.heap.size W W) := Below.refl _ _
  clear bx
  refine (holdsTag_any (.pointer p0) (.pointer q0) G.cls E.cls _ (HE.out.2.cls.below B0.out) (HE.out.1.cls.below B0.out)).mono ?_
  rintro e w1 ⟨rfl, hb⟩
  rw [R0.out]
  have B1 : Hid (Below W.heap.size W w1) := step B0.out hb
  obtain ⟨c0, c1, c2, c3, c4, c5, c6, d0, d1, d2, d3, d4, d5, d6, -⟩ := BX0.out.below B1.out
  clear hb
  cases r0
  · go_wp2
    go_ret
    exact ⟨ret_bool (by simp), step HB0.out B1.out⟩
  go_wp2_with fail
  clear c0 c1 c2 c3 c4 c5 c6 d0 d1 d2 d3 d4 d5 d6
  refine (holdsStr_any (.pointer p1) (.pointer q1) G.ven E.ven _ (HE.out.2.ven.below B1.out) (HE.out.1.ven.below B1.out)).mono ?_
  rintro e w2 ⟨rfl, hb⟩
  rw [R1.out]
  have B2 : Hid (Below W.heap.size W w2) := step B1.out hb
  obtain ⟨c0, c1, c2, c3, c4, c5, c6, d0, d1, d2, d3, d4, d5, d6, -⟩ := BX0.out.below B2.out
  clear hb
  cases r1
  · go_wp2
    go_ret
    exact ⟨ret_bool (by simp), step HB0.out B2.out⟩
  go_wp2_with fail
  clear c0 c1 c2 c3 c4 c5 c6 d0 d1 d2 d3 d4 d5 d6
  refine (holdsStr_any (.pointer p2) (.pointer q2) G.mdl E.mdl _ (HE.out.2.mdl.below B2.out) (HE.out.1.mdl.below B2.out)).mono ?_
  rintro e w3 ⟨rfl, hb⟩
  rw [R2.out]
  have B3 : Hid (Below W.heap.size W w3) := step B2.out hb
  obtain ⟨c0, c1, c2, c3, c4, c5, c6, d0, d1, d2, d3, d4, d5, d6, -⟩ := BX0.out.below B3.out
  clear hb
  cases r2
  · go_wp2
    go_ret
    exact ⟨ret_bool (by simp), step HB0.out B3.out⟩
  go_wp2_with fail
  clear c0 c1 c2 c3 c4 c5 c6 d0 d1 d2 d3 d4 d5 d6
  refine (holdsNum_any (.pointer p3) (.pointer q3) G.lay E.lay _ (HE.out.2.lay.below B3.out) (HE.out.1.lay.below B3.out)).mono ?_
  rintro e w4 ⟨rfl, hb⟩
  rw [R3.out]
  have B4 : Hid (Below W.heap.size W w4) := step B3.out hb
  obtain ⟨c0, c1, c2, c3, c4, c5, c6, d0, d1, d2, d3, d4, d5, d6, -⟩ := BX0.out.below B4.out
  clear hb
  cases r3
  · go_wp2
    go_ret
    exact ⟨ret_bool (by simp), step HB0.out B4.out⟩
  go_wp2_with fail
  clear c0 c1 c2 c3 c4 c5 c6 d0 d1 d2 d3 d4 d5 d6
  refine (holdsNum_any (.pointer p4) (.pointer q4) G.idx E.idx _ (HE.out.2.idx.below B4.out) (HE.out.1.idx.below B4.out)).mono ?_
  rintro e w5 ⟨rfl, hb⟩
  rw [R4.out]
  have B5 : Hid (Below W.heap.size W w5) := step B4.out hb
  obtain ⟨c0, c1, c2, c3, c4, c5, c6, d0, d1, d2, d3, d4, d5, d6, -⟩ := BX0.out.below B5.out
  clear hb
  cases r4
  · go_wp2
    go_ret
    exact ⟨ret_bool (by simp), step HB0.out B5.out⟩
  go_wp2_with fail
  clear c0 c1 c2 c3 c4 c5 c6 d0 d1 d2 d3 d4 d5 d6
  refine (holdsTag_any (.pointer p5) (.pointer q5) G.ins E.ins _ (HE.out.2.ins.below B5.out) (HE.out.1.ins.below B5.out)).mono ?_
  rintro e w6 ⟨rfl, hb⟩
  rw [R5.out]
  have B6 : Hid (Below W.heap.size W w6) := step B5.out hb
  obtain ⟨c0, c1, c2, c3, c4, c5, c6, d0, d1, d2, d3, d4, d5, d6, -⟩ := BX0.out.below B6.out
  clear hb
  cases r5
  · go_wp2
    go_ret
    exact ⟨ret_bool (by simp), step HB0.out B6.out⟩
  go_wp2_with fail
  clear c0 c1 c2 c3 c4 c5 c6 d0 d1 d2 d3 d4 d5 d6
  refine (holdsTag_any (.pointer p6) (.pointer q6) G.grp E.grp _ (HE.out.2.grp.below B6.out) (HE.out.1.grp.below B6.out)).mono ?_
  rintro e w7 ⟨rfl, hb⟩
  rw [R6.out]
  have B7 : Hid (Below W.heap.size W w7) := step B6.out hb
  obtain ⟨c0, c1, c2, c3, c4, c5, c6, d0, d1, d2, d3, d4, d5, d6, -⟩ := BX0.out.below B7.out
  clear hb
  cases r6
  · go_wp2
    go_ret
    exact ⟨ret_bool (by simp), step HB0.out B7.out⟩
  go_wp2
  go_ret
  exact ⟨ret_bool (by simp), step HB0.out B7.out⟩

set_option maxHeartbeats 4000000 in
theorem sameEnv_any (q0 q1 q2 q3 q4 q5 q6 p0 p1 p2 p3 p4 p5 p6 : Option Addr) (E G : Env) (w : World) (h : EnvAt P w q0 q1 q2 q3 q4 q5 q6 E) (h2 : EnvAt Q w p0 p1 p2 p3 p4 p5 p6 G) :
    Calls Try.prog 14 #[.agg #[.pointer q0, .pointer q1, .pointer q2, .pointer q3, .pointer q4, .pointer q5, .pointer q6], .agg #[.pointer p0, .pointer p1, .pointer p2, .pointer p3, .pointer p4, .pointer p5, .pointer p6]] w fun e w' => e = .returned (.bool (sameE E G)) ∧ Below w.heap.size w w' := by
  have HB0 : Hid (Below w.heap.size w ((w.alloc (.cells #[.pointer q0, .pointer q1, .pointer q2, .pointer q3, .pointer q4, .pointer q5, .pointer q6] 26)).alloc (.cells #[.pointer p0, .pointer p1, .pointer p2, .pointer p3, .pointer p4, .pointer p5, .pointer p6] 26))) := two_below w 26 q0 q1 q2 q3 q4 q5 q6 p0 p1 p2 p3 p4 p5 p6
  have HE : Hid (EnvAt P ((w.alloc (.cells #[.pointer q0, .pointer q1, .pointer q2, .pointer q3, .pointer q4, .pointer q5, .pointer q6] 26)).alloc (.cells #[.pointer p0, .pointer p1, .pointer p2, .pointer p3, .pointer p4, .pointer p5, .pointer p6] 26)) q0 q1 q2 q3 q4 q5 q6 E ∧ EnvAt Q ((w.alloc (.cells #[.pointer q0, .pointer q1, .pointer q2, .pointer q3, .pointer q4, .pointer q5, .pointer q6] 26)).alloc (.cells #[.pointer p0, .pointer p1, .pointer p2, .pointer p3, .pointer p4, .pointer p5, .pointer p6] 26)) p0 p1 p2 p3 p4 p5 p6 G) := ⟨h.below HB0.out, h2.below HB0.out⟩
  have bx := two_of w 26 q0 q1 q2 q3 q4 q5 q6 p0 p1 p2 p3 p4 p5 p6
  clear h h2
  unfold sameE
  generalize hr0 : sameT E.cls G.cls = r0
  generalize hr1 : sameS E.ven G.ven = r1
  generalize hr2 : sameS E.mdl G.mdl = r2
  generalize hr3 : sameN E.lay G.lay = r3
  generalize hr4 : sameN E.idx G.idx = r4
  generalize hr5 : sameT E.ins G.ins = r5
  generalize hr6 : sameT E.grp G.grp = r6
  have R0 : Hid (sameT E.cls G.cls = r0) := hr0
  have R1 : Hid (sameS E.ven G.ven = r1) := hr1
  have R2 : Hid (sameS E.mdl G.mdl = r2) := hr2
  have R3 : Hid (sameN E.lay G.lay = r3) := hr3
  have R4 : Hid (sameN E.idx G.idx = r4) := hr4
  have R5 : Hid (sameT E.ins G.ins = r5) := hr5
  have R6 : Hid (sameT E.grp G.grp = r6) := hr6
  clear hr0 hr1 hr2 hr3 hr4 hr5 hr6
  go_enter Try.func14, Try.ntmps14
  go_wp2_with fail
  generalize (w.alloc (.cells #[.pointer q0, .pointer q1, .pointer q2, .pointer q3, .pointer q4, .pointer q5, .pointer q6] 26)).alloc (.cells #[.pointer p0, .pointer p1, .pointer p2, .pointer p3, .pointer p4, .pointer p5, .pointer p6] 26) = W at *
  have BX0 : Hid (Two W w.heap.size q0 q1 q2 q3 q4 q5 q6 p0 p1 p2 p3 p4 p5 p6) := bx
  have B0 : Hid (Below W.heap.size W W) := Below.refl _ _
  clear bx
  refine (sameTag_any (.pointer q0) (.pointer p0) E.cls G.cls _ (HE.out.1.cls.below B0.out) (HE.out.2.cls.below B0.out)).mono ?_
  rintro e w1 ⟨rfl, n1, hw⟩
  have hb : Below W.heap.size W w1 := by rw [hw]; exact below_drewN (Below.refl _ _) _
  clear hw
  rw [R0.out]
  have B1 : Hid (Below W.heap.size W w1) := step B0.out hb
  obtain ⟨c0, c1, c2, c3, c4, c5, c6, d0, d1, d2, d3, d4, d5, d6, -⟩ := BX0.out.below B1.out
  clear hb
  cases r0
  · go_wp2
    go_ret
    exact ⟨ret_bool (by simp), step HB0.out B1.out⟩
  go_wp2_with fail
  clear c0 c1 c2 c3 c4 c5 c6 d0 d1 d2 d3 d4 d5 d6
  refine (sameStr_any (.pointer q1) (.pointer p1) E.ven G.ven _ (HE.out.1.ven.below B1.out) (HE.out.2.ven.below B1.out)).mono ?_
  rintro e w2 ⟨rfl, n2, hw⟩
  have hb : Below w1.heap.size w1 w2 := by rw [hw]; exact below_drewN (Below.refl _ _) _
  clear hw
  rw [R1.out]
  have B2 : Hid (Below W.heap.size W w2) := step B1.out hb
  obtain ⟨c0, c1, c2, c3, c4, c5, c6, d0, d1, d2, d3, d4, d5, d6, -⟩ := BX0.out.below B2.out
  clear hb
  cases r1
  · go_wp2
    go_ret
    exact ⟨ret_bool (by simp), step HB0.out B2.out⟩
  go_wp2_with fail
  clear c0 c1 c2 c3 c4 c5 c6 d0 d1 d2 d3 d4 d5 d6
  refine (sameStr_any (.pointer q2) (.pointer p2) E.mdl G.mdl _ (HE.out.1.mdl.below B2.out) (HE.out.2.mdl.below B2.out)).mono ?_
  rintro e w3 ⟨rfl, n3, hw⟩
  have hb : Below w2.heap.size w2 w3 := by rw [hw]; exact below_drewN (Below.refl _ _) _
  clear hw
  rw [R2.out]
  have B3 : Hid (Below W.heap.size W w3) := step B2.out hb
  obtain ⟨c0, c1, c2, c3, c4, c5, c6, d0, d1, d2, d3, d4, d5, d6, -⟩ := BX0.out.below B3.out
  clear hb
  cases r2
  · go_wp2
    go_ret
    exact ⟨ret_bool (by simp), step HB0.out B3.out⟩
  go_wp2_with fail
  clear c0 c1 c2 c3 c4 c5 c6 d0 d1 d2 d3 d4 d5 d6
  refine (sameNum_any (.pointer q3) (.pointer p3) E.lay G.lay _ (HE.out.1.lay.below B3.out) (HE.out.2.lay.below B3.out)).mono ?_
  rintro e w4 ⟨rfl, n4, hw⟩
  have hb : Below w3.heap.size w3 w4 := by rw [hw]; exact below_drewN (Below.refl _ _) _
  clear hw
  rw [R3.out]
  have B4 : Hid (Below W.heap.size W w4) := step B3.out hb
  obtain ⟨c0, c1, c2, c3, c4, c5, c6, d0, d1, d2, d3, d4, d5, d6, -⟩ := BX0.out.below B4.out
  clear hb
  cases r3
  · go_wp2
    go_ret
    exact ⟨ret_bool (by simp), step HB0.out B4.out⟩
  go_wp2_with fail
  clear c0 c1 c2 c3 c4 c5 c6 d0 d1 d2 d3 d4 d5 d6
  refine (sameNum_any (.pointer q4) (.pointer p4) E.idx G.idx _ (HE.out.1.idx.below B4.out) (HE.out.2.idx.below B4.out)).mono ?_
  rintro e w5 ⟨rfl, n5, hw⟩
  have hb : Below w4.heap.size w4 w5 := by rw [hw]; exact below_drewN (Below.refl _ _) _
  clear hw
  rw [R4.out]
  have B5 : Hid (Below W.heap.size W w5) := step B4.out hb
  obtain ⟨c0, c1, c2, c3, c4, c5, c6, d0, d1, d2, d3, d4, d5, d6, -⟩ := BX0.out.below B5.out
  clear hb
  cases r4
  · go_wp2
    go_ret
    exact ⟨ret_bool (by simp), step HB0.out B5.out⟩
  go_wp2_with fail
  clear c0 c1 c2 c3 c4 c5 c6 d0 d1 d2 d3 d4 d5 d6
  refine (sameTag_any (.pointer q5) (.pointer p5) E.ins G.ins _ (HE.out.1.ins.below B5.out) (HE.out.2.ins.below B5.out)).mono ?_
  rintro e w6 ⟨rfl, n6, hw⟩
  have hb : Below w5.heap.size w5 w6 := by rw [hw]; exact below_drewN (Below.refl _ _) _
  clear hw
  rw [R5.out]
  have B6 : Hid (Below W.heap.size W w6) := step B5.out hb
  obtain ⟨c0, c1, c2, c3, c4, c5, c6, d0, d1, d2, d3, d4, d5, d6, -⟩ := BX0.out.below B6.out
  clear hb
  cases r5
  · go_wp2
    go_ret
    exact ⟨ret_bool (by simp), step HB0.out B6.out⟩
  go_wp2_with fail
  clear c0 c1 c2 c3 c4 c5 c6 d0 d1 d2 d3 d4 d5 d6
  refine (sameTag_any (.pointer q6) (.pointer p6) E.grp G.grp _ (HE.out.1.grp.below B6.out) (HE.out.2.grp.below B6.out)).mono ?_
  rintro e w7 ⟨rfl, n7, hw⟩
  have hb : Below w6.heap.size w6 w7 := by rw [hw]; exact below_drewN (Below.refl _ _) _
  clear hw
  rw [R6.out]
  have B7 : Hid (Below W.heap.size W w7) := step B6.out hb
  obtain ⟨c0, c1, c2, c3, c4, c5, c6, d0, d1, d2, d3, d4, d5, d6, -⟩ := BX0.out.below B7.out
  clear hb
  cases r6
  · go_wp2
    go_ret
    exact ⟨ret_bool (by simp), step HB0.out B7.out⟩
  go_wp2
  go_ret
  exact ⟨ret_bool (by simp), step HB0.out B7.out⟩

set_option maxHeartbeats 4000000 in
theorem zzcontains_any (q0 q1 q2 q3 q4 q5 q6 p0 p1 p2 p3 p4 p5 p6 : Option Addr) (E G : Env) (w : World) (h : EnvAt P w q0 q1 q2 q3 q4 q5 q6 E) (h2 : EnvAt Q w p0 p1 p2 p3 p4 p5 p6 G) :
    Calls Try.prog 12 #[.agg #[.pointer q0, .pointer q1, .pointer q2, .pointer q3, .pointer q4, .pointer q5, .pointer q6], .agg #[.pointer p0, .pointer p1, .pointer p2, .pointer p3, .pointer p4, .pointer p5, .pointer p6]] w fun e w' => e = .returned (.bool (containsB E G)) ∧ Below w.heap.size w w' := by
  have HB0 : Hid (Below w.heap.size w ((w.alloc (.cells #[.pointer q0, .pointer q1, .pointer q2, .pointer q3, .pointer q4, .pointer q5, .pointer q6] 34)).alloc (.cells #[.pointer p0, .pointer p1, .pointer p2, .pointer p3, .pointer p4, .pointer p5, .pointer p6] 34))) := two_below w 34 q0 q1 q2 q3 q4 q5 q6 p0 p1 p2 p3 p4 p5 p6
  have HE : Hid (EnvAt P ((w.alloc (.cells #[.pointer q0, .pointer q1, .pointer q2, .pointer q3, .pointer q4, .pointer q5, .pointer q6] 34)).alloc (.cells #[.pointer p0, .pointer p1, .pointer p2, .pointer p3, .pointer p4, .pointer p5, .pointer p6] 34)) q0 q1 q2 q3 q4 q5 q6 E ∧ EnvAt Q ((w.alloc (.cells #[.pointer q0, .pointer q1, .pointer q2, .pointer q3, .pointer q4, .pointer q5, .pointer q6] 34)).alloc (.cells #[.pointer p0, .pointer p1, .pointer p2, .pointer p3, .pointer p4, .pointer p5, .pointer p6] 34)) p0 p1 p2 p3 p4 p5 p6 G) := ⟨h.below HB0.out, h2.below HB0.out⟩
  clear h h2
  go_enter Try.func12, Try.ntmps12
  go_wp2_with fail
  refine (contains_any q0 q1 q2 q3 q4 q5 q6 p0 p1 p2 p3 p4 p5 p6 E G _ HE.out.1 HE.out.2).mono ?_
  rintro e w1 ⟨rfl, hb⟩
  go_wp2
  go_ret
  exact ⟨rfl, step HB0.out hb⟩
end Go.Proofs.Qxb6603359a
