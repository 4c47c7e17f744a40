/-
  FnContainsIsOverlayNoChange: the plain law; the law, walked.
-/
import Derived.Test.Qxb6603359aBytes
namespace Go.Proofs.Qxb6603359a
open Go.RowKit
variable {P Q : Nat → Prop}
attribute [local go_sem ↓] Go.wp_at_zero Go.wp_at_succ

/-! ### The plain law -/
theorem sameT_refl (t : Option (Int × List Int)) : sameT t t = true := by
  cases t with
  | none => rfl
  | some x => simp [sameT, eqB]
theorem sameS_refl (t : Option ByteArray) : sameS t t = true := by
  cases t with
  | none => rfl
  | some x => simp [sameS]
theorem sameN_refl (t : Option Int) : sameN t t = true := by
  cases t with
  | none => rfl
  | some x => simp [sameN]
theorem lawT (w g : Option (Int × List Int)) : holdT w g = sameT (ovT w g) g := by
  cases w with
  | none => exact (sameT_refl g).symm
  | some x => cases g <;> rfl
theorem lawS (w g : Option ByteArray) : holdS w g = sameS (ovS w g) g := by
  cases w with
  | none => exact (sameS_refl g).symm
  | some x => cases g <;> rfl
theorem lawN (w g : Option Int) : holdN w g = sameN (ovN w g) g := by
  cases w with
  | none => exact (sameN_refl g).symm
  | some x => cases g <;> rfl
/-- got contains want just where writing want onto got leaves it the same. -/
theorem plain_law (G W : Env) : containsB G W = sameE (overlay G W) G := by
  unfold containsB sameE overlay
  rw [lawT, lawS, lawS, lawN, lawN, lawT, lawT]

/-- No cell of the two boxes is frozen. -/
structure Fr (w : World) (N : Nat) : Prop where
  f0 : w.frozen? ⟨N, 0, none⟩ = false
  f1 : w.frozen? ⟨N, 1, none⟩ = false
  f2 : w.frozen? ⟨N, 2, none⟩ = false
  f3 : w.frozen? ⟨N, 3, none⟩ = false
  f4 : w.frozen? ⟨N, 4, none⟩ = false
  f5 : w.frozen? ⟨N, 5, none⟩ = false
  f6 : w.frozen? ⟨N, 6, none⟩ = false
  g0 : w.frozen? ⟨N + 1, 0, none⟩ = false
  g1 : w.frozen? ⟨N + 1, 1, none⟩ = false
  g2 : w.frozen? ⟨N + 1, 2, none⟩ = false
  g3 : w.frozen? ⟨N + 1, 3, none⟩ = false
  g4 : w.frozen? ⟨N + 1, 4, none⟩ = false
  g5 : w.frozen? ⟨N + 1, 5, none⟩ = false
  g6 : w.frozen? ⟨N + 1, 6, none⟩ = false
theorem Fr.below {w w1 : World} {N : Nat} (h : Fr w N) (hl : N + 1 < w.heap.size) (hb : Below w.heap.size w w1) : Fr w1 N :=
  ⟨(hb.frozen (p := ⟨N, 0, none⟩) (Nat.lt_trans (Nat.lt_succ_self N) hl)).trans h.f0, (hb.frozen (p := ⟨N, 1, none⟩) (Nat.lt_trans (Nat.lt_succ_self N) hl)).trans h.f1, (hb.frozen (p := ⟨N, 2, none⟩) (Nat.lt_trans (Nat.lt_succ_self N) hl)).trans h.f2, (hb.frozen (p := ⟨N, 3, none⟩) (Nat.lt_trans (Nat.lt_succ_self N) hl)).trans h.f3, (hb.frozen (p := ⟨N, 4, none⟩) (Nat.lt_trans (Nat.lt_succ_self N) hl)).trans h.f4, (hb.frozen (p := ⟨N, 5, none⟩) (Nat.lt_trans (Nat.lt_succ_self N) hl)).trans h.f5, (hb.frozen (p := ⟨N, 6, none⟩) (Nat.lt_trans (Nat.lt_succ_self N) hl)).trans h.f6, (hb.frozen (p := ⟨N + 1, 0, none⟩) hl).trans h.g0, (hb.frozen (p := ⟨N + 1, 1, none⟩) hl).trans h.g1, (hb.frozen (p := ⟨N + 1, 2, none⟩) hl).trans h.g2, (hb.frozen (p := ⟨N + 1, 3, none⟩) hl).trans h.g3, (hb.frozen (p := ⟨N + 1, 4, none⟩) hl).trans h.g4, (hb.frozen (p := ⟨N + 1, 5, none⟩) hl).trans h.g5, (hb.frozen (p := ⟨N + 1, 6, none⟩) hl).trans h.g6⟩
theorem fr_of (w : World) (T : TypeId) (q0 q1 q2 q3 q4 q5 q6 p0 p1 p2 p3 p4 p5 p6 : Option Addr) : Fr ((w.alloc (.cells #[.pointer q0, .pointer q1, .pointer q2, .pointer q3, .pointer q4, .pointer q5, .pointer q6] T)).alloc (.cells #[.pointer p0, .pointer p1, .pointer p2, .pointer p3, .pointer p4, .pointer p5, .pointer p6] T)) w.heap.size := by
  constructor <;> simp [go_sem]

/-- Seven cells stored into the first box. -/
theorem two_store1 {w : World} {N : Nat} {q0 q1 q2 q3 q4 q5 q6 p0 p1 p2 p3 p4 p5 p6 : Option Addr} (h : Two w N q0 q1 q2 q3 q4 q5 q6 p0 p1 p2 p3 p4 p5 p6) (hf : Fr w N) (r0 r1 r2 r3 r4 r5 r6 : Option Addr) :
    Two (((((((w.setCell ⟨N, 0, none⟩ (.pointer r0)).setCell ⟨N, 1, none⟩ (.pointer r1)).setCell ⟨N, 2, none⟩ (.pointer r2)).setCell ⟨N, 3, none⟩ (.pointer r3)).setCell ⟨N, 4, none⟩ (.pointer r4)).setCell ⟨N, 5, none⟩ (.pointer r5)).setCell ⟨N, 6, none⟩ (.pointer r6)) N r0 r1 r2 r3 r4 r5 r6 p0 p1 p2 p3 p4 p5 p6 ∧
    Fr (((((((w.setCell ⟨N, 0, none⟩ (.pointer r0)).setCell ⟨N, 1, none⟩ (.pointer r1)).setCell ⟨N, 2, none⟩ (.pointer r2)).setCell ⟨N, 3, none⟩ (.pointer r3)).setCell ⟨N, 4, none⟩ (.pointer r4)).setCell ⟨N, 5, none⟩ (.pointer r5)).setCell ⟨N, 6, none⟩ (.pointer r6)) N := by
  obtain ⟨c0, c1, c2, c3, c4, c5, c6, d0, d1, d2, d3, d4, d5, d6, lt⟩ := h
  obtain ⟨f0, f1, f2, f3, f4, f5, f6, g0, g1, g2, g3, g4, g5, g6⟩ := hf
  refine ⟨⟨?_, ?_, ?_, ?_, ?_, ?_, ?_, ?_, ?_, ?_, ?_, ?_, ?_, ?_, by simpa [World.setCell] using lt⟩, ⟨?_, ?_, ?_, ?_, ?_, ?_, ?_, ?_, ?_, ?_, ?_, ?_, ?_, ?_⟩⟩ <;> simp [go_sem, *]
/-- .. and into the second. -/
theorem two_store2 {w : World} {N : Nat} {q0 q1 q2 q3 q4 q5 q6 p0 p1 p2 p3 p4 p5 p6 : Option Addr} (h : Two w N q0 q1 q2 q3 q4 q5 q6 p0 p1 p2 p3 p4 p5 p6) (r0 r1 r2 r3 r4 r5 r6 : Option Addr) :
    Two (((((((w.setCell ⟨N + 1, 0, none⟩ (.pointer r0)).setCell ⟨N + 1, 1, none⟩ (.pointer r1)).setCell ⟨N + 1, 2, none⟩ (.pointer r2)).setCell ⟨N + 1, 3, none⟩ (.pointer r3)).setCell ⟨N + 1, 4, none⟩ (.pointer r4)).setCell ⟨N + 1, 5, none⟩ (.pointer r5)).setCell ⟨N + 1, 6, none⟩ (.pointer r6)) N q0 q1 q2 q3 q4 q5 q6 r0 r1 r2 r3 r4 r5 r6 := by
  obtain ⟨c0, c1, c2, c3, c4, c5, c6, d0, d1, d2, d3, d4, d5, d6, lt⟩ := h
  refine ⟨?_, ?_, ?_, ?_, ?_, ?_, ?_, ?_, ?_, ?_, ?_, ?_, ?_, ?_, by simpa [World.setCell] using lt⟩ <;> simp [go_sem, *]

set_option maxHeartbeats 8000000 in
theorem law_any (q0 q1 q2 q3 q4 q5 q6 p0 p1 p2 p3 p4 p5 p6 : Option Addr) (E G : Env) (w : World) (h : EnvAt P w q0 q1 q2 q3 q4 q5 q6 E) (h2 : EnvAt Q w p0 p1 p2 p3 p4 p5 p6 G) :
    Calls Try.prog 3 #[.agg #[.pointer q0, .pointer q1, .pointer q2, .pointer q3, .pointer q4, .pointer q5, .pointer q6], .agg #[.pointer p0, .pointer p1, .pointer p2, .pointer p3, .pointer p4, .pointer p5, .pointer p6]] w fun e w' => e = .returned (.bool true) ∧ Below w.heap.size w w' := by
  have HB0 : Hid (Below w.heap.size w ((w.alloc (.cells #[.pointer q0, .pointer q1, .pointer q2, .pointer q3, .pointer q4, .pointer q5, .pointer q6] 26)).alloc (.cells #[.pointer p0, .pointer p1, .pointer p2, .pointer p3, .pointer p4, .pointer p5, .pointer p6] 26))) := two_below w 26 q0 q1 q2 q3 q4 q5 q6 p0 p1 p2 p3 p4 p5 p6
  have HE : Hid (EnvAt (fun b => b < w.heap.size) ((w.alloc (.cells #[.pointer q0, .pointer q1, .pointer q2, .pointer q3, .pointer q4, .pointer q5, .pointer q6] 26)).alloc (.cells #[.pointer p0, .pointer p1, .pointer p2, .pointer p3, .pointer p4, .pointer p5, .pointer p6] 26)) q0 q1 q2 q3 q4 q5 q6 E ∧ EnvAt (fun b => b < w.heap.size) ((w.alloc (.cells #[.pointer q0, .pointer q1, .pointer q2, .pointer q3, .pointer q4, .pointer q5, .pointer q6] 26)).alloc (.cells #[.pointer p0, .pointer p1, .pointer p2, .pointer p3, .pointer p4, .pointer p5, .pointer p6] 26)) p0 p1 p2 p3 p4 p5 p6 G) := ⟨h.lt.below HB0.out, h2.lt.below HB0.out⟩
  have bx := two_of w 26 q0 q1 q2 q3 q4 q5 q6 p0 p1 p2 p3 p4 p5 p6
  have fx := fr_of w 26 q0 q1 q2 q3 q4 q5 q6 p0 p1 p2 p3 p4 p5 p6
  have nE := envSize_nn E
  have nG := envSize_nn G
  have hsm : addC (envSize E) (envSize G) ≤ 1048576 → (small E.cls ∧ small E.ins ∧ small E.grp) ∧ (small G.cls ∧ small G.ins ∧ small G.grp) := fun hle =>
    ⟨envSize_small (addC_le hle).1, envSize_small (addC_le hle).2⟩
  have HSM : Hid (addC (envSize E) (envSize G) ≤ 1048576 → (small E.cls ∧ small E.ins ∧ small E.grp) ∧ (small G.cls ∧ small G.ins ∧ small G.grp)) := hsm
  have HPL : Hid (containsB E G = sameE (overlay E G) E) := plain_law E G
  clear h h2 hsm
  generalize hsE : envSize E = sE at *
  generalize hsG : envSize G = sG at *
  have HSZ : Hid (envSize E = sE ∧ envSize G = sG) := ⟨hsE, hsG⟩
  clear hsE hsG
  generalize hA : addC sE sG = sA at *
  have HA : Hid (addC sE sG = sA) := hA
  clear hA
  go_enter Try.func3, Try.ntmps3
  go_wp2_with fail
  generalize (w.alloc (.cells #[.pointer q0, .pointer q1, .pointer q2, .pointer q3, .pointer q4, .pointer q5, .pointer q6] 26)).alloc (.cells #[.pointer p0, .pointer p1, .pointer p2, .pointer p3, .pointer p4, .pointer p5, .pointer p6] 26) = W at *
  have BX0 : Hid (Two W w.heap.size q0 q1 q2 q3 q4 q5 q6 p0 p1 p2 p3 p4 p5 p6) := bx
  have FX0 : Hid (Fr W w.heap.size) := fx
  clear bx fx
  refine (bytes_any q0 q1 q2 q3 q4 q5 q6 p0 p1 p2 p3 p4 p5 p6 E G _ HE.out.1 HE.out.2).mono ?_
  rintro e w1 ⟨⟨r, rfl⟩, hb⟩
  have B1 : Hid (Below W.heap.size W w1) := hb
  clear hb
  cases r
  · go_wp2
    go_ret
    exact ⟨rfl, step HB0.out B1.out⟩
  obtain ⟨c0, c1, c2, c3, c4, c5, c6, d0, d1, d2, d3, d4, d5, d6, -⟩ := BX0.out.below B1.out
  go_wp2_with fail
  go_region_held3 (fun v => v.cell? ⟨w.heap.size, 0, none⟩ = some (.pointer q0) ∧ v.cell? ⟨w.heap.size, 1, none⟩ = some (.pointer q1) ∧ v.cell? ⟨w.heap.size, 2, none⟩ = some (.pointer q2) ∧ v.cell? ⟨w.heap.size, 3, none⟩ = some (.pointer q3) ∧ v.cell? ⟨w.heap.size, 4, none⟩ = some (.pointer q4) ∧ v.cell? ⟨w.heap.size, 5, none⟩ = some (.pointer q5) ∧ v.cell? ⟨w.heap.size, 6, none⟩ = some (.pointer q6) ∧ v.cell? ⟨w.heap.size + 1, 0, none⟩ = some (.pointer p0) ∧ v.cell? ⟨w.heap.size + 1, 1, none⟩ = some (.pointer p1) ∧ v.cell? ⟨w.heap.size + 1, 2, none⟩ = some (.pointer p2) ∧ v.cell? ⟨w.heap.size + 1, 3, none⟩ = some (.pointer p3) ∧ v.cell? ⟨w.heap.size + 1, 4, none⟩ = some (.pointer p4) ∧ v.cell? ⟨w.heap.size + 1, 5, none⟩ = some (.pointer p5) ∧ v.cell? ⟨w.heap.size + 1, 6, none⟩ = some (.pointer p6)) (go_keep)
    (first
      | (go_at_call_of 10 (Value.pointer q0); refine (envSize_any q0 q1 q2 q3 q4 q5 q6 E _ (HE.out.1.below (step B1.out (Below.refl _ _).drew))).mono ?_; rintro e w2 ⟨rfl, hb⟩; rw [HSZ.out.1]; have B2 : Hid (Below W.heap.size W w2) := step (step B1.out (Below.refl _ _).drew) hb; clear hb c0 c1 c2 c3 c4 c5 c6 d0 d1 d2 d3 d4 d5 d6; obtain ⟨c0, c1, c2, c3, c4, c5, c6, d0, d1, d2, d3, d4, d5, d6, -⟩ := BX0.out.below B2.out)
      | (go_at_call_of 10 (Value.pointer p0); refine (envSize_any p0 p1 p2 p3 p4 p5 p6 G _ (HE.out.2.below B2.out)).mono ?_; rintro e w3 ⟨rfl, hb⟩; rw [HSZ.out.2]; have B3 : Hid (Below W.heap.size W w3) := step B2.out hb; clear hb c0 c1 c2 c3 c4 c5 c6 d0 d1 d2 d3 d4 d5 d6; obtain ⟨c0, c1, c2, c3, c4, c5, c6, d0, d1, d2, d3, d4, d5, d6, -⟩ := BX0.out.below B3.out)
      | (go_at_call 9; refine (add_any sE sG _ nE nG).mono ?_; rintro e w4 ⟨rfl, hw⟩; rw [HA.out]; have hw := hw.symm; subst hw))
  by_cases hbig : 1048576 < sA
  · go_wp2
    go_ret
    exact ⟨rfl, step HB0.out B3.out⟩
  have hsm := HSM.out (by omega)
  have SM : Hid ((small E.cls ∧ small E.ins ∧ small E.grp) ∧ (small G.cls ∧ small G.ins ∧ small G.grp)) := hsm
  clear hsm HSM
  have F3 : Hid (Fr w3 w.heap.size) := FX0.out.below BX0.out.lt B3.out
  have X3 : Hid (Two w3 w.heap.size q0 q1 q2 q3 q4 q5 q6 p0 p1 p2 p3 p4 p5 p6) := BX0.out.below B3.out
  clear nE nG
  go_wp2_with fail
  clear c0 c1 c2 c3 c4 c5 c6 d0 d1 d2 d3 d4 d5 d6
  refine (copyEnv_any q0 q1 q2 q3 q4 q5 q6 E _ (HE.out.1.below B3.out) SM.out.1).mono ?_
  rintro e w4 ⟨r0, r1, r2, r3, r4, r5, r6, rfl, hT, hb⟩
  have T4 : Hid (EnvAt (fun b => w3.heap.size ≤ b) w4 r0 r1 r2 r3 r4 r5 r6 E) := hT
  have D4 : Hid (Below w3.heap.size w3 w4) := hb
  have X4 : Hid (Two w4 w.heap.size q0 q1 q2 q3 q4 q5 q6 p0 p1 p2 p3 p4 p5 p6) := X3.out.below hb
  have F4 : Hid (Fr w4 w.heap.size) := F3.out.below X3.out.lt hb
  clear hT hb
  obtain ⟨c0, c1, c2, c3, c4, c5, c6, d0, d1, d2, d3, d4, d5, d6, -⟩ := X4.out
  obtain ⟨f0, f1, f2, f3, f4, f5, f6, g0, g1, g2, g3, g4, g5, g6⟩ := F4.out
  go_wp2_with fail
  clear c0 c1 c2 c3 c4 c5 c6 d0 d1 d2 d3 d4 d5 d6 f0 f1 f2 f3 f4 f5 f6 g0 g1 g2 g3 g4 g5 g6
  have XF5 := two_store1 X4.out F4.out r0 r1 r2 r3 r4 r5 r6
  have S5 := ((((((((Stored.refl (w.heap.size) w4).set 0 (.pointer r0)).set 1 (.pointer r1)).set 2 (.pointer r2)).set 3 (.pointer r3)).set 4 (.pointer r4)).set 5 (.pointer r5)).set 6 (.pointer r6))
  generalize hw5 : (((((((w4.setCell ⟨w.heap.size, 0, none⟩ (.pointer r0)).setCell ⟨w.heap.size, 1, none⟩ (.pointer r1)).setCell ⟨w.heap.size, 2, none⟩ (.pointer r2)).setCell ⟨w.heap.size, 3, none⟩ (.pointer r3)).setCell ⟨w.heap.size, 4, none⟩ (.pointer r4)).setCell ⟨w.heap.size, 5, none⟩ (.pointer r5)).setCell ⟨w.heap.size, 6, none⟩ (.pointer r6)) = w5 at *
  have X5 : Hid (Two w5 w.heap.size r0 r1 r2 r3 r4 r5 r6 p0 p1 p2 p3 p4 p5 p6) := XF5.1
  have F5 : Hid (Fr w5 w.heap.size) := XF5.2
  have HS5 : Hid (Stored w.heap.size w4 w5) := S5
  clear XF5 S5 hw5
  have lt3 := X3.out.lt
  have T5 : Hid (EnvAt (fun b => w3.heap.size ≤ b) w5 r0 r1 r2 r3 r4 r5 r6 E) := T4.out.agree (agree_stored (Below.refl _ _) HS5.out (fun b hb => by omega)) (fun _ h => h)
  have G5 : Hid (EnvAt (fun b => b < w.heap.size) w5 p0 p1 p2 p3 p4 p5 p6 G) := HE.out.2.agree (agree_stored (step B3.out D4.out) HS5.out (fun b hb => by omega)) (fun _ h => h)
  have B5 : Hid (Below w.heap.size w w5) := (step (step HB0.out B3.out) D4.out).trans (HS5.out.2 _ (Nat.le_refl _))
  clear lt3
  refine (copyEnv_any p0 p1 p2 p3 p4 p5 p6 G _ G5.out SM.out.2).mono ?_
  rintro e w6 ⟨s0, s1, s2, s3, s4, s5, s6, rfl, hT, hb⟩
  have T6 : Hid (EnvAt (fun b => w5.heap.size ≤ b) w6 s0 s1 s2 s3 s4 s5 s6 G) := hT
  have D6 : Hid (Below w5.heap.size w5 w6) := hb
  have X6 : Hid (Two w6 w.heap.size r0 r1 r2 r3 r4 r5 r6 p0 p1 p2 p3 p4 p5 p6) := X5.out.below hb
  have F6 : Hid (Fr w6 w.heap.size) := F5.out.below X5.out.lt hb
  clear hT hb
  obtain ⟨c0, c1, c2, c3, c4, c5, c6, d0, d1, d2, d3, d4, d5, d6, -⟩ := X6.out
  obtain ⟨f0, f1, f2, f3, f4, f5, f6, g0, g1, g2, g3, g4, g5, g6⟩ := F6.out
  go_wp2_with fail
  clear c0 c1 c2 c3 c4 c5 c6 d0 d1 d2 d3 d4 d5 d6 f0 f1 f2 f3 f4 f5 f6 g0 g1 g2 g3 g4 g5 g6
  have X7' := two_store2 X6.out s0 s1 s2 s3 s4 s5 s6
  have S7 := ((((((((Stored.refl (w.heap.size + 1) w6).set 0 (.pointer s0)).set 1 (.pointer s1)).set 2 (.pointer s2)).set 3 (.pointer s3)).set 4 (.pointer s4)).set 5 (.pointer s5)).set 6 (.pointer s6))
  generalize hw7 : (((((((w6.setCell ⟨w.heap.size + 1, 0, none⟩ (.pointer s0)).setCell ⟨w.heap.size + 1, 1, none⟩ (.pointer s1)).setCell ⟨w.heap.size + 1, 2, none⟩ (.pointer s2)).setCell ⟨w.heap.size + 1, 3, none⟩ (.pointer s3)).setCell ⟨w.heap.size + 1, 4, none⟩ (.pointer s4)).setCell ⟨w.heap.size + 1, 5, none⟩ (.pointer s5)).setCell ⟨w.heap.size + 1, 6, none⟩ (.pointer s6)) = w7 at *
  have X7 : Hid (Two w7 w.heap.size r0 r1 r2 r3 r4 r5 r6 s0 s1 s2 s3 s4 s5 s6) := X7'
  have HS7 : Hid (Stored (w.heap.size + 1) w6 w7) := S7
  clear X7' S7 hw7
  have lt3 := X3.out.lt
  have lt5 := X5.out.lt
  have T7 : Hid (EnvAt (fun b => w3.heap.size ≤ b) w7 r0 r1 r2 r3 r4 r5 r6 E) := T5.out.agree (agree_stored D6.out HS7.out (fun b hb => by omega)) (fun _ h => h)
  have G7 : Hid (EnvAt (fun b => w5.heap.size ≤ b) w7 s0 s1 s2 s3 s4 s5 s6 G) := T6.out.agree (agree_stored (Below.refl _ _) HS7.out (fun b hb => by omega)) (fun _ h => h)
  have B7 : Hid (Below w.heap.size w w7) := (step B5.out D6.out).trans (HS7.out.2 _ (by omega))
  clear lt3 lt5
  generalize hr : containsB E G = rr at *
  have HR : Hid (containsB E G = rr) := hr
  clear hr
  obtain ⟨c0, c1, c2, c3, c4, c5, c6, d0, d1, d2, d3, d4, d5, d6, -⟩ := X7.out
  go_region_held3 (fun v => v.cell? ⟨w.heap.size, 0, none⟩ = some (.pointer r0) ∧ v.cell? ⟨w.heap.size, 1, none⟩ = some (.pointer r1) ∧ v.cell? ⟨w.heap.size, 2, none⟩ = some (.pointer r2) ∧ v.cell? ⟨w.heap.size, 3, none⟩ = some (.pointer r3) ∧ v.cell? ⟨w.heap.size, 4, none⟩ = some (.pointer r4) ∧ v.cell? ⟨w.heap.size, 5, none⟩ = some (.pointer r5) ∧ v.cell? ⟨w.heap.size, 6, none⟩ = some (.pointer r6) ∧ v.cell? ⟨w.heap.size + 1, 0, none⟩ = some (.pointer s0) ∧ v.cell? ⟨w.heap.size + 1, 1, none⟩ = some (.pointer s1) ∧ v.cell? ⟨w.heap.size + 1, 2, none⟩ = some (.pointer s2) ∧ v.cell? ⟨w.heap.size + 1, 3, none⟩ = some (.pointer s3) ∧ v.cell? ⟨w.heap.size + 1, 4, none⟩ = some (.pointer s4) ∧ v.cell? ⟨w.heap.size + 1, 5, none⟩ = some (.pointer s5) ∧ v.cell? ⟨w.heap.size + 1, 6, none⟩ = some (.pointer s6)) (go_keep)
    (first
      | (go_at_call_of 13 (Value.pointer r0); refine (toEnv_any r0 r1 r2 r3 r4 r5 r6 E _ (T7.out.below (Below.refl _ _).drew)).mono ?_; rintro e v1 ⟨a0, a1, a2, a3, a4, a5, a6, rfl, hT, hb⟩; have U1 : Hid (EnvAt (fun _ => True) v1 a0 a1 a2 a3 a4 a5 a6 E) := hT; have V1 : Hid (Below w7.heap.size w7 v1) := step (Below.refl _ _).drew hb; clear hT hb c0 c1 c2 c3 c4 c5 c6 d0 d1 d2 d3 d4 d5 d6; obtain ⟨c0, c1, c2, c3, c4, c5, c6, d0, d1, d2, d3, d4, d5, d6, -⟩ := X7.out.below V1.out)
      | (go_at_call_of 13 (Value.pointer s0); refine (toEnv_any s0 s1 s2 s3 s4 s5 s6 G _ (G7.out.below V1.out)).mono ?_; rintro e v2 ⟨b0, b1, b2, b3, b4, b5, b6, rfl, hT, hb⟩; have U2 : Hid (EnvAt (fun _ => True) v2 b0 b1 b2 b3 b4 b5 b6 G) := hT; have D2 : Hid (Below v1.heap.size v1 v2) := hb; have V2 : Hid (Below w7.heap.size w7 v2) := step V1.out hb; clear hT hb c0 c1 c2 c3 c4 c5 c6 d0 d1 d2 d3 d4 d5 d6; obtain ⟨c0, c1, c2, c3, c4, c5, c6, d0, d1, d2, d3, d4, d5, d6, -⟩ := X7.out.below V2.out)
      | (go_at_call 12; refine (zzcontains_any a0 a1 a2 a3 a4 a5 a6 b0 b1 b2 b3 b4 b5 b6 E G _ (U1.out.below D2.out) U2.out).mono ?_; rintro e v3 ⟨rfl, hb⟩; rw [HR.out]; have V3 : Hid (Below w7.heap.size w7 v3) := step V2.out hb; clear hb c0 c1 c2 c3 c4 c5 c6 d0 d1 d2 d3 d4 d5 d6; obtain ⟨c0, c1, c2, c3, c4, c5, c6, d0, d1, d2, d3, d4, d5, d6, -⟩ := X7.out.below V3.out)
      | (go_at_call 15; refine (overlay_any r0 r1 r2 r3 r4 r5 r6 s0 s1 s2 s3 s4 s5 s6 E G _ (T7.out.below V3.out) (G7.out.below V3.out)).mono ?_; rintro e v4 ⟨x0, x1, x2, x3, x4, x5, x6, rfl, hT, hb⟩; have U4 : Hid (EnvAt (fun _ => True) v4 x0 x1 x2 x3 x4 x5 x6 (overlay E G)) := hT; have V4 : Hid (Below w7.heap.size w7 v4) := step V3.out hb; clear hT hb c0 c1 c2 c3 c4 c5 c6 d0 d1 d2 d3 d4 d5 d6; obtain ⟨c0, c1, c2, c3, c4, c5, c6, d0, d1, d2, d3, d4, d5, d6, -⟩ := X7.out.below V4.out)
      | (go_at_call 14; refine (sameEnv_any x0 x1 x2 x3 x4 x5 x6 r0 r1 r2 r3 r4 r5 r6 (overlay E G) E _ U4.out (T7.out.below V4.out)).mono ?_; rintro e v5 ⟨rfl, hb⟩; rw [← HPL.out]; have V5 : Hid (Below w7.heap.size w7 v5) := step V4.out hb; clear hb c0 c1 c2 c3 c4 c5 c6 d0 d1 d2 d3 d4 d5 d6; obtain ⟨c0, c1, c2, c3, c4, c5, c6, d0, d1, d2, d3, d4, d5, d6, -⟩ := X7.out.below V5.out))
  go_wp2
  go_ret
  exact ⟨ret_bool (by simp), step B7.out V5.out⟩
end Go.Proofs.Qxb6603359a
