/-
  zzCopyEnv, walked.
-/
import Derived.Test.Qxb6603359aEnv1
namespace Go.Proofs.Qxb6603359a
open Go.RowKit
variable {P : Nat → Prop}
attribute [local go_sem ↓] Go.wp_at_zero Go.wp_at_succ

set_option maxHeartbeats 4000000 in
theorem copyEnv_any (q0 q1 q2 q3 q4 q5 q6 : Option Addr) (E : Env) (w : World) (h : EnvAt P w q0 q1 q2 q3 q4 q5 q6 E) (HSM : Hid (small E.cls ∧ small E.ins ∧ small E.grp)) :
    Calls Try.prog 11 #[.agg #[.pointer q0, .pointer q1, .pointer q2, .pointer q3, .pointer q4, .pointer q5, .pointer q6]] w fun e w' =>
      ∃ r0 r1 r2 r3 r4 r5 r6, e = .returned (.agg #[.pointer r0, .pointer r1, .pointer r2, .pointer r3, .pointer r4, .pointer r5, .pointer r6]) ∧ EnvAt (fun b => w.heap.size ≤ b) w' r0 r1 r2 r3 r4 r5 r6 E ∧ Below w.heap.size w w' := by
  have HB0 : Hid (Below w.heap.size w ((w.alloc (.cells #[.pointer q0, .pointer q1, .pointer q2, .pointer q3, .pointer q4, .pointer q5, .pointer q6] 26)).alloc (.cells #[.pointer none, .pointer none, .pointer none, .pointer none, .pointer none, .pointer none, .pointer none] 26))) := boxes26_below w q0 q1 q2 q3 q4 q5 q6
  have HE : Hid (EnvAt (fun b => b < w.heap.size) ((w.alloc (.cells #[.pointer q0, .pointer q1, .pointer q2, .pointer q3, .pointer q4, .pointer q5, .pointer q6] 26)).alloc (.cells #[.pointer none, .pointer none, .pointer none, .pointer none, .pointer none, .pointer none, .pointer none] 26)) q0 q1 q2 q3 q4 q5 q6 E) := h.lt.below HB0.out
  have bx := boxes26 w q0 q1 q2 q3 q4 q5 q6
  clear h
  go_enter Try.func11, Try.ntmps11
  go_wp2
  generalize (w.alloc (.cells #[.pointer q0, .pointer q1, .pointer q2, .pointer q3, .pointer q4, .pointer q5, .pointer q6] 26)).alloc (.cells #[.pointer none, .pointer none, .pointer none, .pointer none, .pointer none, .pointer none, .pointer none] 26) = W at *
  have BX0 : Hid (Boxes W w.heap.size q0 q1 q2 q3 q4 q5 q6) := bx
  obtain ⟨c0, c1, c2, c3, c4, c5, c6, -, -, -, -, -, -, -, -, -, -, -, -, -, -, -⟩ := bx
  have B0 : Hid (Below W.heap.size W W.drew) := (Below.refl _ _).drew
  go_region_held3 (fun w1 => w1.cell? ⟨w.heap.size, 0, none⟩ = some (.pointer q0) ∧ w1.cell? ⟨w.heap.size, 1, none⟩ = some (.pointer q1) ∧ w1.cell? ⟨w.heap.size, 2, none⟩ = some (.pointer q2) ∧ w1.cell? ⟨w.heap.size, 3, none⟩ = some (.pointer q3) ∧ w1.cell? ⟨w.heap.size, 4, none⟩ = some (.pointer q4) ∧ w1.cell? ⟨w.heap.size, 5, none⟩ = some (.pointer q5) ∧ w1.cell? ⟨w.heap.size, 6, none⟩ = some (.pointer q6)) (go_keep)
    (first
      | (go_at_call_of 27 (Value.pointer q0); refine (copyTag_any (.pointer q0) E.cls _ (HE.out.cls.below B0.out) HSM.out.1).mono ?_; rintro e w1 ⟨r0, rfl, hT, hb⟩; have T0 : Hid (TagAt (fun b =>  W.heap.size ≤ b) w1 (.pointer r0) E.cls) := hT; have B1 : Hid (Below W.heap.size W w1) := step B0.out hb; have D1 : Hid (Below W.heap.size W w1) := step B0.out hb; have bx := BX0.out.below B1.out; clear hT hb c0 c1 c2 c3 c4 c5 c6; obtain ⟨c0, c1, c2, c3, c4, c5, c6, -, -, -, -, -, -, -, -, -, -, -, -, -, -, -⟩ := bx)
      | (go_at_call_of 28 (Value.pointer q1); refine (copyStr_any (.pointer q1) E.ven _ (HE.out.ven.below B1.out)).mono ?_; rintro e w2 ⟨r1, rfl, hT, hb⟩; have T1 : Hid (StrAt (fun b =>  w1.heap.size ≤ b) w2 (.pointer r1) E.ven) := hT; have B2 : Hid (Below W.heap.size W w2) := step B1.out hb; have D2 : Hid (Below w1.heap.size w1 w2) := hb; have bx := BX0.out.below B2.out; clear hT hb c0 c1 c2 c3 c4 c5 c6; obtain ⟨c0, c1, c2, c3, c4, c5, c6, -, -, -, -, -, -, -, -, -, -, -, -, -, -, -⟩ := bx)
      | (go_at_call_of 28 (Value.pointer q2); refine (copyStr_any (.pointer q2) E.mdl _ (HE.out.mdl.below B2.out)).mono ?_; rintro e w3 ⟨r2, rfl, hT, hb⟩; have T2 : Hid (StrAt (fun b =>  w2.heap.size ≤ b) w3 (.pointer r2) E.mdl) := hT; have B3 : Hid (Below W.heap.size W w3) := step B2.out hb; have D3 : Hid (Below w2.heap.size w2 w3) := hb; have bx := BX0.out.below B3.out; clear hT hb c0 c1 c2 c3 c4 c5 c6; obtain ⟨c0, c1, c2, c3, c4, c5, c6, -, -, -, -, -, -, -, -, -, -, -, -, -, -, -⟩ := bx)
      | (go_at_call_of 29 (Value.pointer q3); refine (copyNum_any (.pointer q3) E.lay _ (HE.out.lay.below B3.out)).mono ?_; rintro e w4 ⟨r3, rfl, hT, hb⟩; have T3 : Hid (NumAt (fun b =>  w3.heap.size ≤ b) w4 (.pointer r3) E.lay) := hT; have B4 : Hid (Below W.heap.size W w4) := step B3.out hb; have D4 : Hid (Below w3.heap.size w3 w4) := hb; have bx := BX0.out.below B4.out; clear hT hb c0 c1 c2 c3 c4 c5 c6; obtain ⟨c0, c1, c2, c3, c4, c5, c6, -, -, -, -, -, -, -, -, -, -, -, -, -, -, -⟩ := bx)
      | (go_at_call_of 29 (Value.pointer q4); refine (copyNum_any (.pointer q4) E.idx _ (HE.out.idx.below B4.out)).mono ?_; rintro e w5 ⟨r4, rfl, hT, hb⟩; have T4 : Hid (NumAt (fun b =>  w4.heap.size ≤ b) w5 (.pointer r4) E.idx) := hT; have B5 : Hid (Below W.heap.size W w5) := step B4.out hb; have D5 : Hid (Below w4.heap.size w4 w5) := hb; have bx := BX0.out.below B5.out; clear hT hb c0 c1 c2 c3 c4 c5 c6; obtain ⟨c0, c1, c2, c3, c4, c5, c6, -, -, -, -, -, -, -, -, -, -, -, -, -, -, -⟩ := bx)
      | (go_at_call_of 27 (Value.pointer q5); refine (copyTag_any (.pointer q5) E.ins _ (HE.out.ins.below B5.out) HSM.out.2.1).mono ?_; rintro e w6 ⟨r5, rfl, hT, hb⟩; have T5 : Hid (TagAt (fun b =>  w5.heap.size ≤ b) w6 (.pointer r5) E.ins) := hT; have B6 : Hid (Below W.heap.size W w6) := step B5.out hb; have D6 : Hid (Below w5.heap.size w5 w6) := hb; have bx := BX0.out.below B6.out; clear hT hb c0 c1 c2 c3 c4 c5 c6; obtain ⟨c0, c1, c2, c3, c4, c5, c6, -, -, -, -, -, -, -, -, -, -, -, -, -, -, -⟩ := bx)
      | (go_at_call_of 27 (Value.pointer q6); refine (copyTag_any (.pointer q6) E.grp _ (HE.out.grp.below B6.out) HSM.out.2.2).mono ?_; rintro e w7 ⟨r6, rfl, hT, hb⟩; have T6 : Hid (TagAt (fun b =>  w6.heap.size ≤ b) w7 (.pointer r6) E.grp) := hT; have B7 : Hid (Below W.heap.size W w7) := step B6.out hb; have D7 : Hid (Below w6.heap.size w6 w7) := hb; have bx := BX0.out.below B7.out; clear hT hb c0 c1 c2 c3 c4 c5 c6; obtain ⟨c0, c1, c2, c3, c4, c5, c6, z0, z1, z2, z3, z4, z5, z6, f0, f1, f2, f3, f4, f5, f6, hlt⟩ := bx))
  go_wp2
  have HS := ((((((((Stored.refl (w.heap.size + 1) w7).set 0 (.pointer r0)).set 1 (.pointer r1)).set 2 (.pointer r2)).set 3 (.pointer r3)).set 4 (.pointer r4)).set 5 (.pointer r5)).set 6 (.pointer r6))
  have hW := BX0.out.lt
  have F7 : Below w7.heap.size w7 w7 := Below.refl _ _
  have s7 := B7.out.size
  have F6 : Below w6.heap.size w6 w7 := step D7.out F7
  have s6 := B6.out.size
  have F5 : Below w5.heap.size w5 w7 := step D6.out F6
  have s5 := B5.out.size
  have F4 : Below w4.heap.size w4 w7 := step D5.out F5
  have s4 := B4.out.size
  have F3 : Below w3.heap.size w3 w7 := step D4.out F4
  have s3 := B3.out.size
  have F2 : Below w2.heap.size w2 w7 := step D3.out F3
  have s2 := B2.out.size
  have F1 : Below w1.heap.size w1 w7 := step D2.out F2
  have s1 := B1.out.size
  refine bodyPost_ret (v := .agg #[.pointer r0, .pointer r1, .pointer r2, .pointer r3, .pointer r4, .pointer r5, .pointer r6]) (by simp [results, Try.results11, go_sem, *]) rfl ⟨r0, r1, r2, r3, r4, r5, r6, rfl, ⟨T0.out.agree (agree_stored F1 HS (fun b hb => by omega)) (fun b hb => by first | trivial | omega), T1.out.agree (agree_stored F2 HS (fun b hb => by omega)) (fun b hb => by first | trivial | omega), T2.out.agree (agree_stored F3 HS (fun b hb => by omega)) (fun b hb => by first | trivial | omega), T3.out.agree (agree_stored F4 HS (fun b hb => by omega)) (fun b hb => by first | trivial | omega), T4.out.agree (agree_stored F5 HS (fun b hb => by omega)) (fun b hb => by first | trivial | omega), T5.out.agree (agree_stored F6 HS (fun b hb => by omega)) (fun b hb => by first | trivial | omega), T6.out.agree (agree_stored F7 HS (fun b hb => by omega)) (fun b hb => by first | trivial | omega)⟩, (step HB0.out B7.out).trans (HS.2 _ (by omega))⟩

end Go.Proofs.Qxb6603359a
