/-
  zzToEnv, zzCopyEnv, walked.
-/
import Derived.Test.Qxb6603359aSize
namespace Go.Proofs.Qxb6603359a
open Go.RowKit
variable {P : Nat → Prop}
attribute [local go_sem ↓] Go.wp_at_zero Go.wp_at_succ

theorem step {w w1 w2 : World} (h : Below w.heap.size w w1) (k : Below w1.heap.size w1 w2) : Below w.heap.size w w2 := h.trans (k.mono h.size)

/-- Seven stores into one block: every other block is as it was. -/
def Stored (g : Nat) (w w' : World) : Prop := (∀ b, b ≠ g → w'.heap[b]? = w.heap[b]?) ∧ ∀ B, B ≤ g → Below B w w'
theorem Stored.refl (g : Nat) (w : World) : Stored g w w := ⟨fun _ _ => rfl, fun _ _ => Below.refl _ _⟩
theorem Stored.set {g : Nat} {w w' : World} (h : Stored g w w') (i : Nat) (v : Value) : Stored g w (w'.setCell ⟨g, i, none⟩ v) :=
  ⟨fun b hb => (Below.heap_setCell _ _ _ _ hb).trans (h.1 b hb), fun B hB => (h.2 B hB).setCell (p := ⟨g, i, none⟩) hB v⟩
theorem agree_stored {g : Nat} {w w1 w2 : World} (hb : Below w.heap.size w w1) (hs : Stored g w1 w2) (hp : ∀ b, P b → b ≠ g) : Agree P w w2 :=
  fun b h hlt => (hs.1 b (hp b h)).trans (hb.block b hlt)

/-- The box of an environment at block N, and a fresh one for the result behind it. -/
structure Boxes (w : World) (N : Nat) (q0 q1 q2 q3 q4 q5 q6 : Option Addr) : Prop where
  c0 : w.cell? ⟨N, 0, none⟩ = some (.pointer q0)
  c1 : w.cell? ⟨N, 1, none⟩ = some (.pointer q1)
  c2 : w.cell? ⟨N, 2, none⟩ = some (.pointer q2)
  c3 : w.cell? ⟨N, 3, none⟩ = some (.pointer q3)
  c4 : w.cell? ⟨N, 4, none⟩ = some (.pointer q4)
  c5 : w.cell? ⟨N, 5, none⟩ = some (.pointer q5)
  c6 : w.cell? ⟨N, 6, none⟩ = some (.pointer q6)
  z0 : w.cell? ⟨N + 1, 0, none⟩ = some (.pointer none)
  z1 : w.cell? ⟨N + 1, 1, none⟩ = some (.pointer none)
  z2 : w.cell? ⟨N + 1, 2, none⟩ = some (.pointer none)
  z3 : w.cell? ⟨N + 1, 3, none⟩ = some (.pointer none)
  z4 : w.cell? ⟨N + 1, 4, none⟩ = some (.pointer none)
  z5 : w.cell? ⟨N + 1, 5, none⟩ = some (.pointer none)
  z6 : w.cell? ⟨N + 1, 6, none⟩ = some (.pointer none)
  f0 : w.frozen? ⟨N + 1, 0, none⟩ = false
  f1 : w.frozen? ⟨N + 1, 1, none⟩ = false
  f2 : w.frozen? ⟨N + 1, 2, none⟩ = false
  f3 : w.frozen? ⟨N + 1, 3, none⟩ = false
  f4 : w.frozen? ⟨N + 1, 4, none⟩ = false
  f5 : w.frozen? ⟨N + 1, 5, none⟩ = false
  f6 : w.frozen? ⟨N + 1, 6, none⟩ = false
  lt : N + 1 < w.heap.size

theorem Boxes.below {w w1 : World} {N : Nat} {q0 q1 q2 q3 q4 q5 q6 : Option Addr} (h : Boxes w N q0 q1 q2 q3 q4 q5 q6) (hb : Below w.heap.size w w1) : Boxes w1 N q0 q1 q2 q3 q4 q5 q6 :=
  ⟨keep hb h.c0, keep hb h.c1, keep hb h.c2, keep hb h.c3, keep hb h.c4, keep hb h.c5, keep hb h.c6, keep hb h.z0, keep hb h.z1, keep hb h.z2, keep hb h.z3, keep hb h.z4, keep hb h.z5, keep hb h.z6, (hb.frozen (p := ⟨N + 1, 0, none⟩) h.lt).trans h.f0, (hb.frozen (p := ⟨N + 1, 1, none⟩) h.lt).trans h.f1, (hb.frozen (p := ⟨N + 1, 2, none⟩) h.lt).trans h.f2, (hb.frozen (p := ⟨N + 1, 3, none⟩) h.lt).trans h.f3, (hb.frozen (p := ⟨N + 1, 4, none⟩) h.lt).trans h.f4, (hb.frozen (p := ⟨N + 1, 5, none⟩) h.lt).trans h.f5, (hb.frozen (p := ⟨N + 1, 6, none⟩) h.lt).trans h.f6, Nat.lt_of_lt_of_le h.lt hb.size⟩

theorem boxes34 (w : World) (q0 q1 q2 q3 q4 q5 q6 : Option Addr) : Boxes ((w.alloc (.cells #[.pointer q0, .pointer q1, .pointer q2, .pointer q3, .pointer q4, .pointer q5, .pointer q6] 26)).alloc (.cells #[.pointer none, .pointer none, .pointer none, .pointer none, .pointer none, .pointer none, .pointer none] 34)) w.heap.size q0 q1 q2 q3 q4 q5 q6 := by
  constructor <;> simp [go_sem]
theorem boxes34_below (w : World) (q0 q1 q2 q3 q4 q5 q6 : Option Addr) : Below w.heap.size w ((w.alloc (.cells #[.pointer q0, .pointer q1, .pointer q2, .pointer q3, .pointer q4, .pointer q5, .pointer q6] 26)).alloc (.cells #[.pointer none, .pointer none, .pointer none, .pointer none, .pointer none, .pointer none, .pointer none] 34)) := ((Below.refl _ _).alloc (Nat.le_refl _) _).alloc (by simp) _

theorem boxes26 (w : World) (q0 q1 q2 q3 q4 q5 q6 : Option Addr) : Boxes ((w.alloc (.cells #[.pointer q0, .pointer q1, .pointer q2, .pointer q3, .pointer q4, .pointer q5, .pointer q6] 26)).alloc (.cells #[.pointer none, .pointer none, .pointer none, .pointer none, .pointer none, .pointer none, .pointer none] 26)) w.heap.size q0 q1 q2 q3 q4 q5 q6 := by
  constructor <;> simp [go_sem]
theorem boxes26_below (w : World) (q0 q1 q2 q3 q4 q5 q6 : Option Addr) : Below w.heap.size w ((w.alloc (.cells #[.pointer q0, .pointer q1, .pointer q2, .pointer q3, .pointer q4, .pointer q5, .pointer q6] 26)).alloc (.cells #[.pointer none, .pointer none, .pointer none, .pointer none, .pointer none, .pointer none, .pointer none] 26)) := ((Below.refl _ _).alloc (Nat.le_refl _) _).alloc (by simp) _

set_option maxHeartbeats 4000000 in
theorem toEnv_any (q0 q1 q2 q3 q4 q5 q6 : Option Addr) (E : Env) (w : World) (h : EnvAt P w q0 q1 q2 q3 q4 q5 q6 E) :
    Calls Try.prog 13 #[.agg #[.pointer q0, .pointer q1, .pointer q2, .pointer q3, .pointer q4, .pointer q5, .pointer q6]] w fun e w' =>
      ∃ r0 r1 r2 r3 r4 r5 r6, e = .returned (.agg #[.pointer r0, .pointer r1, .pointer r2, .pointer r3, .pointer r4, .pointer r5, .pointer r6]) ∧ EnvAt (fun _ => True) w' r0 r1 r2 r3 r4 r5 r6 E ∧ Below w.heap.size w w' := by
  have HB0 : Hid (Below w.heap.size w ((w.alloc (.cells #[.pointer q0, .pointer q1, .pointer q2, .pointer q3, .pointer q4, .pointer q5, .pointer q6] 26)).alloc (.cells #[.pointer none, .pointer none, .pointer none, .pointer none, .pointer none, .pointer none, .pointer none] 34))) := boxes34_below w q0 q1 q2 q3 q4 q5 q6
  have HE : Hid (EnvAt (fun b => b < w.heap.size) ((w.alloc (.cells #[.pointer q0, .pointer q1, .pointer q2, .pointer q3, .pointer q4, .pointer q5, .pointer q6] 26)).alloc (.cells #[.pointer none, .pointer none, .pointer none, .pointer none, .pointer none, .pointer none, .pointer none] 34)) q0 q1 q2 q3 q4 q5 q6 E) := h.lt.below HB0.out
  have bx := boxes34 w q0 q1 q2 q3 q4 q5 q6
  clear h
  go_enter Try.func13, Try.ntmps13
  go_wp2
  generalize (w.alloc (.cells #[.pointer q0, .pointer q1, .pointer q2, .pointer q3, .pointer q4, .pointer q5, .pointer q6] 26)).alloc (.cells #[.pointer none, .pointer none, .pointer none, .pointer none, .pointer none, .pointer none, .pointer none] 34) = W at *
  have BX0 : Hid (Boxes W w.heap.size q0 q1 q2 q3 q4 q5 q6) := bx
  obtain ⟨c0, c1, c2, c3, c4, c5, c6, -, -, -, -, -, -, -, -, -, -, -, -, -, -, -⟩ := bx
  have B0 : Hid (Below W.heap.size W W.drew) := (Below.refl _ _).drew
  go_region_held3 (fun w1 => w1.cell? ⟨w.heap.size, 0, none⟩ = some (.pointer q0) ∧ w1.cell? ⟨w.heap.size, 1, none⟩ = some (.pointer q1) ∧ w1.cell? ⟨w.heap.size, 2, none⟩ = some (.pointer q2) ∧ w1.cell? ⟨w.heap.size, 3, none⟩ = some (.pointer q3) ∧ w1.cell? ⟨w.heap.size, 4, none⟩ = some (.pointer q4) ∧ w1.cell? ⟨w.heap.size, 5, none⟩ = some (.pointer q5) ∧ w1.cell? ⟨w.heap.size, 6, none⟩ = some (.pointer q6)) (go_keep)
    (first
      | (go_at_call_of 31 (Value.pointer q0); refine (toTag_any (.pointer q0) E.cls _ (HE.out.cls.below B0.out)).mono ?_; rintro e w1 ⟨r0, rfl, hT, hb⟩; have T0 : Hid (TagAt (fun b => b < w.heap.size ∨ W.heap.size ≤ b) w1 (.pointer r0) E.cls) := hT; have B1 : Hid (Below W.heap.size W w1) := step B0.out hb; have D1 : Hid (Below W.heap.size W w1) := step B0.out hb; have bx := BX0.out.below B1.out; clear hT hb c0 c1 c2 c3 c4 c5 c6; obtain ⟨c0, c1, c2, c3, c4, c5, c6, -, -, -, -, -, -, -, -, -, -, -, -, -, -, -⟩ := bx)
      | (go_at_call_of 31 (Value.pointer q5); refine (toTag_any (.pointer q5) E.ins _ (HE.out.ins.below B1.out)).mono ?_; rintro e w2 ⟨r5, rfl, hT, hb⟩; have T5 : Hid (TagAt (fun b => b < w.heap.size ∨ w1.heap.size ≤ b) w2 (.pointer r5) E.ins) := hT; have B2 : Hid (Below W.heap.size W w2) := step B1.out hb; have D2 : Hid (Below w1.heap.size w1 w2) := hb; have bx := BX0.out.below B2.out; clear hT hb c0 c1 c2 c3 c4 c5 c6; obtain ⟨c0, c1, c2, c3, c4, c5, c6, -, -, -, -, -, -, -, -, -, -, -, -, -, -, -⟩ := bx)
      | (go_at_call_of 31 (Value.pointer q6); refine (toTag_any (.pointer q6) E.grp _ (HE.out.grp.below B2.out)).mono ?_; rintro e w3 ⟨r6, rfl, hT, hb⟩; have T6 : Hid (TagAt (fun b => b < w.heap.size ∨ w2.heap.size ≤ b) w3 (.pointer r6) E.grp) := hT; have B3 : Hid (Below W.heap.size W w3) := step B2.out hb; have D3 : Hid (Below w2.heap.size w2 w3) := hb; have bx := BX0.out.below B3.out; clear hT hb c0 c1 c2 c3 c4 c5 c6; obtain ⟨c0, c1, c2, c3, c4, c5, c6, z0, z1, z2, z3, z4, z5, z6, f0, f1, f2, f3, f4, f5, f6, hlt⟩ := bx))
  go_wp2
  have HS := ((((((((Stored.refl (w.heap.size + 1) w3).set 0 (.pointer r0)).set 1 (.pointer q1)).set 2 (.pointer q2)).set 3 (.pointer q3)).set 4 (.pointer q4)).set 5 (.pointer r5)).set 6 (.pointer r6))
  have hW := BX0.out.lt
  have F3 : Below w3.heap.size w3 w3 := Below.refl _ _
  have s3 := B3.out.size
  have F2 : Below w2.heap.size w2 w3 := step D3.out F3
  have s2 := B2.out.size
  have F1 : Below w1.heap.size w1 w3 := step D2.out F2
  have s1 := B1.out.size
  refine bodyPost_ret (v := .agg #[.pointer r0, .pointer q1, .pointer q2, .pointer q3, .pointer q4, .pointer r5, .pointer r6]) (by simp [results, Try.results13, go_sem, *]) rfl ⟨r0, q1, q2, q3, q4, r5, r6, rfl, ⟨T0.out.agree (agree_stored F1 HS (fun b hb => by omega)) (fun b hb => by first | trivial | omega), HE.out.ven.agree (agree_stored B3.out HS (fun b hb => by omega)) (fun b hb => by first | trivial | omega), HE.out.mdl.agree (agree_stored B3.out HS (fun b hb => by omega)) (fun b hb => by first | trivial | omega), HE.out.lay.agree (agree_stored B3.out HS (fun b hb => by omega)) (fun b hb => by first | trivial | omega), HE.out.idx.agree (agree_stored B3.out HS (fun b hb => by omega)) (fun b hb => by first | trivial | omega), T5.out.agree (agree_stored F2 HS (fun b hb => by omega)) (fun b hb => by first | trivial | omega), T6.out.agree (agree_stored F3 HS (fun b hb => by omega)) (fun b hb => by first | trivial | omega)⟩, (step HB0.out B3.out).trans (HS.2 _ (by omega))⟩

end Go.Proofs.Qxb6603359a
