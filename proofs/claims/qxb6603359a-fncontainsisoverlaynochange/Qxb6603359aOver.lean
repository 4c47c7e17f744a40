/-
  zzOverlay, walked.
-/
import Derived.Test.Qxb6603359aEnv3
import Derived.Deep.DeepCutAuto
namespace Go.Proofs.Qxb6603359a
open Go.RowKit
variable {P Q : Nat → Prop}

/-- Midway: want's box at N + 1, the result's at N + 2, r's at N + 3. -/
structure Ov (w : World) (N : Nat) (p0 p1 p2 p3 p4 p5 p6 x0 x1 x2 x3 x4 x5 x6 : Option Addr) (wc : World) : Prop where
  d0 : wc.cell? ⟨N + 1, 0, none⟩ = some (.pointer p0)
  d1 : wc.cell? ⟨N + 1, 1, none⟩ = some (.pointer p1)
  d2 : wc.cell? ⟨N + 1, 2, none⟩ = some (.pointer p2)
  d3 : wc.cell? ⟨N + 1, 3, none⟩ = some (.pointer p3)
  d4 : wc.cell? ⟨N + 1, 4, none⟩ = some (.pointer p4)
  d5 : wc.cell? ⟨N + 1, 5, none⟩ = some (.pointer p5)
  d6 : wc.cell? ⟨N + 1, 6, none⟩ = some (.pointer p6)
  y0 : wc.cell? ⟨N + 1 + 1 + 1, 0, none⟩ = some (.pointer x0)
  y1 : wc.cell? ⟨N + 1 + 1 + 1, 1, none⟩ = some (.pointer x1)
  y2 : wc.cell? ⟨N + 1 + 1 + 1, 2, none⟩ = some (.pointer x2)
  y3 : wc.cell? ⟨N + 1 + 1 + 1, 3, none⟩ = some (.pointer x3)
  y4 : wc.cell? ⟨N + 1 + 1 + 1, 4, none⟩ = some (.pointer x4)
  y5 : wc.cell? ⟨N + 1 + 1 + 1, 5, none⟩ = some (.pointer x5)
  y6 : wc.cell? ⟨N + 1 + 1 + 1, 6, none⟩ = some (.pointer x6)
  g0 : wc.frozen? ⟨N + 1 + 1 + 1, 0, none⟩ = false
  g1 : wc.frozen? ⟨N + 1 + 1 + 1, 1, none⟩ = false
  g2 : wc.frozen? ⟨N + 1 + 1 + 1, 2, none⟩ = false
  g3 : wc.frozen? ⟨N + 1 + 1 + 1, 3, none⟩ = false
  g4 : wc.frozen? ⟨N + 1 + 1 + 1, 4, none⟩ = false
  g5 : wc.frozen? ⟨N + 1 + 1 + 1, 5, none⟩ = false
  g6 : wc.frozen? ⟨N + 1 + 1 + 1, 6, none⟩ = false
  z0 : wc.cell? ⟨N + 1 + 1, 0, none⟩ = some (.pointer none)
  z1 : wc.cell? ⟨N + 1 + 1, 1, none⟩ = some (.pointer none)
  z2 : wc.cell? ⟨N + 1 + 1, 2, none⟩ = some (.pointer none)
  z3 : wc.cell? ⟨N + 1 + 1, 3, none⟩ = some (.pointer none)
  z4 : wc.cell? ⟨N + 1 + 1, 4, none⟩ = some (.pointer none)
  z5 : wc.cell? ⟨N + 1 + 1, 5, none⟩ = some (.pointer none)
  z6 : wc.cell? ⟨N + 1 + 1, 6, none⟩ = some (.pointer none)
  f0 : wc.frozen? ⟨N + 1 + 1, 0, none⟩ = false
  f1 : wc.frozen? ⟨N + 1 + 1, 1, none⟩ = false
  f2 : wc.frozen? ⟨N + 1 + 1, 2, none⟩ = false
  f3 : wc.frozen? ⟨N + 1 + 1, 3, none⟩ = false
  f4 : wc.frozen? ⟨N + 1 + 1, 4, none⟩ = false
  f5 : wc.frozen? ⟨N + 1 + 1, 5, none⟩ = false
  f6 : wc.frozen? ⟨N + 1 + 1, 6, none⟩ = false
  bl : Below N w wc
  lt : N + 1 + 1 + 1 < wc.heap.size

theorem Ov.set0 {w wc : World} {N : Nat} {p0 p1 p2 p3 p4 p5 p6 x0 x1 x2 x3 x4 x5 x6 : Option Addr} (h : Ov w N p0 p1 p2 p3 p4 p5 p6 x0 x1 x2 x3 x4 x5 x6 wc) (a : Addr) : Ov w N p0 p1 p2 p3 p4 p5 p6 (some a) x1 x2 x3 x4 x5 x6 (wc.setCell ⟨N + 1 + 1 + 1, 0, none⟩ (.pointer (some a))) := by
  obtain ⟨d0, d1, d2, d3, d4, d5, d6, y0, y1, y2, y3, y4, y5, y6, g0, g1, g2, g3, g4, g5, g6, z0, z1, z2, z3, z4, z5, z6, f0, f1, f2, f3, f4, f5, f6, bl, lt⟩ := h
  refine ⟨?_, ?_, ?_, ?_, ?_, ?_, ?_, ?_, ?_, ?_, ?_, ?_, ?_, ?_, ?_, ?_, ?_, ?_, ?_, ?_, ?_, ?_, ?_, ?_, ?_, ?_, ?_, ?_, ?_, ?_, ?_, ?_, ?_, ?_, ?_, bl.setCell (by show N ≤ N + 1 + 1 + 1; omega) _, by simpa [World.setCell] using lt⟩ <;> simp [go_sem, *]
theorem Ov.set1 {w wc : World} {N : Nat} {p0 p1 p2 p3 p4 p5 p6 x0 x1 x2 x3 x4 x5 x6 : Option Addr} (h : Ov w N p0 p1 p2 p3 p4 p5 p6 x0 x1 x2 x3 x4 x5 x6 wc) (a : Addr) : Ov w N p0 p1 p2 p3 p4 p5 p6 x0 (some a) x2 x3 x4 x5 x6 (wc.setCell ⟨N + 1 + 1 + 1, 1, none⟩ (.pointer (some a))) := by
  obtain ⟨d0, d1, d2, d3, d4, d5, d6, y0, y1, y2, y3, y4, y5, y6, g0, g1, g2, g3, g4, g5, g6, z0, z1, z2, z3, z4, z5, z6, f0, f1, f2, f3, f4, f5, f6, bl, lt⟩ := h
  refine ⟨?_, ?_, ?_, ?_, ?_, ?_, ?_, ?_, ?_, ?_, ?_, ?_, ?_, ?_, ?_, ?_, ?_, ?_, ?_, ?_, ?_, ?_, ?_, ?_, ?_, ?_, ?_, ?_, ?_, ?_, ?_, ?_, ?_, ?_, ?_, bl.setCell (by show N ≤ N + 1 + 1 + 1; omega) _, by simpa [World.setCell] using lt⟩ <;> simp [go_sem, *]
theorem Ov.set2 {w wc : World} {N : Nat} {p0 p1 p2 p3 p4 p5 p6 x0 x1 x2 x3 x4 x5 x6 : Option Addr} (h : Ov w N p0 p1 p2 p3 p4 p5 p6 x0 x1 x2 x3 x4 x5 x6 wc) (a : Addr) : Ov w N p0 p1 p2 p3 p4 p5 p6 x0 x1 (some a) x3 x4 x5 x6 (wc.setCell ⟨N + 1 + 1 + 1, 2, none⟩ (.pointer (some a))) := by
  obtain ⟨d0, d1, d2, d3, d4, d5, d6, y0, y1, y2, y3, y4, y5, y6, g0, g1, g2, g3, g4, g5, g6, z0, z1, z2, z3, z4, z5, z6, f0, f1, f2, f3, f4, f5, f6, bl, lt⟩ := h
  refine ⟨?_, ?_, ?_, ?_, ?_, ?_, ?_, ?_, ?_, ?_, ?_, ?_, ?_, ?_, ?_, ?_, ?_, ?_, ?_, ?_, ?_, ?_, ?_, ?_, ?_, ?_, ?_, ?_, ?_, ?_, ?_, ?_, ?_, ?_, ?_, bl.setCell (by show N ≤ N + 1 + 1 + 1; omega) _, by simpa [World.setCell] using lt⟩ <;> simp [go_sem, *]
theorem Ov.set3 {w wc : World} {N : Nat} {p0 p1 p2 p3 p4 p5 p6 x0 x1 x2 x3 x4 x5 x6 : Option Addr} (h : Ov w N p0 p1 p2 p3 p4 p5 p6 x0 x1 x2 x3 x4 x5 x6 wc) (a : Addr) : Ov w N p0 p1 p2 p3 p4 p5 p6 x0 x1 x2 (some a) x4 x5 x6 (wc.setCell ⟨N + 1 + 1 + 1, 3, none⟩ (.pointer (some a))) := by
  obtain ⟨d0, d1, d2, d3, d4, d5, d6, y0, y1, y2, y3, y4, y5, y6, g0, g1, g2, g3, g4, g5, g6, z0, z1, z2, z3, z4, z5, z6, f0, f1, f2, f3, f4, f5, f6, bl, lt⟩ := h
  refine ⟨?_, ?_, ?_, ?_, ?_, ?_, ?_, ?_, ?_, ?_, ?_, ?_, ?_, ?_, ?_, ?_, ?_, ?_, ?_, ?_, ?_, ?_, ?_, ?_, ?_, ?_, ?_, ?_, ?_, ?_, ?_, ?_, ?_, ?_, ?_, bl.setCell (by show N ≤ N + 1 + 1 + 1; omega) _, by simpa [World.setCell] using lt⟩ <;> simp [go_sem, *]
theorem Ov.set4 {w wc : World} {N : Nat} {p0 p1 p2 p3 p4 p5 p6 x0 x1 x2 x3 x4 x5 x6 : Option Addr} (h : Ov w N p0 p1 p2 p3 p4 p5 p6 x0 x1 x2 x3 x4 x5 x6 wc) (a : Addr) : Ov w N p0 p1 p2 p3 p4 p5 p6 x0 x1 x2 x3 (some a) x5 x6 (wc.setCell ⟨N + 1 + 1 + 1, 4, none⟩ (.pointer (some a))) := by
  obtain ⟨d0, d1, d2, d3, d4, d5, d6, y0, y1, y2, y3, y4, y5, y6, g0, g1, g2, g3, g4, g5, g6, z0, z1, z2, z3, z4, z5, z6, f0, f1, f2, f3, f4, f5, f6, bl, lt⟩ := h
  refine ⟨?_, ?_, ?_, ?_, ?_, ?_, ?_, ?_, ?_, ?_, ?_, ?_, ?_, ?_, ?_, ?_, ?_, ?_, ?_, ?_, ?_, ?_, ?_, ?_, ?_, ?_, ?_, ?_, ?_, ?_, ?_, ?_, ?_, ?_, ?_, bl.setCell (by show N ≤ N + 1 + 1 + 1; omega) _, by simpa [World.setCell] using lt⟩ <;> simp [go_sem, *]
theorem Ov.set5 {w wc : World} {N : Nat} {p0 p1 p2 p3 p4 p5 p6 x0 x1 x2 x3 x4 x5 x6 : Option Addr} (h : Ov w N p0 p1 p2 p3 p4 p5 p6 x0 x1 x2 x3 x4 x5 x6 wc) (a : Addr) : Ov w N p0 p1 p2 p3 p4 p5 p6 x0 x1 x2 x3 x4 (some a) x6 (wc.setCell ⟨N + 1 + 1 + 1, 5, none⟩ (.pointer (some a))) := by
  obtain ⟨d0, d1, d2, d3, d4, d5, d6, y0, y1, y2, y3, y4, y5, y6, g0, g1, g2, g3, g4, g5, g6, z0, z1, z2, z3, z4, z5, z6, f0, f1, f2, f3, f4, f5, f6, bl, lt⟩ := h
  refine ⟨?_, ?_, ?_, ?_, ?_, ?_, ?_, ?_, ?_, ?_, ?_, ?_, ?_, ?_, ?_, ?_, ?_, ?_, ?_, ?_, ?_, ?_, ?_, ?_, ?_, ?_, ?_, ?_, ?_, ?_, ?_, ?_, ?_, ?_, ?_, bl.setCell (by show N ≤ N + 1 + 1 + 1; omega) _, by simpa [World.setCell] using lt⟩ <;> simp [go_sem, *]
theorem Ov.set6 {w wc : World} {N : Nat} {p0 p1 p2 p3 p4 p5 p6 x0 x1 x2 x3 x4 x5 x6 : Option Addr} (h : Ov w N p0 p1 p2 p3 p4 p5 p6 x0 x1 x2 x3 x4 x5 x6 wc) (a : Addr) : Ov w N p0 p1 p2 p3 p4 p5 p6 x0 x1 x2 x3 x4 x5 (some a) (wc.setCell ⟨N + 1 + 1 + 1, 6, none⟩ (.pointer (some a))) := by
  obtain ⟨d0, d1, d2, d3, d4, d5, d6, y0, y1, y2, y3, y4, y5, y6, g0, g1, g2, g3, g4, g5, g6, z0, z1, z2, z3, z4, z5, z6, f0, f1, f2, f3, f4, f5, f6, bl, lt⟩ := h
  refine ⟨?_, ?_, ?_, ?_, ?_, ?_, ?_, ?_, ?_, ?_, ?_, ?_, ?_, ?_, ?_, ?_, ?_, ?_, ?_, ?_, ?_, ?_, ?_, ?_, ?_, ?_, ?_, ?_, ?_, ?_, ?_, ?_, ?_, ?_, ?_, bl.setCell (by show N ≤ N + 1 + 1 + 1; omega) _, by simpa [World.setCell] using lt⟩ <;> simp [go_sem, *]

def ov (p q : Option Addr) : Option Addr := match p with | none => q | some a => some a

theorem ov_start (w : World) (q0 q1 q2 q3 q4 q5 q6 p0 p1 p2 p3 p4 p5 p6 : Option Addr) : Ov w w.heap.size p0 p1 p2 p3 p4 p5 p6 q0 q1 q2 q3 q4 q5 q6 ((((w.alloc (.cells #[.pointer q0, .pointer q1, .pointer q2, .pointer q3, .pointer q4, .pointer q5, .pointer q6] 26)).alloc (.cells #[.pointer p0, .pointer p1, .pointer p2, .pointer p3, .pointer p4, .pointer p5, .pointer p6] 26)).alloc (.cells #[.pointer none, .pointer none, .pointer none, .pointer none, .pointer none, .pointer none, .pointer none] 26)).alloc (.cells #[.pointer q0, .pointer q1, .pointer q2, .pointer q3, .pointer q4, .pointer q5, .pointer q6] 26)) := by
  refine ⟨?_, ?_, ?_, ?_, ?_, ?_, ?_, ?_, ?_, ?_, ?_, ?_, ?_, ?_, ?_, ?_, ?_, ?_, ?_, ?_, ?_, ?_, ?_, ?_, ?_, ?_, ?_, ?_, ?_, ?_, ?_, ?_, ?_, ?_, ?_, (((((Below.refl _ _).alloc (Nat.le_refl _) _).alloc (by simp) _).alloc (by simp; omega) _).alloc (by simp; omega) _), by simp⟩ <;> simp [go_sem]

def ovT (p q : Option (Int × List Int)) : Option (Int × List Int) := match p with | none => q | some a => some a
def ovS (p q : Option ByteArray) : Option ByteArray := match p with | none => q | some a => some a
def ovN (p q : Option Int) : Option Int := match p with | none => q | some a => some a
/-- Every attribute that W states is written onto G. -/
def overlay (G W : Env) : Env := ⟨ovT W.cls G.cls, ovS W.ven G.ven, ovS W.mdl G.mdl, ovN W.lay G.lay, ovN W.idx G.idx, ovT W.ins G.ins, ovT W.grp G.grp⟩

theorem ov_tag {w : World} {p q : Option Addr} {t u : Option (Int × List Int)} (h : TagAt P w (.pointer p) t) (h2 : TagAt Q w (.pointer q) u) : TagAt (fun _ => True) w (.pointer (ov p q)) (ovT t u) := by
  cases t with
  | none =>
    have e : p = none := by simpa [TagAt] using h
    subst e
    exact h2.agree (fun _ _ _ => rfl) (fun _ _ => trivial)
  | some t =>
    obtain ⟨b, o, v, hp, -⟩ := id h
    simp only [Value.pointer.injEq] at hp
    subst hp
    exact h.agree (fun _ _ _ => rfl) (fun _ _ => trivial)
theorem ov_str {w : World} {p q : Option Addr} {t u : Option ByteArray} (h : StrAt P w (.pointer p) t) (h2 : StrAt Q w (.pointer q) u) : StrAt (fun _ => True) w (.pointer (ov p q)) (ovS t u) := by
  cases t with
  | none =>
    have e : p = none := by simpa [StrAt] using h
    subst e
    exact h2.agree (fun _ _ _ => rfl) (fun _ _ => trivial)
  | some t =>
    obtain ⟨b, o, hp, -⟩ := id h
    simp only [Value.pointer.injEq] at hp
    subst hp
    exact h.agree (fun _ _ _ => rfl) (fun _ _ => trivial)
theorem ov_num {w : World} {p q : Option Addr} {t u : Option Int} (h : NumAt P w (.pointer p) t) (h2 : NumAt Q w (.pointer q) u) : NumAt (fun _ => True) w (.pointer (ov p q)) (ovN t u) := by
  cases t with
  | none =>
    have e : p = none := by simpa [NumAt] using h
    subst e
    exact h2.agree (fun _ _ _ => rfl) (fun _ _ => trivial)
  | some t =>
    obtain ⟨b, o, hp, -⟩ := id h
    simp only [Value.pointer.injEq] at hp
    subst hp
    exact h.agree (fun _ _ _ => rfl) (fun _ _ => trivial)

set_option maxHeartbeats 4000000 in
theorem overlay_any (q0 q1 q2 q3 q4 q5 q6 p0 p1 p2 p3 p4 p5 p6 : Option Addr) (E G : Env) (w : World) (h : EnvAt P w q0 q1 q2 q3 q4 q5 q6 E) (h2 : EnvAt Q w p0 p1 p2 p3 p4 p5 p6 G) :
    Calls Try.prog 15 #[.agg #[.pointer q0, .pointer q1, .pointer q2, .pointer q3, .pointer q4, .pointer q5, .pointer q6], .agg #[.pointer p0, .pointer p1, .pointer p2, .pointer p3, .pointer p4, .pointer p5, .pointer p6]] w fun e w' =>
      ∃ x0 x1 x2 x3 x4 x5 x6, e = .returned (.agg #[.pointer x0, .pointer x1, .pointer x2, .pointer x3, .pointer x4, .pointer x5, .pointer x6]) ∧ EnvAt (fun _ => True) w' x0 x1 x2 x3 x4 x5 x6 (overlay E G) ∧ Below w.heap.size w w' := by
  have HE : Hid (EnvAt P w q0 q1 q2 q3 q4 q5 q6 E ∧ EnvAt Q w p0 p1 p2 p3 p4 p5 p6 G) := ⟨h, h2⟩
  clear h h2
  have st := ov_start w q0 q1 q2 q3 q4 q5 q6 p0 p1 p2 p3 p4 p5 p6
  go_enter Try.func15, Try.ntmps15
  go_upto_if 9 with (fail)
  generalize ((((w.alloc (.cells #[.pointer q0, .pointer q1, .pointer q2, .pointer q3, .pointer q4, .pointer q5, .pointer q6] 26)).alloc (.cells #[.pointer p0, .pointer p1, .pointer p2, .pointer p3, .pointer p4, .pointer p5, .pointer p6] 26)).alloc (.cells #[.pointer none, .pointer none, .pointer none, .pointer none, .pointer none, .pointer none, .pointer none] 26)).alloc (.cells #[.pointer q0, .pointer q1, .pointer q2, .pointer q3, .pointer q4, .pointer q5, .pointer q6] 26)) = W0 at *
  have HO0 : Hid (Ov w w.heap.size p0 p1 p2 p3 p4 p5 p6 q0 q1 q2 q3 q4 q5 q6 W0) := st
  clear st
  obtain ⟨d0, d1, d2, d3, d4, d5, d6, y0, y1, y2, y3, y4, y5, y6, g0, g1, g2, g3, g4, g5, g6, z0, z1, z2, z3, z4, z5, z6, f0, f1, f2, f3, f4, f5, f6, -, -⟩ := HO0.out
  go_cut [] (fun wc => Hid (Ov w w.heap.size p0 p1 p2 p3 p4 p5 p6 (ov p0 q0) q1 q2 q3 q4 q5 q6 wc))
  case first =>
    cases p0 with
    | none =>
      go_wp2
      go_meet
      case rel => exact HO0.out
    | some a =>
      go_wp2
      go_meet
      case rel => exact HO0.out.set0 a
  clear d0 d1 d2 d3 d4 d5 d6 y0 y1 y2 y3 y4 y5 y6 g0 g1 g2 g3 g4 g5 g6 z0 z1 z2 z3 z4 z5 z6 f0 f1 f2 f3 f4 f5 f6 HO0
  case rest =>
  have HO1 : Hid (Ov w w.heap.size p0 p1 p2 p3 p4 p5 p6 (ov p0 q0) q1 q2 q3 q4 q5 q6 wc) := hcut
  clear hcut
  obtain ⟨d0, d1, d2, d3, d4, d5, d6, y0, y1, y2, y3, y4, y5, y6, g0, g1, g2, g3, g4, g5, g6, z0, z1, z2, z3, z4, z5, z6, f0, f1, f2, f3, f4, f5, f6, -, -⟩ := HO1.out
  go_upto_if 15 with (fail)
  go_cut [] (fun wc => Hid (Ov w w.heap.size p0 p1 p2 p3 p4 p5 p6 (ov p0 q0) (ov p1 q1) q2 q3 q4 q5 q6 wc))
  case first =>
    cases p1 with
    | none =>
      go_wp2
      go_meet
      case rel => exact HO1.out
    | some a =>
      go_wp2
      go_meet
      case rel => exact HO1.out.set1 a
  clear d0 d1 d2 d3 d4 d5 d6 y0 y1 y2 y3 y4 y5 y6 g0 g1 g2 g3 g4 g5 g6 z0 z1 z2 z3 z4 z5 z6 f0 f1 f2 f3 f4 f5 f6 HO1
  case rest =>
  have HO2 : Hid (Ov w w.heap.size p0 p1 p2 p3 p4 p5 p6 (ov p0 q0) (ov p1 q1) q2 q3 q4 q5 q6 wc) := hcut
  clear hcut
  obtain ⟨d0, d1, d2, d3, d4, d5, d6, y0, y1, y2, y3, y4, y5, y6, g0, g1, g2, g3, g4, g5, g6, z0, z1, z2, z3, z4, z5, z6, f0, f1, f2, f3, f4, f5, f6, -, -⟩ := HO2.out
  go_upto_if 21 with (fail)
  go_cut [] (fun wc => Hid (Ov w w.heap.size p0 p1 p2 p3 p4 p5 p6 (ov p0 q0) (ov p1 q1) (ov p2 q2) q3 q4 q5 q6 wc))
  case first =>
    cases p2 with
    | none =>
      go_wp2
      go_meet
      case rel => exact HO2.out
    | some a =>
      go_wp2
      go_meet
      case rel => exact HO2.out.set2 a
  clear d0 d1 d2 d3 d4 d5 d6 y0 y1 y2 y3 y4 y5 y6 g0 g1 g2 g3 g4 g5 g6 z0 z1 z2 z3 z4 z5 z6 f0 f1 f2 f3 f4 f5 f6 HO2
  case rest =>
  have HO3 : Hid (Ov w w.heap.size p0 p1 p2 p3 p4 p5 p6 (ov p0 q0) (ov p1 q1) (ov p2 q2) q3 q4 q5 q6 wc) := hcut
  clear hcut
  obtain ⟨d0, d1, d2, d3, d4, d5, d6, y0, y1, y2, y3, y4, y5, y6, g0, g1, g2, g3, g4, g5, g6, z0, z1, z2, z3, z4, z5, z6, f0, f1, f2, f3, f4, f5, f6, -, -⟩ := HO3.out
  go_upto_if 27 with (fail)
  go_cut [] (fun wc => Hid (Ov w w.heap.size p0 p1 p2 p3 p4 p5 p6 (ov p0 q0) (ov p1 q1) (ov p2 q2) (ov p3 q3) q4 q5 q6 wc))
  case first =>
    cases p3 with
    | none =>
      go_wp2
      go_meet
      case rel => exact HO3.out
    | some a =>
      go_wp2
      go_meet
      case rel => exact HO3.out.set3 a
  clear d0 d1 d2 d3 d4 d5 d6 y0 y1 y2 y3 y4 y5 y6 g0 g1 g2 g3 g4 g5 g6 z0 z1 z2 z3 z4 z5 z6 f0 f1 f2 f3 f4 f5 f6 HO3
  case rest =>
  have HO4 : Hid (Ov w w.heap.size p0 p1 p2 p3 p4 p5 p6 (ov p0 q0) (ov p1 q1) (ov p2 q2) (ov p3 q3) q4 q5 q6 wc) := hcut
  clear hcut
  obtain ⟨d0, d1, d2, d3, d4, d5, d6, y0, y1, y2, y3, y4, y5, y6, g0, g1, g2, g3, g4, g5, g6, z0, z1, z2, z3, z4, z5, z6, f0, f1, f2, f3, f4, f5, f6, -, -⟩ := HO4.out
  go_upto_if 33 with (fail)
  go_cut [] (fun wc => Hid (Ov w w.heap.size p0 p1 p2 p3 p4 p5 p6 (ov p0 q0) (ov p1 q1) (ov p2 q2) (ov p3 q3) (ov p4 q4) q5 q6 wc))
  case first =>
    cases p4 with
    | none =>
      go_wp2
      go_meet
      case rel => exact HO4.out
    | some a =>
      go_wp2
      go_meet
      case rel => exact HO4.out.set4 a
  clear d0 d1 d2 d3 d4 d5 d6 y0 y1 y2 y3 y4 y5 y6 g0 g1 g2 g3 g4 g5 g6 z0 z1 z2 z3 z4 z5 z6 f0 f1 f2 f3 f4 f5 f6 HO4
  case rest =>
  have HO5 : Hid (Ov w w.heap.size p0 p1 p2 p3 p4 p5 p6 (ov p0 q0) (ov p1 q1) (ov p2 q2) (ov p3 q3) (ov p4 q4) q5 q6 wc) := hcut
  clear hcut
  obtain ⟨d0, d1, d2, d3, d4, d5, d6, y0, y1, y2, y3, y4, y5, y6, g0, g1, g2, g3, g4, g5, g6, z0, z1, z2, z3, z4, z5, z6, f0, f1, f2, f3, f4, f5, f6, -, -⟩ := HO5.out
  go_upto_if 39 with (fail)
  go_cut [] (fun wc => Hid (Ov w w.heap.size p0 p1 p2 p3 p4 p5 p6 (ov p0 q0) (ov p1 q1) (ov p2 q2) (ov p3 q3) (ov p4 q4) (ov p5 q5) q6 wc))
  case first =>
    cases p5 with
    | none =>
      go_wp2
      go_meet
      case rel => exact HO5.out
    | some a =>
      go_wp2
      go_meet
      case rel => exact HO5.out.set5 a
  clear d0 d1 d2 d3 d4 d5 d6 y0 y1 y2 y3 y4 y5 y6 g0 g1 g2 g3 g4 g5 g6 z0 z1 z2 z3 z4 z5 z6 f0 f1 f2 f3 f4 f5 f6 HO5
  case rest =>
  have HO6 : Hid (Ov w w.heap.size p0 p1 p2 p3 p4 p5 p6 (ov p0 q0) (ov p1 q1) (ov p2 q2) (ov p3 q3) (ov p4 q4) (ov p5 q5) q6 wc) := hcut
  clear hcut
  obtain ⟨d0, d1, d2, d3, d4, d5, d6, y0, y1, y2, y3, y4, y5, y6, g0, g1, g2, g3, g4, g5, g6, z0, z1, z2, z3, z4, z5, z6, f0, f1, f2, f3, f4, f5, f6, -, -⟩ := HO6.out
  go_upto_if 45 with (fail)
  go_cut [] (fun wc => Hid (Ov w w.heap.size p0 p1 p2 p3 p4 p5 p6 (ov p0 q0) (ov p1 q1) (ov p2 q2) (ov p3 q3) (ov p4 q4) (ov p5 q5) (ov p6 q6) wc))
  case first =>
    cases p6 with
    | none =>
      go_wp2
      go_meet
      case rel => exact HO6.out
    | some a =>
      go_wp2
      go_meet
      case rel => exact HO6.out.set6 a
  clear d0 d1 d2 d3 d4 d5 d6 y0 y1 y2 y3 y4 y5 y6 g0 g1 g2 g3 g4 g5 g6 z0 z1 z2 z3 z4 z5 z6 f0 f1 f2 f3 f4 f5 f6 HO6
  case rest =>
  have HO7 : Hid (Ov w w.heap.size p0 p1 p2 p3 p4 p5 p6 (ov p0 q0) (ov p1 q1) (ov p2 q2) (ov p3 q3) (ov p4 q4) (ov p5 q5) (ov p6 q6) wc) := hcut
  clear hcut
  obtain ⟨d0, d1, d2, d3, d4, d5, d6, y0, y1, y2, y3, y4, y5, y6, g0, g1, g2, g3, g4, g5, g6, z0, z1, z2, z3, z4, z5, z6, f0, f1, f2, f3, f4, f5, f6, -, -⟩ := HO7.out
  go_wp2
  have HS := ((((((((Stored.refl (w.heap.size + 1 + 1) wc).set 0 (.pointer (ov p0 q0))).set 1 (.pointer (ov p1 q1))).set 2 (.pointer (ov p2 q2))).set 3 (.pointer (ov p3 q3))).set 4 (.pointer (ov p4 q4))).set 5 (.pointer (ov p5 q5))).set 6 (.pointer (ov p6 q6)))
  have BL := HO7.out.bl.trans (HS.2 w.heap.size (by omega))
  have HA := HE.out.1.below BL
  have HG := HE.out.2.below BL
  exact bodyPost_ret (v := .agg #[.pointer (ov p0 q0), .pointer (ov p1 q1), .pointer (ov p2 q2), .pointer (ov p3 q3), .pointer (ov p4 q4), .pointer (ov p5 q5), .pointer (ov p6 q6)]) (by simp [results, Try.results15, go_sem, *]) rfl ⟨_, _, _, _, _, _, _, rfl, ⟨ov_tag HG.cls HA.cls, ov_str HG.ven HA.ven, ov_str HG.mdl HA.mdl, ov_num HG.lay HA.lay, ov_num HG.idx HA.idx, ov_tag HG.ins HA.ins, ov_tag HG.grp HA.grp⟩, BL⟩
end Go.Proofs.Qxb6603359a
