/-
  zzBytes, walked: it answers.
-/
import Derived.Test.Qxb6603359aOver
namespace Go.Proofs.Qxb6603359a
open Go.RowKit
variable {P Q : Nat → Prop}

def SaysB (w : World) (e : Ending) (w' : World) : Prop := (∃ r, e = .returned (.bool r)) ∧ Below w.heap.size w w'

set_option maxRecDepth 100000 in
set_option maxHeartbeats 8000000 in
theorem bytes_any (q0 q1 q2 q3 q4 q5 q6 p0 p1 p2 p3 p4 p5 p6 : Option Addr) (E G : Env) (w : World) (h : EnvAt P w q0 q1 q2 q3 q4 q5 q6 E) (h2 : EnvAt Q w p0 p1 p2 p3 p4 p5 p6 G) :
    Calls Try.prog 8 #[.agg #[.pointer q0, .pointer q1, .pointer q2, .pointer q3, .pointer q4, .pointer q5, .pointer q6], .agg #[.pointer p0, .pointer p1, .pointer p2, .pointer p3, .pointer p4, .pointer p5, .pointer p6]] w (SaysB w) := by
  have HB0 : Hid (Below w.heap.size w ((w.alloc (.cells #[.pointer q0, .pointer q1, .pointer q2, .pointer q3, .pointer q4, .pointer q5, .pointer q6] 26)).alloc (.cells #[.pointer p0, .pointer p1, .pointer p2, .pointer p3, .pointer p4, .pointer p5, .pointer p6] 26))) := two_below w 26 q0 q1 q2 q3 q4 q5 q6 p0 p1 p2 p3 p4 p5 p6
  have HE : Hid (EnvAt P ((w.alloc (.cells #[.pointer q0, .pointer q1, .pointer q2, .pointer q3, .pointer q4, .pointer q5, .pointer q6] 26)).alloc (.cells #[.pointer p0, .pointer p1, .pointer p2, .pointer p3, .pointer p4, .pointer p5, .pointer p6] 26)) q0 q1 q2 q3 q4 q5 q6 E ∧ EnvAt Q ((w.alloc (.cells #[.pointer q0, .pointer q1, .pointer q2, .pointer q3, .pointer q4, .pointer q5, .pointer q6] 26)).alloc (.cells #[.pointer p0, .pointer p1, .pointer p2, .pointer p3, .pointer p4, .pointer p5, .pointer p6] 26)) p0 p1 p2 p3 p4 p5 p6 G) := ⟨h.below HB0.out, h2.below HB0.out⟩
  have bx := two_of w 26 q0 q1 q2 q3 q4 q5 q6 p0 p1 p2 p3 p4 p5 p6
  clear h h2
  go_enter Try.func8, Try.ntmps8
  go_upto_if 8 with (fail)
  generalize (w.alloc (.cells #[.pointer q0, .pointer q1, .pointer q2, .pointer q3, .pointer q4, .pointer q5, .pointer q6] 26)).alloc (.cells #[.pointer p0, .pointer p1, .pointer p2, .pointer p3, .pointer p4, .pointer p5, .pointer p6] 26) = W at *
  have BX0 : Hid (Two W w.heap.size q0 q1 q2 q3 q4 q5 q6 p0 p1 p2 p3 p4 p5 p6) := bx
  clear bx
  obtain ⟨c0, c1, c2, c3, c4, c5, c6, d0, d1, d2, d3, d4, d5, d6, -⟩ := BX0.out
  have hz0 : (0 : Int) ≤ 0 := by omega
  clear c1 c2 c3 c4 c5 c6 d0 d1 d2 d3 d4 d5 d6
  go_cut [5] (fun s wc => ∃ z : Int, s = .int .i64 z ∧ 0 ≤ z ∧ z ≤ 1048576 ∧ W = wc)
  case first => as_aux_lemma =>
    have hf := HE.out.1.cls
    clear HE
    cases hE : E.cls with
    | none =>
      rw [hE] at hf
      have e : q0 = none := by simpa [TagAt, StrAt] using hf
      clear hf hE
      subst e
      go_wp2
      go_meet
      case rel => exact ⟨_, rfl, by omega, by omega, rfl⟩
    | some t =>
      rw [hE] at hf
      clear hE
      obtain ⟨b, o', v, hp, -, h1, h2, a, c, rfl, hn, -⟩ := hf
      simp only [Value.pointer.injEq] at hp
      subst hp
      generalize t.2.length = n at *
      clear h1
      go_wp2
      · go_ret
        exact ⟨⟨_, rfl⟩, HB0.out⟩
      · go_meet
        case rel => exact ⟨_, rfl, by omega, by omega, rfl⟩
  case rest => as_aux_lemma =>
  obtain ⟨z, rfl, hz0, hz1, rfl⟩ := hcut
  obtain ⟨c0, c1, c2, c3, c4, c5, c6, d0, d1, d2, d3, d4, d5, d6, -⟩ := BX0.out
  go_upto_if 28 with (fail)
  clear c0 c2 c3 c4 c5 c6 d0 d1 d2 d3 d4 d5 d6
  go_cut [5] (fun s wc => ∃ z : Int, s = .int .i64 z ∧ 0 ≤ z ∧ z ≤ 1048576 ∧ W = wc)
  case first => as_aux_lemma =>
    have hf := HE.out.1.ven
    clear HE
    cases hE : E.ven with
    | none =>
      rw [hE] at hf
      have e : q1 = none := by simpa [TagAt, StrAt] using hf
      clear hf hE
      subst e
      go_wp2
      go_meet
      case rel => exact ⟨_, rfl, by omega, by omega, rfl⟩
    | some t =>
      rw [hE] at hf
      clear hE
      obtain ⟨b, o', hp, -, h1, hn⟩ := hf
      simp only [Value.pointer.injEq] at hp
      subst hp
      go_wp2
      · go_ret
        exact ⟨⟨_, rfl⟩, HB0.out⟩
      · go_ret
        exact ⟨⟨_, rfl⟩, HB0.out⟩
      · go_meet
        case rel => exact ⟨_, rfl, by omega, by omega, rfl⟩
  case rest => as_aux_lemma =>
  obtain ⟨z, rfl, hz0, hz1, rfl⟩ := hcut
  obtain ⟨c0, c1, c2, c3, c4, c5, c6, d0, d1, d2, d3, d4, d5, d6, -⟩ := BX0.out
  go_upto_if 46 with (fail)
  clear c0 c1 c3 c4 c5 c6 d0 d1 d2 d3 d4 d5 d6
  go_cut [5] (fun s wc => ∃ z : Int, s = .int .i64 z ∧ 0 ≤ z ∧ z ≤ 1048576 ∧ W = wc)
  case first => as_aux_lemma =>
    have hf := HE.out.1.mdl
    clear HE
    cases hE : E.mdl with
    | none =>
      rw [hE] at hf
      have e : q2 = none := by simpa [TagAt, StrAt] using hf
      clear hf hE
      subst e
      go_wp2
      go_meet
      case rel => exact ⟨_, rfl, by omega, by omega, rfl⟩
    | some t =>
      rw [hE] at hf
      clear hE
      obtain ⟨b, o', hp, -, h1, hn⟩ := hf
      simp only [Value.pointer.injEq] at hp
      subst hp
      go_wp2
      · go_ret
        exact ⟨⟨_, rfl⟩, HB0.out⟩
      · go_ret
        exact ⟨⟨_, rfl⟩, HB0.out⟩
      · go_meet
        case rel => exact ⟨_, rfl, by omega, by omega, rfl⟩
  case rest => as_aux_lemma =>
  obtain ⟨z, rfl, hz0, hz1, rfl⟩ := hcut
  obtain ⟨c0, c1, c2, c3, c4, c5, c6, d0, d1, d2, d3, d4, d5, d6, -⟩ := BX0.out
  go_upto_if 64 with (fail)
  clear c0 c1 c2 c3 c4 c6 d0 d1 d2 d3 d4 d5 d6
  go_cut [5] (fun s wc => ∃ z : Int, s = .int .i64 z ∧ 0 ≤ z ∧ z ≤ 1048576 ∧ W = wc)
  case first => as_aux_lemma =>
    have hf := HE.out.1.ins
    clear HE
    cases hE : E.ins with
    | none =>
      rw [hE] at hf
      have e : q5 = none := by simpa [TagAt, StrAt] using hf
      clear hf hE
      subst e
      go_wp2
      go_meet
      case rel => exact ⟨_, rfl, by omega, by omega, rfl⟩
    | some t =>
      rw [hE] at hf
      clear hE
      obtain ⟨b, o', v, hp, -, h1, h2, a, c, rfl, hn, -⟩ := hf
      simp only [Value.pointer.injEq] at hp
      subst hp
      generalize t.2.length = n at *
      clear h1
      go_wp2
      · go_ret
        exact ⟨⟨_, rfl⟩, HB0.out⟩
      · go_ret
        exact ⟨⟨_, rfl⟩, HB0.out⟩
      · go_meet
        case rel => exact ⟨_, rfl, by omega, by omega, rfl⟩
  case rest => as_aux_lemma =>
  obtain ⟨z, rfl, hz0, hz1, rfl⟩ := hcut
  obtain ⟨c0, c1, c2, c3, c4, c5, c6, d0, d1, d2, d3, d4, d5, d6, -⟩ := BX0.out
  go_upto_if 84 with (fail)
  clear c0 c1 c2 c3 c4 c5 d0 d1 d2 d3 d4 d5 d6
  go_cut [5] (fun s wc => ∃ z : Int, s = .int .i64 z ∧ 0 ≤ z ∧ z ≤ 1048576 ∧ W = wc)
  case first => as_aux_lemma =>
    have hf := HE.out.1.grp
    clear HE
    cases hE : E.grp with
    | none =>
      rw [hE] at hf
      have e : q6 = none := by simpa [TagAt, StrAt] using hf
      clear hf hE
      subst e
      go_wp2
      go_meet
      case rel => exact ⟨_, rfl, by omega, by omega, rfl⟩
    | some t =>
      rw [hE] at hf
      clear hE
      obtain ⟨b, o', v, hp, -, h1, h2, a, c, rfl, hn, -⟩ := hf
      simp only [Value.pointer.injEq] at hp
      subst hp
      generalize t.2.length = n at *
      clear h1
      go_wp2
      · go_ret
        exact ⟨⟨_, rfl⟩, HB0.out⟩
      · go_ret
        exact ⟨⟨_, rfl⟩, HB0.out⟩
      · go_meet
        case rel => exact ⟨_, rfl, by omega, by omega, rfl⟩
  case rest => as_aux_lemma =>
  obtain ⟨z, rfl, hz0, hz1, rfl⟩ := hcut
  obtain ⟨c0, c1, c2, c3, c4, c5, c6, d0, d1, d2, d3, d4, d5, d6, -⟩ := BX0.out
  go_upto_if 104 with (fail)
  clear c0 c1 c2 c3 c4 c5 c6 d1 d2 d3 d4 d5 d6
  go_cut [5] (fun s wc => ∃ z : Int, s = .int .i64 z ∧ 0 ≤ z ∧ z ≤ 1048576 ∧ W = wc)
  case first => as_aux_lemma =>
    have hf := HE.out.2.cls
    clear HE
    cases hE : G.cls with
    | none =>
      rw [hE] at hf
      have e : p0 = none := by simpa [TagAt, StrAt] using hf
      clear hf hE
      subst e
      go_wp2
      go_meet
      case rel => exact ⟨_, rfl, by omega, by omega, rfl⟩
    | some t =>
      rw [hE] at hf
      clear hE
      obtain ⟨b, o', v, hp, -, h1, h2, a, c, rfl, hn, -⟩ := hf
      simp only [Value.pointer.injEq] at hp
      subst hp
      generalize t.2.length = n at *
      clear h1
      go_wp2
      · go_ret
        exact ⟨⟨_, rfl⟩, HB0.out⟩
      · go_ret
        exact ⟨⟨_, rfl⟩, HB0.out⟩
      · go_meet
        case rel => exact ⟨_, rfl, by omega, by omega, rfl⟩
  case rest => as_aux_lemma =>
  obtain ⟨z, rfl, hz0, hz1, rfl⟩ := hcut
  obtain ⟨c0, c1, c2, c3, c4, c5, c6, d0, d1, d2, d3, d4, d5, d6, -⟩ := BX0.out
  go_upto_if 124 with (fail)
  clear c0 c1 c2 c3 c4 c5 c6 d0 d2 d3 d4 d5 d6
  go_cut [5] (fun s wc => ∃ z : Int, s = .int .i64 z ∧ 0 ≤ z ∧ z ≤ 1048576 ∧ W = wc)
  case first => as_aux_lemma =>
    have hf := HE.out.2.ven
    clear HE
    cases hE : G.ven with
    | none =>
      rw [hE] at hf
      have e : p1 = none := by simpa [TagAt, StrAt] using hf
      clear hf hE
      subst e
      go_wp2
      go_meet
      case rel => exact ⟨_, rfl, by omega, by omega, rfl⟩
    | some t =>
      rw [hE] at hf
      clear hE
      obtain ⟨b, o', hp, -, h1, hn⟩ := hf
      simp only [Value.pointer.injEq] at hp
      subst hp
      go_wp2
      · go_ret
        exact ⟨⟨_, rfl⟩, HB0.out⟩
      · go_ret
        exact ⟨⟨_, rfl⟩, HB0.out⟩
      · go_meet
        case rel => exact ⟨_, rfl, by omega, by omega, rfl⟩
  case rest => as_aux_lemma =>
  obtain ⟨z, rfl, hz0, hz1, rfl⟩ := hcut
  obtain ⟨c0, c1, c2, c3, c4, c5, c6, d0, d1, d2, d3, d4, d5, d6, -⟩ := BX0.out
  go_upto_if 142 with (fail)
  clear c0 c1 c2 c3 c4 c5 c6 d0 d1 d3 d4 d5 d6
  go_cut [5] (fun s wc => ∃ z : Int, s = .int .i64 z ∧ 0 ≤ z ∧ z ≤ 1048576 ∧ W = wc)
  case first => as_aux_lemma =>
    have hf := HE.out.2.mdl
    clear HE
    cases hE : G.mdl with
    | none =>
      rw [hE] at hf
      have e : p2 = none := by simpa [TagAt, StrAt] using hf
      clear hf hE
      subst e
      go_wp2
      go_meet
      case rel => exact ⟨_, rfl, by omega, by omega, rfl⟩
    | some t =>
      rw [hE] at hf
      clear hE
      obtain ⟨b, o', hp, -, h1, hn⟩ := hf
      simp only [Value.pointer.injEq] at hp
      subst hp
      go_wp2
      · go_ret
        exact ⟨⟨_, rfl⟩, HB0.out⟩
      · go_ret
        exact ⟨⟨_, rfl⟩, HB0.out⟩
      · go_meet
        case rel => exact ⟨_, rfl, by omega, by omega, rfl⟩
  case rest => as_aux_lemma =>
  obtain ⟨z, rfl, hz0, hz1, rfl⟩ := hcut
  obtain ⟨c0, c1, c2, c3, c4, c5, c6, d0, d1, d2, d3, d4, d5, d6, -⟩ := BX0.out
  go_upto_if 160 with (fail)
  clear c0 c1 c2 c3 c4 c5 c6 d0 d1 d2 d3 d4 d6
  go_cut [5] (fun s wc => ∃ z : Int, s = .int .i64 z ∧ 0 ≤ z ∧ z ≤ 1048576 ∧ W = wc)
  case first => as_aux_lemma =>
    have hf := HE.out.2.ins
    clear HE
    cases hE : G.ins with
    | none =>
      rw [hE] at hf
      have e : p5 = none := by simpa [TagAt, StrAt] using hf
      clear hf hE
      subst e
      go_wp2
      go_meet
      case rel => exact ⟨_, rfl, by omega, by omega, rfl⟩
    | some t =>
      rw [hE] at hf
      clear hE
      obtain ⟨b, o', v, hp, -, h1, h2, a, c, rfl, hn, -⟩ := hf
      simp only [Value.pointer.injEq] at hp
      subst hp
      generalize t.2.length = n at *
      clear h1
      go_wp2
      · go_ret
        exact ⟨⟨_, rfl⟩, HB0.out⟩
      · go_ret
        exact ⟨⟨_, rfl⟩, HB0.out⟩
      · go_meet
        case rel => exact ⟨_, rfl, by omega, by omega, rfl⟩
  case rest => as_aux_lemma =>
  obtain ⟨z, rfl, hz0, hz1, rfl⟩ := hcut
  obtain ⟨c0, c1, c2, c3, c4, c5, c6, d0, d1, d2, d3, d4, d5, d6, -⟩ := BX0.out
  go_upto_if 180 with (fail)
  clear c0 c1 c2 c3 c4 c5 c6 d0 d1 d2 d3 d4 d5
  go_cut [5] (fun s wc => ∃ z : Int, s = .int .i64 z ∧ 0 ≤ z ∧ z ≤ 1048576 ∧ W = wc)
  case first => as_aux_lemma =>
    have hf := HE.out.2.grp
    clear HE
    cases hE : G.grp with
    | none =>
      rw [hE] at hf
      have e : p6 = none := by simpa [TagAt, StrAt] using hf
      clear hf hE
      subst e
      go_wp2
      go_meet
      case rel => exact ⟨_, rfl, by omega, by omega, rfl⟩
    | some t =>
      rw [hE] at hf
      clear hE
      obtain ⟨b, o', v, hp, -, h1, h2, a, c, rfl, hn, -⟩ := hf
      simp only [Value.pointer.injEq] at hp
      subst hp
      generalize t.2.length = n at *
      clear h1
      go_wp2
      · go_ret
        exact ⟨⟨_, rfl⟩, HB0.out⟩
      · go_ret
        exact ⟨⟨_, rfl⟩, HB0.out⟩
      · go_meet
        case rel => exact ⟨_, rfl, by omega, by omega, rfl⟩
  case rest =>
  obtain ⟨z, rfl, hz0, hz1, rfl⟩ := hcut
  go_wp2
  go_ret
  exact ⟨⟨_, rfl⟩, HB0.out⟩
end Go.Proofs.Qxb6603359a
