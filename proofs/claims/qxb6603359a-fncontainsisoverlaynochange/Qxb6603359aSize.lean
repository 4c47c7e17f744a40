/-
  zzAdd, zzTagSize, zzStrSize, zzEnvSize, walked.
-/
import Derived.Test.Qxb6603359aHolds
namespace Go.Proofs.Qxb6603359a
open Go.RowKit
variable {P : Nat → Prop}

def addC (a n : Int) : Int := if 1048576 < a ∨ 1048576 < n then 1048577 else a + n
theorem addC_nn {a n : Int} (ha : 0 ≤ a) (hn : 0 ≤ n) : 0 ≤ addC a n := by unfold addC; split <;> omega
theorem addC_le {a n : Int} (h : addC a n ≤ 1048576) : a ≤ 1048576 ∧ n ≤ 1048576 := by unfold addC at h; split at h <;> omega
theorem addC_ge {a n : Int} (ha : 0 ≤ a) (hn : 0 ≤ n) (h : addC a n ≤ 1048576) : a ≤ addC a n ∧ n ≤ addC a n := by unfold addC at h ⊢; split at h <;> split <;> omega

theorem ret_i64 {a b : Int} (h : a = b) : Ending.returned (.int .i64 a) = .returned (.int .i64 b) := by rw [h]

theorem add_any (a n : Int) (w : World) (ha : 0 ≤ a) (hn : 0 ≤ n) :
    Calls Try.prog 9 #[.int .i64 a, .int .i64 n] w fun e w' => e = .returned (.int .i64 (addC a n)) ∧ w' = w := by
  by_cases h1 : 1048576 < a
  · have e : addC a n = 1048577 := by unfold addC; rw [if_pos (.inl h1)]
    rw [e]; clear e
    go_enter Try.func9, Try.ntmps9
    go_wp2
    go_ret
    exact ⟨rfl, rfl⟩
  · by_cases h2 : 1048576 < n
    · have e : addC a n = 1048577 := by unfold addC; rw [if_pos (.inr h2)]
      rw [e]; clear e
      go_enter Try.func9, Try.ntmps9
      go_wp2
      go_ret
      exact ⟨rfl, rfl⟩
    · have e : addC a n = a + n := by unfold addC; rw [if_neg (by omega)]
      rw [e]; clear e
      go_enter Try.func9, Try.ntmps9
      go_wp2
      go_ret
      exact ⟨rfl, rfl⟩

def tagSize : Option (Int × List Int) → Int
  | none => 0
  | some x => addC 8 x.2.length
def strSize : Option ByteArray → Int
  | none => 0
  | some s => s.size
theorem tagSize_nn (t : Option (Int × List Int)) : 0 ≤ tagSize t := by
  cases t with
  | none => exact Int.le_refl _
  | some x => exact addC_nn (by omega) (by omega)
theorem strSize_nn (t : Option ByteArray) : 0 ≤ strSize t := by
  cases t with
  | none => exact Int.le_refl _
  | some x => exact Int.natCast_nonneg _

theorem tagSize_any (p : Value) (t : Option (Int × List Int)) (w : World) (h : TagAt P w p t) :
    Calls Try.prog 25 #[p] w fun e w' => e = .returned (.int .i64 (tagSize t)) ∧ w' = w := by
  cases t with
  | none =>
    obtain rfl := h
    go_enter Try.func25, Try.ntmps25
    go_wp2
    go_ret
    exact ⟨rfl, rfl⟩
  | some t =>
    obtain ⟨b, o, v, rfl, -, h1, h2, a, c, rfl, -⟩ := h
    have e : tagSize (some t) = addC 8 t.2.length := rfl
    rw [e]; clear e
    generalize t.2.length = n at h2
    go_enter Try.func25, Try.ntmps25
    go_wp2_with (go_at_call 9; refine (add_any _ _ _ (by omega) (by omega)).mono ?_; rintro e w' ⟨rfl, rfl⟩)
    go_ret
    exact ⟨rfl, rfl⟩

theorem strSize_any (p : Value) (t : Option ByteArray) (w : World) (h : StrAt P w p t) :
    Calls Try.prog 26 #[p] w fun e w' => e = .returned (.int .i64 (strSize t)) ∧ w' = w := by
  cases t with
  | none =>
    obtain rfl := h
    go_enter Try.func26, Try.ntmps26
    go_wp2
    go_ret
    exact ⟨rfl, rfl⟩
  | some t =>
    obtain ⟨b, o, rfl, -, h1, -⟩ := h
    have e : strSize (some t) = t.size := rfl
    rw [e]; clear e
    go_enter Try.func26, Try.ntmps26
    go_wp2
    go_ret
    exact ⟨rfl, rfl⟩

/-! ### The environment -/
structure Env where
  cls : Option (Int × List Int)
  ven : Option ByteArray
  mdl : Option ByteArray
  lay : Option Int
  idx : Option Int
  ins : Option (Int × List Int)
  grp : Option (Int × List Int)

/-- Seven pointers in memory state the environment E. -/
structure EnvAt (P : Nat → Prop) (w : World) (q0 q1 q2 q3 q4 q5 q6 : Option Addr) (E : Env) : Prop where
  cls : TagAt P w (.pointer q0) E.cls
  ven : StrAt P w (.pointer q1) E.ven
  mdl : StrAt P w (.pointer q2) E.mdl
  lay : NumAt P w (.pointer q3) E.lay
  idx : NumAt P w (.pointer q4) E.idx
  ins : TagAt P w (.pointer q5) E.ins
  grp : TagAt P w (.pointer q6) E.grp

theorem EnvAt.agree {Q : Nat → Prop} {w w' : World} {q0 q1 q2 q3 q4 q5 q6 : Option Addr} {E : Env} (h : EnvAt P w q0 q1 q2 q3 q4 q5 q6 E) (hb : Agree P w w') (hq : ∀ b, P b → Q b) : EnvAt Q w' q0 q1 q2 q3 q4 q5 q6 E :=
  ⟨h.cls.agree hb hq, h.ven.agree hb hq, h.mdl.agree hb hq, h.lay.agree hb hq, h.idx.agree hb hq, h.ins.agree hb hq, h.grp.agree hb hq⟩

theorem EnvAt.below {w w' : World} {q0 q1 q2 q3 q4 q5 q6 : Option Addr} {E : Env} (h : EnvAt P w q0 q1 q2 q3 q4 q5 q6 E) (hb : Below w.heap.size w w') : EnvAt P w' q0 q1 q2 q3 q4 q5 q6 E :=
  ⟨h.cls.below hb, h.ven.below hb, h.mdl.below hb, h.lay.below hb, h.idx.below hb, h.ins.below hb, h.grp.below hb⟩

theorem BytesAt.lt {w : World} {v : Value} {l : List Int} (h : BytesAt P w v l) : BytesAt (fun b => b < w.heap.size) w v l := by
  obtain ⟨a, cap, h1, h2, h3, h4⟩ := h
  refine ⟨a, cap, h1, h2, h3, ?_⟩
  by_cases hl : l = []
  · exact .inl hl
  · rcases h4 with h4 | ⟨b, off, h5, hp, h6⟩
    · exact .inl h4
    · exact .inr ⟨b, off, h5, block_lt_of_cell (h6 0 (by cases l with | nil => exact absurd rfl hl | cons _ _ => simp)), h6⟩
theorem TagAt.lt {w : World} {p : Value} {t : Option (Int × List Int)} (h : TagAt P w p t) : TagAt (fun b => b < w.heap.size) w p t := by
  cases t with
  | none => exact h
  | some t => obtain ⟨b, o, v, h1, hp, h2, h3, h4⟩ := h; exact ⟨b, o, v, h1, block_lt_of_cell h2, h2, h3, h4.lt⟩
theorem StrAt.lt {w : World} {p : Value} {t : Option ByteArray} (h : StrAt P w p t) : StrAt (fun b => b < w.heap.size) w p t := by
  cases t with
  | none => exact h
  | some t => obtain ⟨b, o, h1, hp, h2, h3⟩ := h; exact ⟨b, o, h1, block_lt_of_cell h2, h2, h3⟩
theorem NumAt.lt {w : World} {p : Value} {t : Option Int} (h : NumAt P w p t) : NumAt (fun b => b < w.heap.size) w p t := by
  cases t with
  | none => exact h
  | some t => obtain ⟨b, o, h1, hp, h2⟩ := h; exact ⟨b, o, h1, block_lt_of_cell h2, h2⟩
theorem EnvAt.lt {w : World} {q0 q1 q2 q3 q4 q5 q6 : Option Addr} {E : Env} (h : EnvAt P w q0 q1 q2 q3 q4 q5 q6 E) : EnvAt (fun b => b < w.heap.size) w q0 q1 q2 q3 q4 q5 q6 E :=
  ⟨h.cls.lt, h.ven.lt, h.mdl.lt, h.lay.lt, h.idx.lt, h.ins.lt, h.grp.lt⟩

def envSize (E : Env) : Int := addC (addC (addC (addC (addC 0 (tagSize E.cls)) (strSize E.ven)) (strSize E.mdl)) (tagSize E.ins)) (tagSize E.grp)
theorem envSize_nn (E : Env) : 0 ≤ envSize E :=
  addC_nn (addC_nn (addC_nn (addC_nn (addC_nn (by omega) (tagSize_nn _)) (strSize_nn _)) (strSize_nn _)) (tagSize_nn _)) (tagSize_nn _)

theorem small_of {t : Option (Int × List Int)} (h : tagSize t ≤ 1048576) : small t := by
  intro x hx
  subst hx
  have := (addC_le h).2
  omega

/-- Within the cap: each tagged value is small. -/
theorem envSize_small {E : Env} (h : envSize E ≤ 1048576) : small E.cls ∧ small E.ins ∧ small E.grp := by
  have h1 := addC_le h
  have h2 := addC_le h1.1
  have h3 := addC_le h2.1
  have h4 := addC_le h3.1
  have h5 := addC_le h4.1
  exact ⟨small_of h5.2, small_of h2.2, small_of h1.2⟩

set_option maxHeartbeats 1000000 in
theorem envSize_any (q0 q1 q2 q3 q4 q5 q6 : Option Addr) (E : Env) (w : World) (h : EnvAt P w q0 q1 q2 q3 q4 q5 q6 E) :
    Calls Try.prog 10 #[.agg #[.pointer q0, .pointer q1, .pointer q2, .pointer q3, .pointer q4, .pointer q5, .pointer q6]] w fun e w' => e = .returned (.int .i64 (envSize E)) ∧ Below w.heap.size w w' := by
  have hb : Below w.heap.size w (w.alloc (.cells #[.pointer q0, .pointer q1, .pointer q2, .pointer q3, .pointer q4, .pointer q5, .pointer q6] 26)) := (Below.refl _ _).alloc (Nat.le_refl _) _
  have H := h.below hb
  obtain ⟨H0, H1, H2, -, -, H5, H6⟩ := H
  have HH : Hid (Below w.heap.size w (w.alloc (.cells #[.pointer q0, .pointer q1, .pointer q2, .pointer q3, .pointer q4, .pointer q5, .pointer q6] 26))) := hb
  clear hb h
  unfold envSize
  have n0 := tagSize_nn E.cls
  have n1 := strSize_nn E.ven
  have n2 := strSize_nn E.mdl
  have n5 := tagSize_nn E.ins
  have n6 := tagSize_nn E.grp
  generalize E.cls = t0 at *
  generalize E.ven = t1 at *
  generalize E.mdl = t2 at *
  generalize E.ins = t5 at *
  generalize E.grp = t6 at *
  have m0 := addC_nn (Int.le_refl 0) n0
  have m1 := addC_nn m0 n1
  have m2 := addC_nn m1 n2
  have m5 := addC_nn m2 n5
  go_enter Try.func10, Try.ntmps10
  go_wp2_with fail
  refine (tagSize_any _ t0 _ H0).mono ?_
  rintro e w' ⟨rfl, rfl⟩
  go_wp2_with fail
  refine (add_any _ _ _ (Int.le_refl 0) n0).mono ?_
  rintro e w' ⟨rfl, rfl⟩
  go_wp2_with fail
  refine (strSize_any _ t1 _ H1).mono ?_
  rintro e w' ⟨rfl, rfl⟩
  go_wp2_with fail
  refine (add_any _ _ _ m0 n1).mono ?_
  rintro e w' ⟨rfl, rfl⟩
  go_wp2_with fail
  refine (strSize_any _ t2 _ H2).mono ?_
  rintro e w' ⟨rfl, rfl⟩
  go_wp2_with fail
  refine (add_any _ _ _ m1 n2).mono ?_
  rintro e w' ⟨rfl, rfl⟩
  go_wp2_with fail
  refine (tagSize_any _ t5 _ H5).mono ?_
  rintro e w' ⟨rfl, rfl⟩
  go_wp2_with fail
  refine (add_any _ _ _ m2 n5).mono ?_
  rintro e w' ⟨rfl, rfl⟩
  go_wp2_with fail
  refine (tagSize_any _ t6 _ H6).mono ?_
  rintro e w' ⟨rfl, rfl⟩
  go_wp2_with fail
  refine (add_any _ _ _ m5 n6).mono ?_
  rintro e w' ⟨rfl, rfl⟩
  go_wp2
  go_ret
  exact ⟨rfl, HH.out⟩
end Go.Proofs.Qxb6603359a
