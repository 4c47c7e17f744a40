/-
  THE STATEMENT 'FnLinksAreExactlyTheMapsLinksInOrderSaid': the row over the walk. The frame is the guide's own, turned to a slice of slices ('open_int_rows').
-/
import Derived.Test.Qxb6603196aRows
import Derived.Test.Qxb6603196aLaw
import Derived.WalkKit
import Derived.ProofKit
import Derived.OpenShut
import Derived.ShutString
import Derived.ChangeOld
import Derived.Below
import Derived.Deep.Matrix
namespace Go.Proofs.Qxb6603196a.fnLinks
open Go.ChangeShapes Go.WideShapes Go.ChangeAt Go.RowKit Go.Deep
set_option linter.unusedVariables false

theorem own : ownKnob Try.prog.godebug = none := by kernel_rfl
theorem laidOut : laidOutB Try.prog = true := by kernel_rfl

theorem law_any (x : Int) (a : Option Addr) (len cap : Nat) (w : World)
    (h : len = 0 ∨ ∃ b o A B O L C nb, a = some ⟨b, o, none⟩ ∧ len ≤ 9223372036854775807 ∧ (∀ r, r < len → L r ≤ 9223372036854775807) ∧ Mat w b o len A B O L C nb) :
    Calls Try.prog 4 #[.int .i64 x, .slice a len cap] w fun e w' => e = .returned (.bool true) ∧ Below w.heap.size w w' := by
  rcases h with rfl | ⟨b, o, A, B, O, L, C, nb, rfl, h1, h2, h3⟩
  · exact law_nil x a cap w
  · exact law_some x b o len cap A B O L C nb w h1 h2 h3

/-- What 'open_int_rows' gives is a matrix in memory. -/
theorem mat_of {W : World} {a : Addr} {len cap : Nat} {A : Nat → Option Addr} {L C : Nat → Nat} {Z : Nat → List Int} (hl : len ≤ cap) (hm : cap ≤ maxLen) (hpos : 0 < len)
    (hx : ∀ r, r < cap → W.cell? (a.add r) = some (.slice (A r) (L r) (C r)) ∧ L r ≤ C r ∧ C r ≤ maxLen ∧ (Z r).length = C r ∧ (∀ n ∈ Z r, (Lit.int .i32 n).wf = true) ∧ (A r = none → C r = 0) ∧
        ∀ a', A r = some a' → 0 ≤ a'.block ∧ ∀ c, c < C r → W.cell? (a'.add c) = some (.int .i32 ((Z r).getD c 0))) :
    ∃ b o A B O L C nb, some a = some ⟨b, o, none⟩ ∧ len ≤ 9223372036854775807 ∧ (∀ r, r < len → L r ≤ 9223372036854775807) ∧ Mat W b o len A B O L C nb := by
  obtain ⟨b, o, spot⟩ := a
  have hspot : spot = none := by simpa [Addr.add] using World.cell?_spot (hx 0 (by omega)).1
  subst hspot
  unfold maxLen at hm hx
  refine ⟨b, o, A, fun r => ((A r).getD ⟨0, 0, none⟩).block, fun r => ((A r).getD ⟨0, 0, none⟩).off, L, C, fun r => (Z r).take (L r), rfl, by omega, fun r hr => ?_, ?_⟩
  · obtain ⟨_, h2, h3, _⟩ := hx r (by omega)
    omega
  have adr : ∀ r, r < len → 0 < L r → A r = some ⟨((A r).getD ⟨0, 0, none⟩).block, ((A r).getD ⟨0, 0, none⟩).off, none⟩ := by
    intro r hr hL
    obtain ⟨h1, h2, h3, h4, h5, h6, h7⟩ := hx r (by omega)
    cases hA : A r with
    | none => have := h6 hA; omega
    | some a' =>
      obtain ⟨b', o', spot'⟩ := a'
      have hs : spot' = none := by simpa [Addr.add] using World.cell?_spot ((h7 _ hA).2 0 (by omega))
      subst hs
      rfl
  refine ⟨fun r hr => ?_, adr, fun r hr j hj => ?_, fun r hr => ?_, fun r hr j hj => ?_⟩
  · rw [← add_plain]; exact (hx r (by omega)).1
  · obtain ⟨h1, h2, h3, h4, h5, h6, h7⟩ := hx r (by omega)
    have e := adr r hr (by omega)
    have := (h7 _ e).2 j (by omega)
    rw [add_plain] at this
    rw [this]
    simp [List.getD, hj]
  · obtain ⟨h1, h2, h3, h4, _⟩ := hx r (by omega)
    simp; omega
  · obtain ⟨h1, h2, h3, h4, h5, _⟩ := hx r (by omega)
    have hjz : j < (Z r).length := by omega
    have e : ((Z r).take (L r))[j]?.getD 0 = (Z r)[j] := by simp [hj, hjz]
    rw [e]
    have := h5 _ (List.getElem_mem hjz)
    have := bounds_i32 this
    omega

set_option maxRecDepth 100000 in
theorem lifted (os : Os) (started : os.Started) (H : Type) (enc : TypeId × Value → H) :
    ReturnsInHanded {} Try.checked os 4 .any (Rows.fnLinksAreExactlyTheMapsLinksInOrderSpec.pre6 enc Try.prog Try.f4 Rows.fnLinksAreExactlyTheMapsLinksInOrderRow.domain false) (Rows.fnLinksAreExactlyTheMapsLinksInOrderSpec.post enc Try.prog Try.f4 false true false false) := by
  refine returnsInHanded_of_change (C := Try.checked) own started (by kernel_rfl) Try.func4
    (ChangeSpec.witness6 (enc := enc) (C := Try.checked) false ⟨#[], #[.int .i64 0, .slice none 0 0], []⟩ 8 (by kernel_rfl) (by kernel_rfl) (by kernel_rfl) (by kernel_rfl)) ?_
  intro W base args ds gs before hval0 hW hcnd _
  have hval : ∀ (j : Nat) t v, Try.f4.params[j]? = some t → args[j]? = some v → Value.okWide Try.prog W .any base t v := hval0
  have hW' := hW
  obtain ⟨p, q, hA0, hV, rfl, hfz, hnd⟩ := hW
  have hA : DataW.TrodAll enc Try.prog W 0 (fun _ => true) true Try.f4.params.toList args.toList ds p := hA0
  rw [Try.params4] at hA hval
  obtain ⟨v0, vs0, d0, ds0, p0, q0, hargs, rfl, rfl, h0, r0⟩ := trodAll_cons hA
  obtain ⟨v1, vs1, d1, ds1, p1, q1, rfl, rfl, rfl, h1, r1⟩ := trodAll_cons r0
  obtain ⟨rfl, rfl, rfl⟩ := trodAll_nil r1
  obtain rfl : args = #[v0, v1] := by cases args; simp_all
  obtain ⟨rfl, rfl⟩ := trodVars_none hV
  obtain ⟨a0, rfl, rfl, rfl, w0⟩ := open_int Try.underlying3 (hval 0 3 v0 rfl rfl) h0
  obtain ⟨a1, len1, cap1, rfl⟩ := okWide_slice Try.underlying22 (hval 1 22 v1 rfl rfl)
  have k1 := h1
  have lt1 : ∀ x ∈ p1, x.block < W.heap.size := by obtain ⟨m, hm⟩ := k1; exact DataW.trod_lt m _ _ _ hm
  have w1 : len1 = 0 ∨ ∃ b o A B O L C nb, a1 = some ⟨b, o, none⟩ ∧ len1 ≤ 9223372036854775807 ∧ (∀ r, r < len1 → L r ≤ 9223372036854775807) ∧ Mat W b o len1 A B O L C nb := by
    obtain ⟨fuel, hf⟩ := h1
    rcases open_int_rows Try.underlying22 Try.underlying30 Try.underlying21 (by kernel_rfl) (by kernel_rfl) hf with ⟨hcs, _⟩ | ⟨x, l, c, A, L, C, Z, hcs, _, hl, hm, _, hx⟩
    · simp [Value.cells] at hcs
      obtain ⟨rfl, rfl, rfl⟩ := hcs
      exact .inl rfl
    · simp [Value.cells] at hcs
      obtain ⟨rfl, rfl, rfl⟩ := hcs
      by_cases hz : len1 = 0
      · exact .inl hz
      · exact .inr (mat_of hl hm (by omega) hx)
  clear hA0 hval0
  refine (law_any a0 a1 len1 cap1 W w1).mono fun e W' ⟨he, bel⟩ => ?_
  subst he
  exact ⟨_, rfl, _, _, _, [], _, [], hW', trodAll_mk1 (shut_bool Try.underlying4 _), (trodAll_cons_mk (shut_int Try.underlying3 w0) (trodAll_cons_mk (Below.trod laidOut (by kernel_rfl) (of_decide_eq_true (by kernel_rfl)) k1 bel lt1) trodAll_mk0)), rfl, bel.frame _, fun h => by cases h⟩

theorem over : Rows.fnLinksAreExactlyTheMapsLinksInOrderRow.holds Try.pinned (OpenSpec.ofChange Rows.fnLinksAreExactlyTheMapsLinksInOrderSpec) :=
  OpenClaim.holds_of_wide 4 Try.f4 rfl rfl rfl rfl rfl rfl rfl ⟨rfl, rfl, rfl, rfl, rfl⟩ rfl rfl rfl rfl rfl (by kernel_rfl) Try.func4 (by kernel_rfl)
    (of_decide_eq_true (by kernel_rfl)) (by unfold Func.isWrapper; first | (rw [if_pos (by decide +kernel)]; kernel_rfl) | (rw [if_neg (by decide +kernel)]; exact ⟨rfl, rfl⟩))
    (fun os started H enc _ => lifted os started H enc)

/-- THE STATEMENT. -/
theorem proved : Rows.FnLinksAreExactlyTheMapsLinksInOrderSaid := over
#print axioms proved
end Go.Proofs.Qxb6603196a.fnLinks
