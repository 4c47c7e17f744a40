/-
  sameBytes, walked.
-/
import Derived.Test.Qxb6603471aMem
import Derived.Deep.QuietTactic
import Derived.BigQuiet
import Derived.WalkSmall
namespace Go.Proofs.Qxb6603471a
open Go.RowKit
variable {P Q : Nat → Prop}

def eqB (l m : List Int) : Bool := decide (l = m)
theorem eqB_len {l m : List Int} (h : l.length ≠ m.length) : eqB l m = false := by
  unfold eqB; rw [decide_eq_false_iff_not]; intro e; exact h (by rw [e])
theorem eqB_at {l m : List Int} (k : Nat) (h : l[k]?.getD 0 ≠ m[k]?.getD 0) : eqB l m = false := by
  unfold eqB; rw [decide_eq_false_iff_not]; intro e; exact h (by rw [e])
theorem eqB_all {l m : List Int} (hl : l.length = m.length) (h : ∀ i, i < l.length → l[i]?.getD 0 = m[i]?.getD 0) : eqB l m = true := by
  unfold eqB; rw [decide_eq_true_eq]
  refine List.ext_getElem hl fun i h1 h2 => ?_
  have := h i h1
  simpa [h1, h2] using this

set_option maxHeartbeats 1000000 in
theorem sameBytes_some (b off c b2 off2 c2 n : Nat) (l m : List Int) (w : World) (hn : n ≤ 9223372036854775807) (hl : n = l.length) (hm : n = m.length)
    (hc : ∀ j, j < n → w.cell? ⟨b, off + j, none⟩ = some (.int .u8 (l[j]?.getD 0))) (hc2 : ∀ j, j < n → w.cell? ⟨b2, off2 + j, none⟩ = some (.int .u8 (m[j]?.getD 0))) :
    Calls Try.prog 14 #[.slice (some ⟨b, off, none⟩) n c, .slice (some ⟨b2, off2, none⟩) n c2] w fun e w' => e = .returned (.bool (eqB l m)) ∧ ∃ k, w' = w.drewN k := by
  have HL : Hid (n = l.length ∧ n = m.length) := ⟨hl, hm⟩
  clear hl hm
  have hne : ((n : Int) != (n : Int)) = false := by simp
  go_enter Try.func14, Try.ntmps14
  go_wp2
  go_loopw [5] (fun i wr => ∃ k q : Nat, k ≤ n ∧ i = .int .i64 k ∧ wr = w.drewN q ∧ Hid (∀ i, i < k → l[i]?.getD 0 = m[i]?.getD 0)) (fun i _ => n - (intOf i).toNat)
  case atStart => exact ⟨0, 0, Nat.zero_le _, rfl, rfl, fun i h => by omega⟩
  case round =>
    obtain ⟨k, q, hk, rfl, rfl, hI⟩ := hrel
    by_cases hlt : k < n
    · have g1 := hc k hlt
      have g2 := hc2 k hlt
      have hki : (k : Int) < (n : Int) := by omega
      have hk0 : (0 : Int) ≤ (k : Int) := by omega
      clear hc hc2
      generalize hx : l[k]?.getD 0 = x at g1
      generalize hy : m[k]?.getD 0 = y at g2
      have HX : Hid (l[k]?.getD 0 = x ∧ m[k]?.getD 0 = y) := ⟨hx, hy⟩
      clear hx hy
      by_cases hxy : (x != y) = true
      · go_wp2
        go_quiet (fail)
        go_wp2
        go_ret
        exact ⟨ret_bool (eqB_at k (by rw [HX.out.1, HX.out.2]; exact bne_iff_ne.1 hxy)).symm, _, World.drewN_drewN _ _ _⟩
      · have hxy' : (x != y) = false := by simpa using hxy
        clear hxy
        go_wp2
        go_quiet (fail)
        go_wp2
        go_roundw
        case rel => exact ⟨k + 1, _, by omega, by go_num, rfl, (fun i hi => by
          by_cases e : i = k
          · subst e; rw [HX.out.1, HX.out.2]; simpa using hxy'
          · exact hI.out i (by omega) : ∀ i, i < k + 1 → _)⟩
        case measure => simp [intOf]; omega
    · have e : k = n := by omega
      subst e
      go_wp2
      go_ret
      exact ⟨ret_bool (eqB_all (by rw [← HL.out.1, ← HL.out.2]) (fun i hi => hI.out i (by rw [HL.out.1]; exact hi))).symm, _, rfl⟩

theorem sameBytes_empty (a a2 : Option Addr) (c c2 : Nat) (w : World) :
    Calls Try.prog 14 #[.slice a 0 c, .slice a2 0 c2] w fun e w' => e = .returned (.bool (eqB [] [])) ∧ ∃ k, w' = w.drewN k := by
  go_enter Try.func14, Try.ntmps14
  go_wp2
  refine wp_loop_rounds 1 ?_
  rw [rounds_succ]
  go_wp2
  go_ret
  exact ⟨rfl, 0, rfl⟩

theorem sameBytes_len (a a2 : Option Addr) (n n2 c c2 : Nat) (w : World) (h : n ≠ n2) :
    Calls Try.prog 14 #[.slice a n c, .slice a2 n2 c2] w fun e w' => e = .returned (.bool false) ∧ ∃ k, w' = w.drewN k := by
  have hne : ((n : Int) != (n2 : Int)) = true := by rw [bne_iff_ne]; omega
  go_enter Try.func14, Try.ntmps14
  go_wp2
  go_ret
  exact ⟨rfl, 0, rfl⟩

theorem sameBytes_any (v v2 : Value) (l m : List Int) (w : World) (h : BytesAt P w v l) (h2 : BytesAt Q w v2 m) :
    Calls Try.prog 14 #[v, v2] w fun e w' => e = .returned (.bool (eqB l m)) ∧ ∃ k, w' = w.drewN k := by
  obtain ⟨a, c, rfl, h1, -, h3⟩ := h
  obtain ⟨a2, c2, rfl, h1', -, h3'⟩ := h2
  by_cases hlm : l.length = m.length
  · rcases h3 with rfl | ⟨b, off, rfl, -, hc⟩
    · have hm : m = [] := List.eq_nil_of_length_eq_zero hlm.symm
      subst hm
      exact sameBytes_empty a a2 c c2 w
    · rcases h3' with rfl | ⟨b2, off2, rfl, -, hc2⟩
      · have hl : l = [] := List.eq_nil_of_length_eq_zero hlm
        subst hl
        exact sameBytes_empty _ a2 c c2 w
      · rw [← hlm]
        exact sameBytes_some b off c b2 off2 c2 l.length l m w h1 rfl hlm hc (fun j hj => hc2 j (by omega))
  · rw [eqB_len hlm]
    exact sameBytes_len a a2 l.length m.length c c2 w hlm

end Go.Proofs.Qxb6603471a
