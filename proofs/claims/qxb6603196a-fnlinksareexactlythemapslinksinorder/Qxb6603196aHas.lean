/-
  hasNeighbour: the binary search, walked.
-/
import Derived.Test.Qxb6603196aProg
import Derived.Test.Qxb6603196aPlain
import Derived.WalkKit
import Derived.WalkSpells
import Derived.Below
namespace Go.Proofs.Qxb6603196a
open Go.RowKit

/-- A row of int32 in memory: empty, or its cells lie there. -/
def RowIn (w : World) (a : Option Addr) (l : List Int) : Prop :=
  l = [] ∨ ∃ b off, a = some ⟨b, off, none⟩ ∧ ∀ j, j < l.length → w.cell? ⟨b, off + j, none⟩ = some (.int .i32 (l.getD j 0))

theorem ret_bool {a b : Bool} (h : a = b) : Ending.returned (.bool a) = .returned (.bool b) := by rw [h]

/-- Is x in l? -/
def hasB (l : List Int) (x : Int) : Bool := decide (x ∈ l)

theorem has_yes {l : List Int} {x : Int} (m : Nat) (hm : m < l.length) (h1 : ¬ l[m]?.getD 0 < x) (h2 : ¬ x < l[m]?.getD 0) : hasB l x = true := by
  unfold hasB
  rw [decide_eq_true_eq]
  have e : l[m]?.getD 0 = l[m] := by simp [hm]
  rw [e] at h1 h2
  have e2 : x = l[m] := by omega
  rw [e2]
  exact List.getElem_mem hm

theorem has_no {l : List Int} {x : Int} (lo hi : Nat) (h : ¬ lo < hi) (h1 : ∀ i, i < lo → i < l.length → l[i]?.getD 0 < x) (h2 : ∀ i, hi ≤ i → i < l.length → x < l[i]?.getD 0) : hasB l x = false := by
  unfold hasB
  rw [decide_eq_false_iff_not]
  intro hx
  obtain ⟨i, hi', rfl⟩ := List.mem_iff_getElem.1 hx
  by_cases hh : i < lo
  · have := h1 i hh hi'
    simp [hi'] at this
  · have := h2 i (by omega) hi'
    simp [hi'] at this

theorem inc_lt {l : List Int} (hs : l.Pairwise (· < ·)) {i j : Nat} (hij : i ≤ j) (hj : j < l.length) : l[i]?.getD 0 ≤ l[j]?.getD 0 := by
  have hi : i < l.length := by omega
  by_cases e : i = j
  · subst e; exact Int.le_refl _
  · have := List.pairwise_iff_getElem.1 hs i j hi hj (by omega)
    simp [hi, hj]; omega

set_option maxHeartbeats 400000 in
theorem has_some (b off len cap : Nat) (l : List Int) (x : Int) (w : World) (hl : l.length = len) (hs : l.Pairwise (· < ·)) (hbig : len ≤ 9223372036854775807)
    (hc : ∀ j, j < len → w.cell? ⟨b, off + j, none⟩ = some (.int .i32 (l.getD j 0))) :
    Calls Try.prog 13 #[.slice (some ⟨b, off, none⟩) len cap, .int .i32 x] w fun e w' => e = .returned (.bool (hasB l x)) ∧ w' = w := by
  have HL : Hid (l.length = len) := hl
  have HS : Hid (l.Pairwise (· < ·)) := hs
  clear hl hs
  go_enter Try.func13, Try.ntmps13
  go_wp2
  go_loop [5, 6] (fun lo hi => ∃ p q : Nat, p ≤ q ∧ q ≤ len ∧ lo = .int .i64 p ∧ hi = .int .i64 q ∧ Hid ((∀ i, i < p → i < l.length → l[i]?.getD 0 < x) ∧ (∀ i, q ≤ i → i < l.length → x < l[i]?.getD 0)))
    (fun lo hi => (intOf hi).toNat - (intOf lo).toNat)
  case atStart => exact ⟨0, len, Nat.zero_le _, Nat.le_refl _, rfl, rfl, ⟨fun i h => by omega, fun i h h' => by have := HL.out; omega⟩⟩
  case round =>
    obtain ⟨p, q, hpq, hq, rfl, rfl, hinv⟩ := hrel
    have hcell : p < q → w.cell? ⟨b, off + (p + (q - p) / 2), none⟩ = some (.int .i32 (l.getD (p + (q - p) / 2) 0)) := fun _ => hc _ (by omega)
    go_wp2
    · have hlt : p < q := by assumption
      have hx : l[p + (q - p) / 2]?.getD 0 < x := by assumption
      go_round
      case rel =>
        refine ⟨p + (q - p) / 2 + 1, q, by omega, hq, by go_num, rfl, fun i hi hi' => ?_, hinv.out.2⟩
        have hL := HL.out
        have := inc_lt HS.out (show i ≤ p + (q - p) / 2 by omega) (by omega)
        omega
      case measure => simp only [intOf]; omega
    · have hlt : p < q := by assumption
      have hx : x < l[p + (q - p) / 2]?.getD 0 := by assumption
      go_round
      case rel =>
        refine ⟨p, p + (q - p) / 2, by omega, by omega, rfl, by go_num, hinv.out.1, fun i hi hi' => ?_⟩
        have hL := HL.out
        have := inc_lt HS.out (show p + (q - p) / 2 ≤ i by omega) (by omega)
        omega
      case measure => simp only [intOf]; omega
    · have hlt : p < q := by assumption
      have hx : x ≤ l[p + (q - p) / 2]?.getD 0 := by assumption
      have hx' : l[p + (q - p) / 2]?.getD 0 ≤ x := by assumption
      have hL := HL.out
      have hy := has_yes (l := l) (x := x) (p + (q - p) / 2) (by omega) (by omega) (by omega)
      go_ret
      exact ⟨ret_bool hy.symm, rfl⟩
    · have hlt : ¬ p < q := by assumption
      have hn := has_no (l := l) (x := x) p q hlt hinv.out.1 hinv.out.2
      go_ret
      exact ⟨ret_bool hn.symm, rfl⟩

theorem has_nil (a : Option Addr) (cap : Nat) (x : Int) (w : World) :
    Calls Try.prog 13 #[.slice a 0 cap, .int .i32 x] w fun e w' => e = .returned (.bool (hasB [] x)) ∧ w' = w := by
  go_enter Try.func13, Try.ntmps13
  go_wp2
  refine wp_loop_rounds 1 ?_
  rw [rounds_succ]
  go_wp2
  go_ret
  exact ⟨rfl, rfl⟩

theorem has_any (a : Option Addr) (len cap : Nat) (l : List Int) (x : Int) (w : World) (hl : l.length = len) (hs : l.Pairwise (· < ·)) (hbig : len ≤ 9223372036854775807) (hr : RowIn w a l) :
    Calls Try.prog 13 #[.slice a len cap, .int .i32 x] w fun e w' => e = .returned (.bool (hasB l x)) ∧ w' = w := by
  rcases hr with rfl | ⟨b, off, rfl, hc⟩
  · obtain rfl : len = 0 := by simpa using hl.symm
    exact has_nil a cap x w
  · exact has_some b off len cap l x w hl hs hbig (fun j hj => hc j (by omega))
end Go.Proofs.Qxb6603196a
