/-
  zzBytes and mapFits: the bounds, walked.
-/
import Derived.Test.Qxb6603196aHas
namespace Go.Proofs.Qxb6603196a
open Go.RowKit

theorem ret_int {k : IntKind} {a b : Int} (h : a = b) : Value.int k a = .int k b := by rw [h]

/-- It answers a Bool; where that is true, p holds; the world stands. -/
def Says (p : Prop) (w : World) (e : Ending) (w' : World) : Prop := (∃ r, e = .returned (.bool r) ∧ (r = true → p)) ∧ w' = w

theorem Says.no {p : Prop} {w : World} : Says p w (.returned (.bool false)) w := ⟨⟨false, rfl, fun h => by cases h⟩, rfl⟩
theorem Says.yes {p : Prop} {w : World} (h : p) : Says p w (.returned (.bool true)) w := ⟨⟨true, rfl, fun _ => h⟩, rfl⟩

/-- What mapFits says of the lengths. -/
def Fits (n : Nat) (L : Nat → Nat) : Prop := n ≤ 43690 ∧ 24 * n + 4 * Pl.sumTo L n ≤ 1048576

set_option maxHeartbeats 400000 in
theorem fits_some (b o n cap : Nat) (A : Nat → Option Addr) (L C : Nat → Nat) (w : World) (hn : n ≤ 9223372036854775807) (hL : ∀ r, r < n → L r ≤ 9223372036854775807)
    (hc : ∀ r, r < n → w.cell? ⟨b, o + r, none⟩ = some (.slice (A r) (L r) (C r))) :
    Calls Try.prog 7 #[.slice (some ⟨b, o, none⟩) n cap] w (Says (Fits n L) w) := by
  go_enter Try.func7, Try.ntmps7
  go_wp2
  · go_ret
    exact Says.no
  · have hn' : n ≤ 43690 := by omega
    go_loop [3, 4] (fun t i => ∃ k : Nat, k ≤ n ∧ i = .int .i64 k ∧ t = .int .i64 (24 * (n : Int) + 4 * (Pl.sumTo L k : Int)) ∧ 24 * n + 4 * Pl.sumTo L k ≤ 1048576) (fun _ i => n - (intOf i).toNat)
    case atStart => exact ⟨0, Nat.zero_le _, rfl, ret_int (by simp [Pl.sumTo]), by simp [Pl.sumTo]; omega⟩
    case round =>
      obtain ⟨k, hk, rfl, rfl, hS⟩ := hrel
      have hcell : k < n → w.cell? ⟨b, o + k, none⟩ = some (.slice (A k) (L k) (C k)) := fun h => hc k h
      have hLk : k < n → L k ≤ 9223372036854775807 := fun h => hL k h
      have HS : Hid (Pl.sumTo L (k + 1) = Pl.sumTo L k + L k) := rfl
      clear hc hL
      go_wp2
      · go_ret
        exact Says.no
      · go_ret
        exact Says.no
      · go_round
        case rel => exact ⟨k + 1, by omega, by go_num, ret_int (by rw [HS.out]; omega), by rw [HS.out]; omega⟩
        case measure => simp [intOf]; omega
      · have e : k = n := by omega
        subst e
        go_ret
        exact Says.yes ⟨hn', hS⟩

theorem fits_nil (a : Option Addr) (cap : Nat) (L : Nat → Nat) (w : World) :
    Calls Try.prog 7 #[.slice a 0 cap] w (Says (Fits 0 L) w) := by
  go_enter Try.func7, Try.ntmps7
  go_wp2
  refine wp_loop_rounds 1 ?_
  rw [rounds_succ]
  go_wp2
  go_ret
  exact Says.yes ⟨by omega, by simp [Pl.sumTo]⟩

set_option maxHeartbeats 400000 in
theorem bytes_some (x : Int) (b o n cap : Nat) (A : Nat → Option Addr) (L C : Nat → Nat) (w : World) (hn : n ≤ 9223372036854775807) (hL : ∀ r, r < n → L r ≤ 9223372036854775807)
    (hc : ∀ r, r < n → w.cell? ⟨b, o + r, none⟩ = some (.slice (A r) (L r) (C r))) :
    Calls Try.prog 11 #[.int .i64 x, .slice (some ⟨b, o, none⟩) n cap] w (Says True w) := by
  go_enter Try.func11, Try.ntmps11
  go_wp2
  · go_ret
    exact Says.no
  · have hn' : n ≤ 1048576 := by omega
    go_loop [5, 6] (fun t i => ∃ k : Nat, k ≤ n ∧ i = .int .i64 k ∧ ∃ s : Int, t = .int .i64 s ∧ 0 ≤ s ∧ s ≤ 1048576) (fun _ i => n - (intOf i).toNat)
    case atStart => exact ⟨0, Nat.zero_le _, rfl, _, rfl, by omega, by omega⟩
    case round =>
      obtain ⟨k, hk, rfl, s, rfl, hs0, hs1⟩ := hrel
      have hcell : k < n → w.cell? ⟨b, o + k, none⟩ = some (.slice (A k) (L k) (C k)) := fun h => hc k h
      have hLk : k < n → L k ≤ 9223372036854775807 := fun h => hL k h
      clear hc hL
      go_wp2
      · go_ret
        exact Says.no
      · go_ret
        exact Says.no
      · go_round
        case rel => exact ⟨k + 1, by omega, by go_num, _, rfl, by omega, by omega⟩
        case measure => simp [intOf]; omega
      · go_ret
        exact Says.yes trivial

theorem bytes_nil (x : Int) (a : Option Addr) (cap : Nat) (w : World) :
    Calls Try.prog 11 #[.int .i64 x, .slice a 0 cap] w (Says True w) := by
  go_enter Try.func11, Try.ntmps11
  go_wp2
  refine wp_loop_rounds 1 ?_
  rw [rounds_succ]
  go_wp2
  go_ret
  exact Says.yes trivial
end Go.Proofs.Qxb6603196a
