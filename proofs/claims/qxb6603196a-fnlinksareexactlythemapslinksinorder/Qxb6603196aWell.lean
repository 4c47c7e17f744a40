/-
  wellFormed, walked.
-/
import Derived.Test.Qxb6603196aFits
namespace Go.Proofs.Qxb6603196a
open Go.RowKit

/-- The matrix in memory: the outer row's cells, and each inner row's. -/
structure Mat (w : World) (b o n : Nat) (A : Nat → Option Addr) (B O L C : Nat → Nat) (nb : Nat → List Int) : Prop where
  top : ∀ r, r < n → w.cell? ⟨b, o + r, none⟩ = some (.slice (A r) (L r) (C r))
  adr : ∀ r, r < n → 0 < L r → A r = some ⟨B r, O r, none⟩
  cel : ∀ r, r < n → ∀ j, j < L r → w.cell? ⟨B r, O r + j, none⟩ = some (.int .i32 ((nb r)[j]?.getD 0))
  len : ∀ r, r < n → (nb r).length = L r
  rng : ∀ r, r < n → ∀ j, j < L r → -2147483648 ≤ (nb r)[j]?.getD 0 ∧ (nb r)[j]?.getD 0 < 2147483648

theorem Mat.row {w : World} {b o n : Nat} {A : Nat → Option Addr} {B O L C : Nat → Nat} {nb : Nat → List Int} (h : Mat w b o n A B O L C nb) {r : Nat} (hr : r < n) : RowIn w (A r) (nb r) := by
  by_cases e : L r = 0
  · left
    have := h.len r hr
    exact List.eq_nil_of_length_eq_zero (by omega)
  · right
    refine ⟨B r, O r, h.adr r hr (by omega), fun j hj => ?_⟩
    rw [h.cel r hr j (by have := h.len r hr; omega)]
    rfl

set_option maxHeartbeats 1000000 in
theorem well_some (b o n cap : Nat) (A : Nat → Option Addr) (B O L C : Nat → Nat) (nb : Nat → List Int) (w : World) (hn : n ≤ 43690) (hL : ∀ r, r < n → L r ≤ 1048576) (hM : Mat w b o n A B O L C nb) :
    Calls Try.prog 8 #[.slice (some ⟨b, o, none⟩) n cap] w (Says (Pl.WF n nb) w) := by
  go_enter Try.func8, Try.ntmps8
  go_wp2
  go_loop [4] (fun i => ∃ k : Nat, k ≤ n ∧ i = .int .i64 k ∧ Hid (Pl.GoodRows n nb k)) (fun i => n - (intOf i).toNat)
  case atStart => exact ⟨0, Nat.zero_le _, rfl, Pl.goodRows_zero _ _⟩
  case round =>
    obtain ⟨k, hk, rfl, hG⟩ := hrel
    by_cases hlt : k < n
    · have hcell := hM.top k hlt
      have hLk := hL k hlt
      by_cases hz : L k = 0
      · have HZ : Hid (L k = 0) := hz
        go_wp2
        go_loop [6] (fun i => i = .int .i64 0) (fun _ => 0)
        case atStart => rfl
        case round =>
          subst hrel
          go_wp2
          go_round
          case rel => exact ⟨k + 1, by omega, by go_num, Pl.goodRows_succ hG.out (by rw [hM.len k hlt, HZ.out]; exact Pl.goodTo_zero _ _)⟩
          case measure => simp [intOf]; omega
      · have hA := hM.adr k hlt (by omega)
        go_wp2
        go_loop [6] (fun i => ∃ j : Nat, j ≤ L k ∧ i = .int .i64 j ∧ Hid (Pl.GoodTo n (nb k) j)) (fun i => L k - (intOf i).toNat)
        case atStart => exact ⟨0, Nat.zero_le _, rfl, Pl.goodTo_zero _ _⟩
        case round =>
          obtain ⟨j, hj, rfl, hI⟩ := hrel
          by_cases hjl : j < L k
          · have hc1 := hM.cel k hlt j hjl
            have hr1 := (hM.rng k hlt j hjl).1
            have hr2 := (hM.rng k hlt j hjl).2
            have hc2 : 0 < j → w.cell? ⟨B k, O k + (j - 1), none⟩ = some (.int .i32 ((nb k)[j - 1]?.getD 0)) := fun h => hM.cel k hlt (j - 1) (by omega)
            go_wp2
            · go_ret
              exact Says.no
            · go_ret
              exact Says.no
            · go_round
              case rel => exact ⟨j + 1, by omega, by go_num, Pl.goodTo_succ hI.out (by omega) (by omega) (fun _ => by omega)⟩
              case measure => simp [intOf]; omega
            · go_round
              case rel => exact ⟨j + 1, by omega, by go_num, Pl.goodTo_succ hI.out (by omega) (by omega) (fun _ => by omega)⟩
              case measure => simp [intOf]; omega
            · go_ret
              exact Says.no
          · have hje : j = L k := by omega
            subst hje
            go_wp2
            go_round
            case rel => exact ⟨k + 1, by omega, by go_num, Pl.goodRows_succ hG.out (by rw [hM.len k hlt]; exact hI.out)⟩
            case measure => simp [intOf]; omega
    · have hke : k = n := by omega
      subst hke
      clear hlt
      go_wp2
      go_loop [8] (fun i => ∃ m : Nat, m ≤ k ∧ i = .int .i64 m ∧ Hid (Pl.SymRows nb m)) (fun i => k - (intOf i).toNat)
      case atStart => exact ⟨0, Nat.zero_le _, rfl, Pl.symRows_zero _⟩
      case round =>
        obtain ⟨m, hm, rfl, hS⟩ := hrel
        by_cases hlt : m < k
        · have hcell := hM.top m hlt
          have hLk := hL m hlt
          by_cases hz : L m = 0
          · have HZ : Hid (L m = 0) := hz
            go_wp2
            go_loop [10] (fun i => i = .int .i64 0) (fun _ => 0)
            case atStart => rfl
            case round =>
              subst hrel
              go_wp2
              go_round
              case rel => exact ⟨m + 1, by omega, by go_num, Pl.symRows_succ hS.out (by rw [hM.len m hlt, HZ.out]; exact Pl.symTo_zero _ _ _)⟩
              case measure => simp [intOf]; omega
          · have hA := hM.adr m hlt (by omega)
            go_wp2
            go_loop [10] (fun i => ∃ j : Nat, j ≤ L m ∧ i = .int .i64 j ∧ Hid (Pl.SymTo nb m (nb m) j)) (fun i => L m - (intOf i).toNat)
            case atStart => exact ⟨0, Nat.zero_le _, rfl, Pl.symTo_zero _ _ _⟩
            case round =>
              obtain ⟨j, hj, rfl, hI⟩ := hrel
              by_cases hjl : j < L m
              · have hc1 := hM.cel m hlt j hjl
                have hg := (hG.out m hlt).2 _ (Pl.getD_mem (show j < (nb m).length by rw [hM.len m hlt]; exact hjl))
                obtain ⟨v, hv⟩ := Int.eq_ofNat_of_zero_le hg.1
                have HV : Hid ((nb m)[j]?.getD 0 = (v : Int)) := hv
                rw [hv] at hc1 hg
                clear hv
                have hvk : v < k := by omega
                have hc2 := hM.top v hvk
                have hin := (hG.out v hvk).1
                have hrow := hM.row hvk
                have hlv := hM.len v hvk
                have hLv := hL v hvk
                have HH : Hid (RowIn w (A v) (nb v) ∧ (nb v).length = L v ∧ (nb v).Pairwise (· < ·)) := ⟨hrow, hlv, hin⟩
                clear hin hrow hlv
                by_cases hb : hasB (nb v) (m : Int) = true
                · go_wp2_with (go_at_call 13; refine (has_any (A v) (L v) (C v) (nb v) (m : Int) _ HH.out.2.1 HH.out.2.2 (by omega) HH.out.1).mono ?_; rintro e w' ⟨rfl, rfl⟩)
                  go_round
                  case rel => exact ⟨j + 1, by omega, by go_num, Pl.symTo_succ hI.out (by rw [HV.out]; simpa [hasB] using hb)⟩
                  case measure => simp [intOf]; omega
                · have hb' : hasB (nb v) (m : Int) = false := by simpa using hb
                  clear hb
                  go_wp2_with (go_at_call 13; refine (has_any (A v) (L v) (C v) (nb v) (m : Int) _ HH.out.2.1 HH.out.2.2 (by omega) HH.out.1).mono ?_; rintro e w' ⟨rfl, rfl⟩)
                  go_ret
                  exact Says.no
              · have hje : j = L m := by omega
                subst hje
                go_wp2
                go_round
                case rel => exact ⟨m + 1, by omega, by go_num, Pl.symRows_succ hS.out (by rw [hM.len m hlt]; exact hI.out)⟩
                case measure => simp [intOf]; omega
        · have hme : m = k := by omega
          subst hme
          go_wp2
          go_ret
          exact Says.yes (Pl.wf_of hG.out hS.out)

theorem well_nil (a : Option Addr) (cap : Nat) (nb : Nat → List Int) (w : World) :
    Calls Try.prog 8 #[.slice a 0 cap] w (Says (Pl.WF 0 nb) w) := by
  go_enter Try.func8, Try.ntmps8
  go_wp2
  refine wp_loop_rounds 1 ?_
  rw [rounds_succ]
  go_wp2
  refine wp_loop_rounds 1 ?_
  rw [rounds_succ]
  go_wp2
  go_ret
  exact Says.yes (Pl.wf_of (Pl.goodRows_zero _ _) (Pl.symRows_zero _))
end Go.Proofs.Qxb6603196a
