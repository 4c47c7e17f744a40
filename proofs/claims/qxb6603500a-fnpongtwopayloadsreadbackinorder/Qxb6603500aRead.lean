/-
  readLE, walked.
-/
import Derived.Test.Qxb6603500aRoom
namespace Go.Proofs.Qxb6603500a
open Go.RowKit

theorem ret_val {k : IntKind} {a b : Int} (h : a = b) : Value.int k a = .int k b := by rw [h]

/-- What has been read behind k rounds: the k highest bytes. -/
def top (x : Int) : Nat → Int
  | 0 => 0
  | k + 1 => top x k * 256 + (le8 x)[7 - k]?.getD 0

theorem or_byte (v b : Int) (hv0 : 0 ≤ v) (hv1 : v < 72057594037927936) (hb0 : 0 ≤ b) (hb1 : b ≤ 255) : bits .or .u64 (v * 256) b = v * 256 + b := by
  rw [u64_or _ _ (by omega) (by omega) hb0 (by omega)]
  have e : (v * 256).toNat = 2 ^ 8 * v.toNat := by omega
  rw [e, ← Nat.two_pow_add_eq_or_of_lt (show b.toNat < 2 ^ 8 by omega)]
  omega

theorem top_at (x : Int) :
    top x 1 = x / 72057594037927936 ∧ top x 2 = x / 281474976710656 ∧ top x 3 = x / 1099511627776 ∧ top x 4 = x / 4294967296 ∧ top x 5 = x / 16777216 ∧ top x 6 = x / 65536 ∧ top x 7 = x / 256 ∧ top x 8 = x := by
  have e1 : top x 1 = x / 72057594037927936 := by simp [top, le8]
  have e2 : top x 2 = x / 281474976710656 := by rw [top, e1]; simp [le8]; omega
  have e3 : top x 3 = x / 1099511627776 := by rw [top, e2]; simp [le8]; omega
  have e4 : top x 4 = x / 4294967296 := by rw [top, e3]; simp [le8]; omega
  have e5 : top x 5 = x / 16777216 := by rw [top, e4]; simp [le8]; omega
  have e6 : top x 6 = x / 65536 := by rw [top, e5]; simp [le8]; omega
  have e7 : top x 7 = x / 256 := by rw [top, e6]; simp [le8]; omega
  have e8 : top x 8 = x := by rw [top, e7]; simp [le8]; omega
  exact ⟨e1, e2, e3, e4, e5, e6, e7, e8⟩

theorem top_bound (x : Int) (h0 : 0 ≤ x) (h1 : x < 18446744073709551616) (k : Nat) (hk : k < 8) : 0 ≤ top x k ∧ top x k < 72057594037927936 := by
  obtain ⟨e1, e2, e3, e4, e5, e6, e7, e8⟩ := top_at x
  match k, hk with
  | 0, _ => simp [top]
  | 1, _ => rw [e1]; omega
  | 2, _ => rw [e2]; omega
  | 3, _ => rw [e3]; omega
  | 4, _ => rw [e4]; omega
  | 5, _ => rw [e5]; omega
  | 6, _ => rw [e6]; omega
  | 7, _ => rw [e7]; omega

theorem le8_range (x : Int) (h0 : 0 ≤ x) (h1 : x < 18446744073709551616) (j : Nat) (hj : j < 8) : 0 ≤ (le8 x)[j]?.getD 0 ∧ (le8 x)[j]?.getD 0 ≤ 255 := by
  match j, hj with
  | 0, _ => simp [le8]; omega
  | 1, _ => simp [le8]; omega
  | 2, _ => simp [le8]; omega
  | 3, _ => simp [le8]; omega
  | 4, _ => simp [le8]; omega
  | 5, _ => simp [le8]; omega
  | 6, _ => simp [le8]; omega
  | 7, _ => simp [le8]; omega

set_option maxHeartbeats 1000000 in
theorem readLE_any (g n c at' : Nat) (x : Int) (w : World) (h0 : 0 ≤ x) (h1 : x < 18446744073709551616) (hn : at' + 8 ≤ n) (hb : n ≤ 1000000000)
    (hc : ∀ j, j < 8 → w.cell? ⟨g, at' + j, none⟩ = some (.int .u8 ((le8 x)[j]?.getD 0))) :
    Calls Try.prog 24 #[.slice (some ⟨g, 0, none⟩) n c, .int .i64 at'] w fun e w' => e = .returned (.int .u64 x) ∧ w' = w := by
  go_enter Try.func24, Try.ntmps24
  go_wp2
  go_loop [5, 6] (fun v i => ∃ k : Nat, k ≤ 8 ∧ i = .int .i64 (7 - (k : Int)) ∧ v = .int .u64 (top x k)) (fun _ i => (intOf i + 1).toNat)
  case atStart => exact ⟨0, by omega, rfl, rfl⟩
  case round =>
    obtain ⟨k, hk, rfl, rfl⟩ := hrel
    by_cases hlt : k < 8
    · obtain ⟨j, hj⟩ : ∃ j : Nat, k + j = 7 := ⟨7 - k, by omega⟩
      have hcj := hc j (by omega)
      have hr := le8_range x h0 h1 j (by omega)
      have ht := top_bound x h0 h1 k hlt
      have HT : Hid (top x (k + 1) = top x k * 256 + (le8 x)[j]?.getD 0) := by show _ = _; rw [top, show 7 - k = j from by omega]
      generalize (le8 x)[j]?.getD 0 = b at *
      generalize top x k = v at *
      obtain ⟨hr0, hr1⟩ := hr
      obtain ⟨ht0, ht1⟩ := ht
      have hi : (7 : Int) - (k : Int) = (j : Int) := by omega
      clear hc
      go_wp2
      go_round
      case rel => exact ⟨k + 1, by omega, ret_val (by omega), ret_val (by rw [or_byte v b ht0 ht1 hr0 hr1, HT.out])⟩
      case measure => simp only [intOf]; omega
    · have e : k = 8 := by omega
      subst e
      have HX : Hid (top x 8 = x) := (top_at x).2.2.2.2.2.2.2
      clear hc
      generalize top x 8 = v at *
      go_wp2
      go_ret
      exact ⟨by rw [← HX.out]; rfl, rfl⟩
end Go.Proofs.Qxb6603500a
