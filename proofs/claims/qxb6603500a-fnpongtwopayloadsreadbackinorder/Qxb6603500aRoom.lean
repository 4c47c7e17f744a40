/-
  zzBytes, roomyCopy, walked.
-/
import Derived.Test.Qxb6603500aPong
namespace Go.Proofs.Qxb6603500a
open Go.RowKit
variable {P Q : Nat → Prop}

theorem own_of_row {w : World} {g n k : Nat} {l : List Int} {f : Nat → Value} (h : w.rowIs g 5 (n + k) f) (hn : n = l.length) (hf : ∀ j, j < n → f j = .int .u8 (l[j]?.getD 0)) (hk : n + k ≤ 1000000000) (base : Nat) (hb : base ≤ g) :
    w.ownsRow base 5 1 (.slice (some ⟨g, 0, none⟩) n (n + k)) n (vs l) := by
  obtain ⟨c, h1, h2, h3⟩ := h
  refine ⟨by simp [vs, hn], .inr ⟨g, n + k, c, rfl, hb, h1, by omega, by unfold maxLen; omega, by omega, ?_⟩⟩
  refine List.ext_getElem? fun j => ?_
  by_cases hj : j < n
  · rw [List.getElem?_take_of_lt (by omega)]
    have := h3 j (by omega)
    rw [hf j hj] at this
    have hjl : j < l.length := by omega
    simp [vs, hjl] at this ⊢
    exact this
  · rw [List.getElem?_eq_none (by simp; omega), List.getElem?_eq_none (by simp [vs]; omega)]

/-- make([]byte, n, n+16). -/
theorem make_room (n : Nat) (hn : n ≤ 1048576) (w : World) : (Instr.makeSlice 22 (.int .i64 (n : Int)) (.int .i64 ((n : Int) + 16))).run Try.prog w = .ok (.slice (some ⟨w.heap.size, 0, none⟩) n (n + 16)) (w.alloc (.cells (madeCells #[.int .u8 0] (n + 16)) 5)) := by
  obtain ⟨i0, hi, hz0, hz1, hz2⟩ := info_parts Try.info5
  have h := run_make (P := Try.prog) w 22 5 i0 (.int .u8 0) Try.underlying22 hi hz0 .i64 .i64 (n : Int) ((n : Int) + 16) (by omega) (by omega) (by rw [hz2]; omega) (by omega)
  have e2 : ((n : Int) + 16).toNat = n + 16 := by omega
  rw [hz1, Int.toNat_natCast, e2, Nat.mul_one] at h
  exact h

theorem bytes_any (x y : Int) (a : Option Addr) (n c : Nat) (w : World) (h : n ≤ 9223372036854775807) :
    Calls Try.prog 21 #[.int .u64 x, .int .u64 y, .slice a n c] w fun e w' => (∃ r, e = .returned (.bool r)) ∧ w' = w := by
  go_enter Try.func21, Try.ntmps21
  go_wp2
  all_goals
    go_ret
    exact ⟨⟨_, rfl⟩, rfl⟩

set_option maxHeartbeats 1000000 in
theorem room_some (b off n cap : Nat) (l : List Int) (w : World) (hn : n ≤ 1048576) (hl : n = l.length) (hc : ∀ j, j < n → w.cell? ⟨b, off + j, none⟩ = some (.int .u8 (l[j]?.getD 0))) :
    Calls Try.prog 22 #[.slice (some ⟨b, off, none⟩) n cap] w fun e w' => e = .returned (.slice (some ⟨w.heap.size, 0, none⟩) n (n + 16)) ∧ w'.rowIs w.heap.size 5 (n + 16) (filled l n) ∧ Below w.heap.size w w' := by
  have hmk := make_room n hn
  have HL : Hid (n = l.length) := hl
  clear hl
  go_enter Try.func22, Try.ntmps22
  go_wp2
  go_loopw [4] (fun i wr => ∃ k : Nat, k ≤ n ∧ i = .int .i64 k ∧ wr.rowIs w.heap.size 5 (n + 16) (filled l k) ∧ Below w.heap.size w wr) (fun i _ => n - (intOf i).toNat)
  case atStart => exact ⟨0, Nat.zero_le _, rfl, (World.rowIs_made w (.int .u8 0) (n + 16) 5).congr (fun j _ => by simp [filled]), (Below.refl _ _).alloc (Nat.le_refl _) _⟩
  case round =>
    obtain ⟨k, hk, rfl, hrow, hb⟩ := hrel
    by_cases hlt : k < n
    · have hc1 := keep hb (hc k hlt)
      have hc2 := hrow.cell (i := k) (by omega)
      have hf2 := hrow.frozen k
      have R := filled_step hrow
      have RB := hb.setCell (p := ⟨w.heap.size, k, none⟩) (Nat.le_refl _) (.int .u8 (l[k]?.getD 0))
      have HR : Hid ((wr.setCell ⟨w.heap.size, k, none⟩ (.int .u8 (l[k]?.getD 0))).rowIs w.heap.size 5 (n + 16) (filled l (k + 1)) ∧ Below w.heap.size w (wr.setCell ⟨w.heap.size, k, none⟩ (.int .u8 (l[k]?.getD 0)))) := ⟨R, RB⟩
      clear R RB hrow hb hmk hc
      go_wp2
      go_roundw
      case rel => exact ⟨k + 1, by omega, by go_num, HR.out.1, HR.out.2⟩
      case measure => simp [intOf]; omega
    · have e : k = n := by omega
      subst e
      go_wp2
      go_ret
      exact ⟨rfl, hrow, hb⟩

theorem room_empty (a : Option Addr) (cap : Nat) (w : World) :
    Calls Try.prog 22 #[.slice a 0 cap] w fun e w' => e = .returned (.slice (some ⟨w.heap.size, 0, none⟩) 0 16) ∧ w'.rowIs w.heap.size 5 16 (filled [] 0) ∧ Below w.heap.size w w' := by
  have hmk : ∀ w : World, (Instr.makeSlice 22 (.int .i64 0) (.int .i64 16)).run Try.prog w = .ok (.slice (some ⟨w.heap.size, 0, none⟩) 0 16) (w.alloc (.cells (madeCells #[.int .u8 0] 16) 5)) := make_room 0 (by omega)
  go_enter Try.func22, Try.ntmps22
  go_wp2
  refine wp_loop_rounds 1 ?_
  rw [rounds_succ]
  go_wp2
  go_ret
  exact ⟨rfl, (World.rowIs_made w (.int .u8 0) 16 5).congr (fun j _ => by simp [filled]), (Below.refl _ _).alloc (Nat.le_refl _) _⟩

/-- roomyCopy: a row of one's own with the same bytes. -/
theorem room_any (a : Option Addr) (n cap : Nat) (l : List Int) (w : World) (hn : n ≤ 1048576) (h : BytesAt P w (.slice a n cap) l) :
    Calls Try.prog 22 #[.slice a n cap] w fun e w' => e = .returned (.slice (some ⟨w.heap.size, 0, none⟩) n (n + 16)) ∧ w'.ownsRow w.heap.size 5 1 (.slice (some ⟨w.heap.size, 0, none⟩) n (n + 16)) n (vs l) ∧ Below w.heap.size w w' := by
  obtain ⟨a1, cap1, hv, h1, h2, h3⟩ := h
  simp only [Value.slice.injEq] at hv
  obtain ⟨rfl, rfl, rfl⟩ := hv
  rcases h3 with rfl | ⟨b, off, rfl, -, hc⟩
  · refine (room_empty a cap w).mono ?_
    rintro e w' ⟨rfl, hr, hb⟩
    exact ⟨rfl, own_of_row (n := 0) (k := 16) hr rfl (fun j hj => by omega) (by omega) _ (Nat.le_refl _), hb⟩
  · refine (room_some b off l.length cap l w hn rfl hc).mono ?_
    rintro e w' ⟨rfl, hr, hb⟩
    exact ⟨rfl, own_of_row hr rfl (fun j hj => by simp only [filled]; rw [if_pos hj]) (by omega) _ (Nat.le_refl _), hb⟩
end Go.Proofs.Qxb6603500a
