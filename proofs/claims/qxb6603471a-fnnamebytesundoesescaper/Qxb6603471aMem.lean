/-
  Byte slices in memory; cloneBytes, walked.
-/
import Derived.Test.Qxb6603471aProg
import Derived.WalkKit
import Derived.WalkSpells
import Derived.Below
import Derived.Deep.OwnRows
namespace Go.Proofs.Qxb6603471a
open Go.RowKit
variable {P : Nat → Prop}

theorem ret_bool {a b : Bool} (h : a = b) : Ending.returned (.bool a) = .returned (.bool b) := by rw [h]

/-- A byte slice in memory: its value is v, its bytes are l. -/
def BytesAt (P : Nat → Prop) (w : World) (v : Value) (l : List Int) : Prop :=
  ∃ a cap, v = .slice a l.length cap ∧ l.length ≤ 9223372036854775807 ∧ (∀ j, j < l.length → 0 ≤ l[j]?.getD 0 ∧ l[j]?.getD 0 ≤ 255) ∧
    (l = [] ∨ ∃ b off, a = some ⟨b, off, none⟩ ∧ P b ∧ ∀ j, j < l.length → w.cell? ⟨b, off + j, none⟩ = some (.int .u8 (l[j]?.getD 0)))

theorem keep {w w' : World} (hb : Below w.heap.size w w') {a : Addr} {v : Value} (h : w.cell? a = some v) : w'.cell? a = some v :=
  (hb.cell (block_lt_of_cell h)).trans h

/-- The worlds hold the same wherever both P allows it and w has a block. -/
def Agree (P : Nat → Prop) (w w' : World) : Prop := ∀ b, P b → b < w.heap.size → w'.heap[b]? = w.heap[b]?
theorem Agree.cell {w w' : World} (h : Agree P w w') {a : Addr} {v : Value} (hp : P a.block) (hc : w.cell? a = some v) : w'.cell? a = some v :=
  (World.cell?_of_block (w := w) (h a.block hp (block_lt_of_cell hc))).trans hc
theorem agree_below {w w' : World} (hb : Below w.heap.size w w') : Agree P w w' := fun b _ h => hb.block b h

theorem BytesAt.agree {Q : Nat → Prop} {w w' : World} {v : Value} {l : List Int} (h : BytesAt P w v l) (hb : Agree P w w') (hq : ∀ b, P b → Q b) : BytesAt Q w' v l := by
  obtain ⟨a, cap, h1, h2, h3, h4⟩ := h
  refine ⟨a, cap, h1, h2, h3, ?_⟩
  rcases h4 with h4 | ⟨b, off, h5, hp, h6⟩
  · exact .inl h4
  · exact .inr ⟨b, off, h5, hq _ hp, fun j hj => hb.cell hp (h6 j hj)⟩

theorem BytesAt.below {w w' : World} {v : Value} {l : List Int} (h : BytesAt P w v l) (hb : Below w.heap.size w w') : BytesAt P w' v l := h.agree (agree_below hb) fun _ h => h
/-! ### cloneBytes -/
theorem Try.info5 : (Try.prog.info? 5).map (fun i => (i.zero, i.size, i.bytes)) = some (some (.int .u8 0), 1, 1) := by kernel_rfl

/-- Copied so far: k bytes; the rest is zero. -/
def filled (l : List Int) (k : Nat) : Nat → Value := fun j => if j < k then .int .u8 (l[j]?.getD 0) else .int .u8 0

theorem filled_step {wr : World} {g n : Nat} {l : List Int} {k : Nat} (h : wr.rowIs g 5 n (filled l k)) : (wr.setCell ⟨g, k, none⟩ (.int .u8 (l[k]?.getD 0))).rowIs g 5 n (filled l (k + 1)) := by
  refine (h.set k _).congr fun j hj => ?_
  simp only [filled]
  by_cases e : j = k
  · subst e; simp
  · rw [if_neg e]
    by_cases e2 : j < k
    · rw [if_pos e2, if_pos (by omega)]
    · rw [if_neg e2, if_neg (by omega)]

theorem bytes_of_row {w : World} {g : Nat} {l : List Int} (hg : P g) (hr : w.rowIs g 5 l.length (filled l l.length)) (h1 : l.length ≤ 9223372036854775807) (h2 : ∀ j, j < l.length → 0 ≤ l[j]?.getD 0 ∧ l[j]?.getD 0 ≤ 255) :
    BytesAt P w (.slice (some ⟨g, 0, none⟩) l.length l.length) l :=
  ⟨_, _, rfl, h1, h2, .inr ⟨g, 0, rfl, hg, fun j hj => by rw [Nat.zero_add, hr.cell hj]; simp only [filled]; rw [if_pos hj]⟩⟩

set_option maxHeartbeats 400000 in
theorem clone_some (b off n cap : Nat) (l : List Int) (w : World) (hn : n ≤ 1048576) (hl : n = l.length) (hc : ∀ j, j < n → w.cell? ⟨b, off + j, none⟩ = some (.int .u8 (l[j]?.getD 0))) :
    Calls Try.prog 11 #[.slice (some ⟨b, off, none⟩) n cap] w fun e w' => e = .returned (.slice (some ⟨w.heap.size, 0, none⟩) n n) ∧ w'.rowIs w.heap.size 5 n (filled l n) ∧ Below w.heap.size w w' := by
  have hnil := fun (w : World) (n c : Nat) => Lib.run_eql_slice_nil (P := Try.prog) w 22 5 (some ⟨b, off, none⟩) n c 0 0 Try.underlying22
  have hmk := run_make_row' (P := Try.prog) 22 5 (.int .u8 0) 1 Try.underlying22 Try.info5 rfl .i64 .i64 n (by omega) (by omega)
  have HL : Hid (n = l.length) := hl
  clear hl
  go_enter Try.func11, Try.ntmps11
  go_wp2
  go_loopw [4] (fun i wr => ∃ k : Nat, k ≤ n ∧ i = .int .i64 k ∧ wr.rowIs w.heap.size 5 n (filled l k) ∧ Below w.heap.size w wr) (fun i _ => n - (intOf i).toNat)
  case atStart => exact ⟨0, Nat.zero_le _, rfl, (World.rowIs_made w (.int .u8 0) n 5).congr (fun j _ => by simp [filled]), (Below.refl _ _).alloc (Nat.le_refl _) _⟩
  case round =>
    obtain ⟨k, hk, rfl, hrow, hb⟩ := hrel
    by_cases hlt : k < n
    · have hc1 := keep hb (hc k hlt)
      have hc2 := hrow.cell hlt
      have hf2 := hrow.frozen k
      have R := filled_step hrow
      have RB := hb.setCell (p := ⟨w.heap.size, k, none⟩) (Nat.le_refl _) (.int .u8 (l[k]?.getD 0))
      have HR : Hid ((wr.setCell ⟨w.heap.size, k, none⟩ (.int .u8 (l[k]?.getD 0))).rowIs w.heap.size 5 n (filled l (k + 1)) ∧ Below w.heap.size w (wr.setCell ⟨w.heap.size, k, none⟩ (.int .u8 (l[k]?.getD 0)))) := ⟨R, RB⟩
      clear R RB hrow hb hnil hmk hc
      go_wp2
      go_roundw
      case rel => exact ⟨k + 1, by omega, by go_num, HR.out.1, HR.out.2⟩
      case measure => simp [intOf]; omega
    · have e : k = n := by omega
      subst e
      go_wp2
      go_ret
      exact ⟨rfl, hrow, hb⟩

theorem clone_nil (cap : Nat) (w : World) :
    Calls Try.prog 11 #[.slice none 0 cap] w fun e w' => e = .returned (.slice none 0 0) ∧ w' = w := by
  have hnil := fun (w : World) (n c : Nat) => Lib.run_eql_slice_nil (P := Try.prog) w 22 5 none n c 0 0 Try.underlying22
  go_enter Try.func11, Try.ntmps11
  go_wp2
  go_ret
  exact ⟨rfl, rfl⟩

theorem clone_empty (x : Addr) (cap : Nat) (w : World) :
    Calls Try.prog 11 #[.slice (some x) 0 cap] w fun e w' => e = .returned (.slice (some ⟨w.heap.size, 0, none⟩) 0 0) ∧ Below w.heap.size w w' := by
  have hnil := fun (w : World) (n c : Nat) => Lib.run_eql_slice_nil (P := Try.prog) w 22 5 (some x) n c 0 0 Try.underlying22
  have hmk : ∀ w : World, (Instr.makeSlice 22 (.int .i64 0) (.int .i64 0)).run Try.prog w = .ok (.slice (some ⟨w.heap.size, 0, none⟩) 0 0) (w.alloc (.cells (madeCells #[.int .u8 0] 0) 5)) :=
    run_make_row' (P := Try.prog) 22 5 (.int .u8 0) 1 Try.underlying22 Try.info5 rfl .i64 .i64 0 (by omega) (by omega)
  go_enter Try.func11, Try.ntmps11
  go_wp2
  refine wp_loop_rounds 1 ?_
  rw [rounds_succ]
  go_wp2
  go_ret
  exact ⟨rfl, (Below.refl _ _).alloc (Nat.le_refl _) _⟩

/-- cloneBytes: a slice with the same bytes. -/
theorem clone_any (a : Option Addr) (n cap : Nat) (l : List Int) (w : World) (hn : n ≤ 1048576) (h : BytesAt P w (.slice a n cap) l) :
    Calls Try.prog 11 #[.slice a n cap] w fun e w' => ∃ a' c', e = .returned (.slice a' n c') ∧ BytesAt (fun b => w.heap.size ≤ b) w' (.slice a' n c') l ∧ Below w.heap.size w w' := by
  obtain ⟨a1, cap1, hv, h1, h2, h3⟩ := h
  simp only [Value.slice.injEq] at hv
  obtain ⟨rfl, rfl, rfl⟩ := hv
  rcases h3 with rfl | ⟨b, off, rfl, -, hc⟩
  · cases a with
    | none =>
      refine (clone_nil cap w).mono ?_
      rintro e w' ⟨rfl, rfl⟩
      exact ⟨_, _, rfl, ⟨_, _, rfl, by simp, by simp, .inl rfl⟩, Below.refl _ _⟩
    | some x =>
      refine (clone_empty x cap w).mono ?_
      rintro e w' ⟨rfl, hb⟩
      exact ⟨_, _, rfl, ⟨_, _, rfl, by simp, by simp, .inl rfl⟩, hb⟩
  · refine (clone_some b off l.length cap l w hn rfl hc).mono ?_
    rintro e w' ⟨rfl, hr, hb⟩
    exact ⟨_, _, rfl, bytes_of_row (Nat.le_refl _) hr h1 h2, hb⟩

end Go.Proofs.Qxb6603471a
