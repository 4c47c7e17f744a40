/-
  nameRead, walked; the reader's state in memory.
-/
import Derived.Test.Qxb6603471aEsc
namespace Go.Proofs.Qxb6603471a
open Go.RowKit
variable {P Q : Nat → Prop}

theorem read_text (rb start : Nat) (tv : Value) (w : World) (h3 : w.cell? ⟨rb, 3, none⟩ = some tv) (hs : ∃ a n c, tv = .slice a n c) :
    Calls Try.prog 50 #[.pointer (some ⟨rb, 0, none⟩), .int .i64 start, .bool true] w fun e w' => e = .returned tv ∧ ∃ q, w' = w.drewN q := by
  obtain ⟨a, n, c, rfl⟩ := hs
  go_enter Try.func50, Try.ntmps50
  go_wp2
  go_ret
  exact ⟨rfl, 0, rfl⟩

theorem read_in (rb g start p N cap : Nat) (w : World) (h0 : w.cell? ⟨rb, 0, none⟩ = some (.slice (some ⟨g, 0, none⟩) N cap)) (h1 : w.cell? ⟨rb, 1, none⟩ = some (.int .i64 p))
    (hsp : start ≤ p) (hpN : p < N) (hNc : N ≤ cap) :
    Calls Try.prog 50 #[.pointer (some ⟨rb, 0, none⟩), .int .i64 start, .bool false] w fun e w' => e = .returned (.slice (some ⟨g, start, none⟩) (p - start) (cap - start)) ∧ ∃ q, w' = w.drewN q := by
  have i0 : (0 : Int) ≤ (start : Int) := by omega
  have i1 : (start : Int) ≤ (p : Int) := by omega
  have i2 : (p : Int) ≤ (cap : Int) := by omega
  have i3 : (0 : Int) ≤ (p : Int) := by omega
  have i4 : ¬ cap = start := by omega
  go_enter Try.func50, Try.ntmps50
  go_wp2
  go_quiet (fail)
  go_wp2
  go_ret
  exact ⟨rfl, _, rfl⟩

/-! ### The reader's state in memory: r at block rb; iv: its input; p: where it stands; tv: its room, holding xs. All else that was there when it began is as it was. -/
structure St (w : World) (rb : Nat) (iv : Value) (p : Nat) (tv : Value) (xs : List Int) (wr : World) : Prop where
  c0 : wr.cell? ⟨rb, 0, none⟩ = some iv
  c1 : wr.cell? ⟨rb, 1, none⟩ = some (.int .i64 p)
  c3 : wr.cell? ⟨rb, 3, none⟩ = some tv
  f1 : wr.frozen? ⟨rb, 1, none⟩ = false
  f3 : wr.frozen? ⟨rb, 3, none⟩ = false
  own : wr.ownsRow w.heap.size 5 1 tv xs.length (vs xs)
  os : wr.os = w.os
  tape : wr.tape = w.tape
  output : wr.output = w.output
  size : w.heap.size ≤ wr.heap.size
  old : ∀ b, b < w.heap.size → b ≠ rb → wr.heap[b]? = w.heap[b]?
  rlt : rb < w.heap.size

theorem St.cell {w : World} {rb : Nat} {iv : Value} {p : Nat} {tv : Value} {xs : List Int} {wr : World} (h : St w rb iv p tv xs wr) {a : Addr} {v : Value} (hne : a.block ≠ rb) (hc : w.cell? a = some v) : wr.cell? a = some v :=
  (World.cell?_of_block (h.old a.block (block_lt_of_cell hc) hne)).trans hc

/-- The reader moves on. -/
theorem St.pos {w : World} {rb : Nat} {iv : Value} {p : Nat} {tv : Value} {xs : List Int} {wr : World} (h : St w rb iv p tv xs wr) (p' : Nat) {q : Int} (hq : q = (p' : Int)) : St w rb iv p' tv xs (wr.setCell ⟨rb, 1, none⟩ (.int .i64 q)) := by
  subst hq
  obtain ⟨c0, c1, c3, f1, f3, own, os, tape, output, size, old, rlt⟩ := h
  refine ⟨?_, ?_, ?_, ?_, ?_, ownsRow_setCell_below own rlt _, os, tape, output, by simpa [World.setCell] using size, fun b hb hne => (Below.heap_setCell _ _ _ _ hne).trans (old b hb hne), rlt⟩ <;> simp [go_sem, *]

theorem St.drewN {w : World} {rb : Nat} {iv : Value} {p : Nat} {tv : Value} {xs : List Int} {wr : World} (h : St w rb iv p tv xs wr) (q : Nat) : St w rb iv p tv xs (wr.drewN q) :=
  ⟨h.c0, h.c1, h.c3, h.f1, h.f3, h.own, h.os, h.tape, h.output, h.size, h.old, h.rlt⟩
theorem St.drew {w : World} {rb : Nat} {iv : Value} {p : Nat} {tv : Value} {xs : List Int} {wr : World} (h : St w rb iv p tv xs wr) : St w rb iv p tv xs wr.drew :=
  ⟨h.c0, h.c1, h.c3, h.f1, h.f3, h.own, h.os, h.tape, h.output, h.size, h.old, h.rlt⟩

/-- Something is appended to its room. -/
theorem St.text {w : World} {rb : Nat} {iv : Value} {p : Nat} {tv tv' : Value} {xs ys : List Int} {wr w1 : World} (h : St w rb iv p tv xs wr) (hg : Grow wr tv w1 tv') (hown : w1.ownsRow w.heap.size 5 1 tv' (xs ++ ys).length (vs (xs ++ ys))) :
    St w rb iv p tv' (xs ++ ys) (w1.setCell ⟨rb, 3, none⟩ tv') ∧ w1.cell? ⟨rb, 0, none⟩ = some iv ∧ w1.cell? ⟨rb, 1, none⟩ = some (.int .i64 p) ∧ w1.cell? ⟨rb, 3, none⟩ = some tv ∧ w1.frozen? ⟨rb, 3, none⟩ = false ∧ w1.frozen? ⟨rb, 1, none⟩ = false := by
  obtain ⟨c0, c1, c3, f1, f3, own, os, tape, output, size, old, rlt⟩ := h
  have hne : some rb ≠ tv.ownBlock := fun e => by have := (own.lt _ e.symm).1; omega
  have d0 := grow_cell hg c0 hne
  have d1 := grow_cell hg c1 hne
  have d3 := grow_cell hg c3 hne
  have hfz : ∀ i, w1.frozen? ⟨rb, i, none⟩ = wr.frozen? ⟨rb, i, none⟩ := fun i => World.frozen?_of_block (hg.gr.block rb (by omega) hne)
  have g1 := (hfz 1).trans f1
  have g3 := (hfz 3).trans f3
  refine ⟨⟨?_, ?_, ?_, ?_, ?_, ownsRow_setCell_below hown rlt _, hg.gr.os.trans os, hg.gr.tape.trans tape, hg.gr.output.trans output, ?_, fun b hb hb' => ?_, rlt⟩, d0, d1, d3, g3, g1⟩
  · simp [go_sem, *]
  · simp [go_sem, *]
  · simp [go_sem, *]
  · simp [go_sem, *]
  · simp [go_sem, *]
  · have := hg.gr.size; simp [World.setCell]; omega
  · rw [Below.heap_setCell _ _ _ _ hb', hg.gr.block b (by omega) (fun e => by have := (own.lt _ e.symm).1; omega)]
    exact old b hb hb'

theorem st_start {w : World} {rb : Nat} {iv : Value} {p : Nat} (h0 : w.cell? ⟨rb, 0, none⟩ = some iv) (h1 : w.cell? ⟨rb, 1, none⟩ = some (.int .i64 p)) (h3 : w.cell? ⟨rb, 3, none⟩ = some (.slice none 0 0))
    (f1 : w.frozen? ⟨rb, 1, none⟩ = false) (f3 : w.frozen? ⟨rb, 3, none⟩ = false) : St w rb iv p (.slice none 0 0) [] (w.setCell ⟨rb, 3, none⟩ (.slice none 0 0)) := by
  have rlt : rb < w.heap.size := block_lt_of_cell h0
  refine ⟨?_, ?_, ?_, ?_, ?_, ownsRow_setCell_below (World.ownsRow_nil _ _ _ _) rlt _, rfl, rfl, rfl, by simp [World.setCell], fun b hb hne => Below.heap_setCell _ _ _ _ hne, rlt⟩ <;> simp [go_sem, *]

theorem own_bytes {w : World} {base : Nat} {tv : Value} {xs : List Int} (h : w.ownsRow base 5 1 tv xs.length (vs xs)) (hb : xs.length ≤ 9223372036854775807) (hr : ∀ j, j < xs.length → 0 ≤ xs[j]?.getD 0 ∧ xs[j]?.getD 0 ≤ 255) : BytesAt (fun _ => True) w tv xs := by
  by_cases h0 : xs = []
  · subst h0
    rcases h.2 with ⟨hv, _⟩ | ⟨g, cap, cur, hv, _⟩
    · exact ⟨none, 0, hv, by simp, by simp, .inl rfl⟩
    · exact ⟨_, cap, hv, by simp, by simp, .inl rfl⟩
  · have hpos : 0 < xs.length := by cases xs with | nil => exact absurd rfl h0 | cons _ _ => simp
    obtain ⟨g, cap, rfl, _, _⟩ := h.form hpos
    refine ⟨_, cap, rfl, hb, hr, .inr ⟨g, 0, rfl, trivial, fun j hj => ?_⟩⟩
    rw [Nat.zero_add, h.cellAt j (by omega)]
    simp [vs, hj]

/-- nameRead: what has been read. -/
theorem read_any {w wr : World} {rb g start p N cap : Nat} {tv : Value} {xs l R : List Int} (es : Bool) (h : St w rb (.slice (some ⟨g, 0, none⟩) N cap) p tv xs wr) (hsp : start ≤ p) (hpN : p < N) (hNc : N ≤ cap) (hN : N = l.length) (hbig : N ≤ 50000000)
    (hxs : xs.length ≤ p) (hl : ∀ j, j < N → wr.cell? ⟨g, j, none⟩ = some (.int .u8 (l[j]?.getD 0))) (hR : (if es then xs else Pl.piece l start (p - start)) = R) (hr : ∀ j, j < R.length → 0 ≤ R[j]?.getD 0 ∧ R[j]?.getD 0 ≤ 255) :
    Calls Try.prog 50 #[.pointer (some ⟨rb, 0, none⟩), .int .i64 start, .bool es] wr fun e w' => ∃ a n c, e = .returned (.slice a n c) ∧ BytesAt (fun _ => True) w' (.slice a n c) R ∧ ∃ q, w' = wr.drewN q := by
  cases es with
  | true =>
    simp only [if_true] at hR
    subst hR
    have hB := own_bytes h.own (by omega) hr
    obtain ⟨a, c, hv, -⟩ := id hB
    refine (read_text rb start tv wr h.c3 ⟨a, _, c, hv⟩).mono ?_
    rintro e w' ⟨rfl, q, rfl⟩
    subst hv
    exact ⟨_, _, _, rfl, hB.below (below_drewN (Below.refl _ _) _), q, rfl⟩
  | false =>
    simp only [Bool.false_eq_true, if_false] at hR
    subst hR
    have hlen : (Pl.piece l start (p - start)).length = p - start := Pl.piece_len (by omega)
    refine (read_in rb g start p N cap wr h.c0 h.c1 hsp hpN hNc).mono ?_
    rintro e w' ⟨rfl, q, rfl⟩
    refine ⟨_, _, _, rfl, BytesAt.below ?_ (below_drewN (Below.refl _ _) _), q, rfl⟩
    refine ⟨_, cap - start, by rw [hlen], by omega, hr, .inr ⟨g, start, rfl, trivial, fun j hj => ?_⟩⟩
    rw [hlen] at hj
    rw [Pl.piece_at hj]
    exact hl (start + j) (by omega)

/-- Where the reader stands, off the memory. -/
def posOf (w : World) (rb : Nat) : Nat := match w.cell? ⟨rb, 1, none⟩ with | some (.int _ q) => q.toNat | _ => 0
theorem posOf_eq {w : World} {rb p : Nat} (h : w.cell? ⟨rb, 1, none⟩ = some (.int .i64 p)) : posOf w rb = p := by simp [posOf, h]
end Go.Proofs.Qxb6603471a
