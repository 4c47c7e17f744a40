/-
  (*Map).Links, walked.
-/
import Derived.Test.Qxb6603196aWell
import Derived.Deep.AppendLies
namespace Go.Proofs.Qxb6603196a
open Go.RowKit

theorem Try.info33 : (Try.prog.info? 33).map (fun i => (i.zero, i.size, i.bytes)) = some (some (.agg #[.int .i32 0, .int .i32 0]), 2, 8) := by kernel_rfl

theorem Mat.below {w w' : World} {b o n : Nat} {A : Nat → Option Addr} {B O L C : Nat → Nat} {nb : Nat → List Int} (h : Mat w b o n A B O L C nb) (hb : Below w.heap.size w w') : Mat w' b o n A B O L C nb :=
  ⟨fun r hr => (hb.cell (block_lt_of_cell (h.top r hr))).trans (h.top r hr), h.adr, fun r hr j hj => (hb.cell (block_lt_of_cell (h.cel r hr j hj))).trans (h.cel r hr j hj), h.len, h.rng⟩

/-- The cells of a list of pairs. -/
def pc : List (Int × Int) → List Value
  | [] => []
  | p :: l => .int .i32 p.1 :: .int .i32 p.2 :: pc l

theorem pc_append (l m : List (Int × Int)) : pc (l ++ m) = pc l ++ pc m := by
  induction l with
  | nil => rfl
  | cons p l ih => simp [pc, ih]

theorem pc_at : ∀ (l : List (Int × Int)) (i : Nat) (h : i < l.length), (pc l)[i * 2]? = some (.int .i32 l[i].1) ∧ (pc l)[i * 2 + 1]? = some (.int .i32 l[i].2)
  | [], i, h => by simp at h
  | p :: l, 0, h => by simp [pc]
  | p :: l, i + 1, h => by
    have := pc_at l i (by simpa using h)
    have e : (i + 1) * 2 = i * 2 + 1 + 1 := by omega
    rw [e]
    simpa [pc] using this

/-- One pair more. -/
theorem rel_hit {w wr w1 : World} {v v' : Value} {l : List (Int × Int)} {p : Int × Int} {o : Obj} (hnx : Below w.heap.size w wr)
    (hown : wr.ownsRow w.heap.size 33 2 v l.length (pc l)) (hown' : w1.ownsRow w.heap.size 33 2 v' (l.length + 1) (pc l ++ [.int .i32 p.1, .int .i32 p.2]))
    (hg : (wr.alloc o).grownBy w1 v.ownBlock) : w1.ownsRow w.heap.size 33 2 v' (l ++ [p]).length (pc (l ++ [p])) ∧ Below w.heap.size w w1 := by
  refine ⟨?_, ?_⟩
  · rw [pc_append]
    simpa [pc] using hown'
  · exact (hnx.alloc hnx.size o).grown hg (by have := hnx.size; simp; omega) (fun k hk => (hown.lt k hk).1)

set_option maxHeartbeats 1000000 in
theorem links_some (bm b o n cap : Nat) (A : Nat → Option Addr) (B O L C : Nat → Nat) (nb : Nat → List Int) (w : World) (hn : n ≤ 43690) (hL : ∀ r, r < n → Pl.sumTo (fun a => (nb a).length) r + L r ≤ 1048576) (hM : Mat w b o n A B O L C nb)
    (hm : w.cell? ⟨bm, 1, none⟩ = some (.slice (some ⟨b, o, none⟩) n cap)) :
    Calls Try.prog 12 #[.pointer (some ⟨bm, 0, none⟩)] w fun e w' => ∃ v, e = .returned v ∧ w'.ownsRow w.heap.size 33 2 v (Pl.links nb n).length (pc (Pl.links nb n)) ∧ Below w.heap.size w w' := by
  obtain ⟨i0, hi, hz0, hz1, hz2⟩ := info_parts Try.info33
  go_enter Try.func12, Try.ntmps12
  go_wp2
  go_loopw [3, 13] (fun v i wr => ∃ k : Nat, k ≤ n ∧ i = .int .i64 k ∧ wr.ownsRow w.heap.size 33 2 v (Pl.links nb k).length (pc (Pl.links nb k)) ∧ Below w.heap.size w wr) (fun _ i _ => n - (intOf i).toNat)
  case atStart => exact ⟨0, Nat.zero_le _, rfl, World.ownsRow_nil _ _ _ _, Below.refl _ _⟩
  case round =>
    obtain ⟨k, hk, rfl, hown, hnx⟩ := hrel
    by_cases hlt : k < n
    · have hMr := hM.below hnx
      have hcell := hMr.top k hlt
      have hLk := hL k hlt
      by_cases hz : L k = 0
      · have HZ : Hid (L k = 0) := hz
        go_wp2
        go_loopw [3, 20] (fun v i wr => i = .int .i64 0 ∧ wr.ownsRow w.heap.size 33 2 v (Pl.links nb k).length (pc (Pl.links nb k)) ∧ Below w.heap.size w wr) (fun _ _ _ => 0)
        case atStart => exact ⟨rfl, hown, hnx⟩
        case round =>
          clear hown hMr hcell
          rename World => wi
          obtain ⟨rfl, hown, hnx'⟩ := hrel
          have hp := Pl.part_all nb k
          rw [hM.len k hlt, HZ.out, Pl.part_zero] at hp
          rw [hp] at hown
          clear hp
          go_wp2
          go_roundw
          case rel => exact ⟨k + 1, by omega, by go_num, hown, hnx'⟩
          case measure => simp [intOf]; omega
      · have hA := hMr.adr k hlt (by omega)
        go_wp2
        go_loopw [3, 20] (fun v i wr => ∃ j : Nat, j ≤ L k ∧ i = .int .i64 j ∧ wr.ownsRow w.heap.size 33 2 v (Pl.part nb k j).length (pc (Pl.part nb k j)) ∧ Below w.heap.size w wr) (fun _ i _ => L k - (intOf i).toNat)
        case atStart => exact ⟨0, Nat.zero_le _, rfl, by rw [Pl.part_zero]; exact hown, hnx⟩
        case round =>
          clear hown hMr hcell
          rename World => wi
          obtain ⟨j, hj, rfl, hown, hnx'⟩ := hrel
          by_cases hjl : j < L k
          · have hMr := hM.below hnx'
            have hc1 := hMr.cel k hlt j hjl
            have hr1 := (hMr.rng k hlt j hjl).1
            have hr2 := (hMr.rng k hlt j hjl).2
            have hpl := Pl.part_len nb k j
            have hsz := hnx'.size
            have hlen := hM.len k hlt
            have HLN : Hid ((nb k).length = L k) := hlen
            clear hlen hMr
            by_cases hx : (k : Int) < (nb k)[j]?.getD 0
            · go_wp2_with (at_builtin; refine wpList_append_own _ rfl _ _ 31 rfl w.heap.size 33 i0 (.agg #[.int .i32 0, .int .i32 0]) 2 8 Try.underlying31 hi hz0 hz1 hz2 rfl (by decide) _ _ _ rfl (hown.alloc _) ⟨wi.heap.size, 0, none⟩ 1 1 [.int .i32 k, .int .i32 ((nb k)[j]?.getD 0)] rfl rfl ?c1 ?c2 ?c3 ?c4 ?c5 ?_)
              case c1 =>
                intro i u hi
                match i, hi with
                | 0, hi => simp at hi; subst hi; simp [Addr.add]
                | 1, hi => simp at hi; subst hi; simp [Addr.add]
              case c2 => intro u hu; simp at hu; rcases hu with rfl | rfl <;> rfl
              case c3 => unfold maxLen; omega
              case c4 => omega
              case c5 => simp; omega
              · intro v' w1 hown' hgrow _
                have R := rel_hit (p := ((k : Int), (nb k)[j]?.getD 0)) hnx' hown hown' hgrow
                rw [← Pl.part_hit (by rw [HLN.out]; exact hjl) hx] at R
                clear hown' hgrow hown
                go_wp2
                go_roundw
                case rel => exact ⟨j + 1, by omega, by go_num, R.1, R.2⟩
                case measure => simp [intOf]; omega
            · have hx' : (nb k)[j]?.getD 0 ≤ (k : Int) := by omega
              go_wp2
              go_roundw
              case rel => exact ⟨j + 1, by omega, by go_num, by rw [Pl.part_miss (by rw [HLN.out]; exact hjl) hx]; exact hown, hnx'⟩
              case measure => simp [intOf]; omega
          · have hje : j = L k := by omega
            subst hje
            rw [← hM.len k hlt, Pl.part_all] at hown
            go_wp2
            go_roundw
            case rel => exact ⟨k + 1, by omega, by go_num, hown, hnx'⟩
            case measure => simp [intOf]; omega
    · have hke : k = n := by omega
      subst hke
      go_wp2
      go_ret
      exact ⟨_, rfl, hown, hnx⟩

theorem links_nil (bm cap : Nat) (a : Option Addr) (nb : Nat → List Int) (w : World) (hm : w.cell? ⟨bm, 1, none⟩ = some (.slice a 0 cap)) :
    Calls Try.prog 12 #[.pointer (some ⟨bm, 0, none⟩)] w fun e w' => ∃ v, e = .returned v ∧ w'.ownsRow w.heap.size 33 2 v (Pl.links nb 0).length (pc (Pl.links nb 0)) ∧ Below w.heap.size w w' := by
  go_enter Try.func12, Try.ntmps12
  go_wp2
  refine wp_loop_rounds 1 ?_
  rw [rounds_succ]
  go_wp2
  go_ret
  exact ⟨_, rfl, World.ownsRow_nil _ _ _ _, Below.refl _ _⟩

/-- What came back from Links, read cell by cell. -/
def Got (w : World) (ga : Option Addr) (l : List (Int × Int)) : Prop :=
  l = [] ∨ ∃ g, ga = some ⟨g, 0, none⟩ ∧ g < w.heap.size ∧ ∀ i (h : i < l.length), w.cell? ⟨g, i * 2, none⟩ = some (.int .i32 l[i].1) ∧ w.cell? ⟨g, i * 2 + 1, none⟩ = some (.int .i32 l[i].2)

theorem got_of {w : World} {base : Nat} {v : Value} {l : List (Int × Int)} (h : w.ownsRow base 33 2 v l.length (pc l)) : ∃ ga gc, v = .slice ga l.length gc ∧ Got w ga l := by
  by_cases hl : l.length = 0
  · rcases h.2 with ⟨hv, _⟩ | ⟨g, cap, cur, hv, _⟩
    · exact ⟨none, 0, by rw [hv, hl], .inl (List.eq_nil_of_length_eq_zero hl)⟩
    · exact ⟨_, cap, hv, .inl (List.eq_nil_of_length_eq_zero hl)⟩
  · obtain ⟨g, cap, rfl, _, hlt⟩ := h.form (by omega)
    refine ⟨_, cap, rfl, .inr ⟨g, rfl, hlt, fun i hi => ?_⟩⟩
    have := pc_at l i hi
    rw [h.cellAt (i * 2) (by omega), h.cellAt (i * 2 + 1) (by omega)]
    exact this

theorem links_got {bm : Nat} {n : Nat} {nb : Nat → List Int} {w : World}
    (h : Calls Try.prog 12 #[.pointer (some ⟨bm, 0, none⟩)] w fun e w' => ∃ v, e = .returned v ∧ w'.ownsRow w.heap.size 33 2 v (Pl.links nb n).length (pc (Pl.links nb n)) ∧ Below w.heap.size w w') :
    Calls Try.prog 12 #[.pointer (some ⟨bm, 0, none⟩)] w fun e w' => ∃ ga gc m, e = .returned (.slice ga m gc) ∧ Hid (m = (Pl.links nb n).length) ∧ Got w' ga (Pl.links nb n) ∧ Below w.heap.size w w' := by
  refine h.mono ?_
  rintro e w' ⟨v, rfl, hown, hb⟩
  obtain ⟨ga, gc, rfl, hg⟩ := got_of hown
  exact ⟨ga, gc, _, rfl, rfl, hg, hb⟩

/-! ### pairLess -/
theorem less_any (p q : Int × Int) (w : World) (h : Pl.pless p q) :
    Calls Try.prog 14 #[.agg #[.int .i32 p.1, .int .i32 p.2], .agg #[.int .i32 q.1, .int .i32 q.2]] w fun e w' => e = .returned (.bool true) ∧ ∃ c1 c2 : Array Value, w' = (w.alloc (.cells c1 33)).alloc (.cells c2 33) := by
  obtain ⟨p1, p2⟩ := p
  obtain ⟨q1, q2⟩ := q
  rcases h with h | ⟨h1, h2⟩
  · have h' : p1 < q1 := h
    have hne : (p1 != q1) = true := by rw [bne_iff_ne]; omega
    go_enter Try.func14, Try.ntmps14
    go_wp2
    go_ret
    exact ⟨ret_bool (by simp), _, _, rfl⟩
  · have h1' : p1 = q1 := h1
    have h2' : p2 < q2 := h2
    subst h1'
    go_enter Try.func14, Try.ntmps14
    go_wp2
    go_ret
    exact ⟨ret_bool (by simp), _, _, rfl⟩
end Go.Proofs.Qxb6603196a
