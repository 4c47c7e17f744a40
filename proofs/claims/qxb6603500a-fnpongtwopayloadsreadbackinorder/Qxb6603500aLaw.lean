/-
  FnPongTwoPayloadsReadBackInOrder, walked.
-/
import Derived.Test.Qxb6603500aRead
namespace Go.Proofs.Qxb6603500a
open Go.RowKit
variable {P Q : Nat → Prop}

theorem step {w w1 w2 : World} (h : Below w.heap.size w w1) (k : Below w1.heap.size w1 w2) : Below w.heap.size w w2 := h.trans (k.mono h.size)

theorem own_ne {g n c pb : Nat} (h : g ≠ pb) : some pb ≠ (Value.slice (some ⟨g, 0, none⟩) n c).ownBlock := fun e => h ((Option.some.inj e).symm : g = pb)
theorem own_eq {g n c k : Nat} (h : (Value.slice (some ⟨g, 0, none⟩) n c).ownBlock = some k) : g = k := Option.some.inj h

/-- What lies in the row behind both appends. -/
theorem out_at {w : World} {base g n c : Nat} {l : List Int} {x y : Int} (hn : n = l.length) (h : w.ownsRow base 5 1 (.slice (some ⟨g, 0, none⟩) (n + 8 + 8) c) (n + 8 + 8) (vs (l ++ le8 x ++ le8 y))) :
    (∀ j, j < n → w.cell? ⟨g, j, none⟩ = some (.int .u8 (l[j]?.getD 0))) ∧ (∀ j, j < 8 → w.cell? ⟨g, n + j, none⟩ = some (.int .u8 ((le8 x)[j]?.getD 0))) ∧ ∀ j, j < 8 → w.cell? ⟨g, n + 8 + j, none⟩ = some (.int .u8 ((le8 y)[j]?.getD 0)) := by
  have hv : ∀ j, j < n + 8 + 8 → w.cell? ⟨g, j, none⟩ = (vs (l ++ le8 x ++ le8 y))[j]? := fun j hj => h.cellAt j (by omega)
  subst hn
  refine ⟨fun j hj => ?_, fun j hj => ?_, fun j hj => ?_⟩
  · rw [hv j (by omega)]
    simp [vs, List.getElem?_append, hj]
  · rw [hv _ (by omega)]
    have h8 : j < (le8 x).length := by rw [le8_len]; exact hj
    have e : (l ++ le8 x ++ le8 y)[l.length + j]? = (le8 x)[j]? := by
      rw [List.getElem?_append_left (by rw [List.length_append]; omega), List.getElem?_append_right (by omega)]
      congr 1; omega
    simp only [vs, List.getElem?_map, e]
    simp [h8]
  · rw [hv _ (by omega)]
    have h8 : j < (le8 y).length := by rw [le8_len]; exact hj
    have e : (l ++ le8 x ++ le8 y)[l.length + 8 + j]? = (le8 y)[j]? := by
      rw [List.getElem?_append_right (by rw [List.length_append, le8_len]; omega)]
      congr 1; rw [List.length_append, le8_len]; omega
    simp only [vs, List.getElem?_map, e]
    simp [h8]

set_option maxHeartbeats 4000000 in
theorem law_any (x y : Int) (a : Option Addr) (n cap : Nat) (l : List Int) (w : World) (hx0 : 0 ≤ x) (hx1 : x < 18446744073709551616) (hy0 : 0 ≤ y) (hy1 : y < 18446744073709551616) (h : BytesAt P w (.slice a n cap) l) :
    Calls Try.prog 6 #[.int .u64 x, .int .u64 y, .slice a n cap] w fun e w' => e = .returned (.bool true) ∧ Below w.heap.size w w' := by
  have HB : Hid (BytesAt P w (.slice a n cap) l) := h
  have hbig : n ≤ 9223372036854775807 := by
    obtain ⟨_, _, hv, h1, _⟩ := h
    simp only [Value.slice.injEq] at hv
    omega
  have HN : Hid (n = l.length) := by
    obtain ⟨_, _, hv, _⟩ := h
    simp only [Value.slice.injEq] at hv
    exact hv.2.1
  clear h
  go_enter Try.func6, Try.ntmps6
  go_wp2_with fail
  refine (bytes_any x y a n cap _ hbig).mono ?_
  rintro e w' ⟨⟨r, rfl⟩, hw⟩
  have hw := hw.symm
  subst hw
  cases r
  · go_wp2
    go_ret
    exact ⟨rfl, Below.refl _ _⟩
  by_cases hlt : 1048576 < n
  · go_wp2
    go_ret
    exact ⟨rfl, Below.refl _ _⟩
  have hn : n ≤ 1048576 := by omega
  clear hlt
  go_wp2_with fail
  refine (clone_any a n cap l _ hn HB.out).mono ?_
  rintro e w1 ⟨a1, c1, rfl, hB1, hb1⟩
  have B1 : Hid (BytesAt (fun b => w.heap.size ≤ b) w1 (.slice a1 n c1) l) := hB1
  have D1 : Hid (Below w.heap.size w w1) := hb1
  clear hB1 hb1 HB
  go_wp2_with fail
  refine (room_any a1 n c1 l _ hn B1.out).mono ?_
  rintro e w2 ⟨rfl, hown, hb2⟩
  have O2 : Hid (w2.ownsRow w1.heap.size 5 1 (.slice (some ⟨w1.heap.size, 0, none⟩) n (n + 16)) n (vs l)) := hown
  have D2 : Hid (Below w1.heap.size w1 w2) := hb2
  have hlt2 : w1.heap.size < w2.heap.size := (hown.lt w1.heap.size rfl).2
  clear hown hb2
  go_wp2_with fail
  generalize hW : (w2.alloc (.cells #[.int .u64 x] 51)).alloc (.cells #[.int .u64 y] 51) = W
  have D3 : Hid (Below w2.heap.size w2 W) := by rw [← hW]; exact ((Below.refl _ _).alloc (Nat.le_refl _) _).alloc (by simp) _
  have p1 : W.cell? ⟨w2.heap.size, 0, none⟩ = some (.int .u64 x) := by rw [← hW]; simp [go_sem]
  have p2 : W.cell? ⟨w2.heap.size + 1, 0, none⟩ = some (.int .u64 y) := by rw [← hW]; simp [go_sem]
  have hWs : W.heap.size = w2.heap.size + 2 := by rw [← hW]; simp
  have O3 : Hid (W.ownsRow w1.heap.size 5 1 (.slice (some ⟨w1.heap.size, 0, none⟩) n (n + 16)) n (vs l)) := by rw [← hW]; exact (O2.out.alloc _).alloc _
  clear hW
  refine (payload_any w1.heap.size w2.heap.size _ n l x W O3.out (by omega) (by omega) hx0 hx1 p1 (own_ne (by omega))).mono ?_
  rintro e w3 ⟨a3, c3, rfl, hown3, hg3⟩
  have p2' := grow_cell hg3 (a := ⟨w2.heap.size + 1, 0, none⟩) p2 (own_ne (pb := w2.heap.size + 1) (by omega))
  have hne3 : some (w2.heap.size + 1) ≠ (Value.slice a3 (n + 8) c3).ownBlock := by
    rcases hg3.lies with e | ⟨g, hg, e⟩
    · rw [e]; exact own_ne (by omega)
    · rw [e]; exact fun e2 => by have := Option.some.inj e2; omega
  have O4 : Hid (w3.ownsRow w1.heap.size 5 1 (.slice a3 (n + 8) c3) (n + 8) (vs (l ++ le8 x))) := hown3
  have G3 : Hid (Grow W (.slice (some ⟨w1.heap.size, 0, none⟩) n (n + 16)) w3 (.slice a3 (n + 8) c3)) := hg3
  have HNE : Hid (some (w2.heap.size + 1) ≠ (Value.slice a3 (n + 8) c3).ownBlock) := hne3
  have hs3 := hg3.gr.size
  clear hown3 hg3 hne3 p1 p2
  go_wp2_with fail
  refine (payload_any w1.heap.size (w2.heap.size + 1) _ (n + 8) (l ++ le8 x) y w3 O4.out (by omega) (by omega) hy0 hy1 p2' HNE.out).mono ?_
  rintro e w4 ⟨a4, c4, rfl, hown4, hg4⟩
  obtain ⟨g, c5, hv, -, -⟩ := hown4.form (by omega)
  have hv2 : a4 = some ⟨g, 0, none⟩ := by simp only [Value.slice.injEq] at hv; exact hv.1
  subst hv2
  obtain ⟨k1, k2, k3⟩ := out_at HN.out hown4
  have D4 : Hid (Below w1.heap.size w1 w4) := by
    have q1 : Below w1.heap.size w1 W := step D2.out D3.out
    have q2 := (G3.out.trans hg4).below (B := w1.heap.size) (by omega) (fun k hk => by have := own_eq hk; omega)
    exact q1.trans q2
  have B4 : Hid (BytesAt (fun b => w.heap.size ≤ b) w4 (.slice a1 n c1) l) := B1.out.below D4.out
  have K : Hid ((∀ j, j < n → w4.cell? ⟨g, j, none⟩ = some (.int .u8 (l[j]?.getD 0))) ∧ (∀ j, j < 8 → w4.cell? ⟨g, n + j, none⟩ = some (.int .u8 ((le8 x)[j]?.getD 0))) ∧ ∀ j, j < 8 → w4.cell? ⟨g, n + 8 + j, none⟩ = some (.int .u8 ((le8 y)[j]?.getD 0))) := ⟨k1, k2, k3⟩
  have DD : Hid (Below w.heap.size w w4) := step D1.out D4.out
  clear hown4 hg4 hv k1 k2 k3 p2' hs3
  have t1 : ((n : Int) + 8 + 8 != (n : Int) + 16) = false := by rw [bne_eq_false_iff_eq]; omega
  go_wp2_with fail
  obtain ⟨a5, c6, hv5, -, -, h5⟩ := B4.out
  simp only [Value.slice.injEq] at hv5
  obtain ⟨rfl, hv6, rfl⟩ := hv5
  clear hv6
  rcases h5 with h5 | ⟨b5, o5, h5, -, hc5⟩
  · have hn0 : n = 0 := by rw [HN.out, h5]; rfl
    subst hn0
    clear h5
    go_loopw [14] (fun i wr => i = .int .i64 0 ∧ ∃ q, wr = w4.drewN q) (fun _ _ => 0)
    case atStart => exact ⟨rfl, 0, rfl⟩
    case round =>
      obtain ⟨rfl, q, rfl⟩ := hrel
      go_wp2_with fail
      refine (readLE_any g (0 + 8 + 8) c4 0 x _ hx0 hx1 (by omega) (by omega) (by exact K.out.2.1)).mono ?_
      rintro e w5 ⟨rfl, hw⟩
      have hw := hw.symm
      subst hw
      go_wp2_with fail
      refine (readLE_any g (0 + 8 + 8) c4 (0 + 8) y _ hy0 hy1 (by omega) (by omega) (by exact K.out.2.2)).mono ?_
      rintro e w5 ⟨rfl, hw⟩
      have hw := hw.symm
      subst hw
      go_wp2
      go_ret
      exact ⟨ret_bool (by simp), below_drewN DD.out _⟩
  · subst h5
    have HC5 : Hid (∀ j, j < n → w4.cell? ⟨b5, o5 + j, none⟩ = some (.int .u8 (l[j]?.getD 0))) := fun j hj => hc5 j (by rw [← HN.out]; exact hj)
    clear hc5
    go_loopw [14] (fun i wr => ∃ k q : Nat, k ≤ n ∧ i = .int .i64 k ∧ wr = w4.drewN q) (fun i _ => n - (intOf i).toNat)
    case atStart => exact ⟨0, 0, Nat.zero_le _, rfl, rfl⟩
    case round =>
      obtain ⟨k, q, hk, rfl, rfl⟩ := hrel
      by_cases hlt : k < n
      · have e1 := K.out.1 k hlt
        have e2 := HC5.out k hlt
        generalize l[k]?.getD 0 = z at e1 e2
        have i1 : (k : Int) < (n : Int) := by omega
        have i2 : (0 : Int) ≤ (k : Int) := by omega
        have i3 : (k : Int) < (n : Int) + 8 + 8 := by omega
        go_wp2
        go_quiet (fail)
        go_wp2
        go_roundw
        case rel => exact ⟨k + 1, _, by omega, by go_num, rfl⟩
        case measure => simp [intOf]; omega
      have e : k = n := by omega
      subst e
      have m1 : (((k + 8 + 8 : Nat) : Int)) = (k : Int) + 8 + 8 := by omega
      go_wp2_with fail
      refine (readLE_any g (k + 8 + 8) c4 k x _ hx0 hx1 (by omega) (by omega) (by exact K.out.2.1)).mono ?_
      rintro e w5 ⟨rfl, hw⟩
      have hw := hw.symm
      subst hw
      go_wp2_with fail
      rw [show ((k : Int) + 8) = ((k + 8 : Nat) : Int) from by omega]
      refine (readLE_any g (k + 8 + 8) c4 (k + 8) y _ hy0 hy1 (by omega) (by omega) (by exact K.out.2.2)).mono ?_
      rintro e w5 ⟨rfl, hw⟩
      have hw := hw.symm
      subst hw
      go_wp2
      go_ret
      exact ⟨ret_bool (by simp), below_drewN DD.out _⟩
end Go.Proofs.Qxb6603500a
