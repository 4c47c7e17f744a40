/-
  FnLinksAreExactlyTheMapsLinksInOrder, walked.
-/
import Derived.Test.Qxb6603196aLinks
import Derived.Deep.RegionHeld3
import Derived.Deep.RegionWith
import Derived.Deep.QuietTactic
import Derived.BigQuiet
import Derived.WalkSmall
namespace Go.Proofs.Qxb6603196a
open Go.RowKit

theorem wrap_pred (r : Nat) (h1 : r ≤ 1048576) : IntKind.i64.wrap (r : Int) = (r : Int) := by
  rw [IntKind.wrap_i64]; omega

theorem sum_len {n : Nat} {L : Nat → Nat} {nb : Nat → List Int} (hl : ∀ r, r < n → (nb r).length = L r) {k : Nat} (hk : k ≤ n) : Pl.sumTo (fun a => (nb a).length) k = Pl.sumTo L k :=
  Pl.sumTo_congr k fun r hr => hl r (by omega)

theorem fits_row {n : Nat} {L : Nat → Nat} {nb : Nat → List Int} (hf : Fits n L) (hl : ∀ r, r < n → (nb r).length = L r) (r : Nat) (hr : r < n) : Pl.sumTo (fun a => (nb a).length) r + L r ≤ 1048576 := by
  rw [sum_len hl (by omega)]
  have h1 := Pl.sumTo_mono L (show r + 1 ≤ n by omega)
  have h2 := hf.2
  simp only [Pl.sumTo] at h1
  omega

set_option maxHeartbeats 1000000 in
theorem law_some (x : Int) (b o n cap : Nat) (A : Nat → Option Addr) (B O L C : Nat → Nat) (nb : Nat → List Int) (w : World) (hn : n ≤ 9223372036854775807) (hL : ∀ r, r < n → L r ≤ 9223372036854775807) (hM : Mat w b o n A B O L C nb) :
    Calls Try.prog 4 #[.int .i64 x, .slice (some ⟨b, o, none⟩) n cap] w fun e w' => e = .returned (.bool true) ∧ Below w.heap.size w w' := by
  go_enter Try.func4, Try.ntmps4
  go_wp2_with fail
  refine (bytes_some x b o n cap A L C _ hn hL hM.top).mono ?_
  rintro e w1 ⟨⟨r, rfl, -⟩, rfl⟩
  cases r
  · go_wp2
    go_ret
    exact ⟨rfl, Below.refl _ _⟩
  go_wp2_with fail
  refine (fits_some b o n cap A L C _ hn hL hM.top).mono ?_
  rintro e w1 ⟨⟨r, rfl, hf⟩, rfl⟩
  cases r
  · go_wp2
    go_ret
    exact ⟨rfl, Below.refl _ _⟩
  have HF : Hid (Fits n L) := hf rfl
  clear hf
  have hn' : n ≤ 43690 := HF.out.1
  have hrow := fits_row HF.out hM.len
  go_wp2_with fail
  refine (well_some b o n cap A B O L C nb _ hn' (fun r hr => by have := hrow r hr; omega) hM).mono ?_
  rintro e w1 ⟨⟨r, rfl, hwf⟩, rfl⟩
  cases r
  · go_wp2
    go_ret
    exact ⟨rfl, Below.refl _ _⟩
  have HW : Hid (Pl.WF n nb) := hwf rfl
  clear hwf
  go_wp2_with fail
  have hb1 : Below w1.heap.size w1 (w1.alloc (.cells #[.int .i64 x, .slice (some ⟨b, o, none⟩) n cap] 27)) := (Below.refl _ _).alloc (Nat.le_refl _) _
  refine (links_got (links_some w1.heap.size b o n cap A B O L C nb _ hn' hrow (hM.below hb1) (by simp [go_sem]))).mono ?_
  rintro e w2 ⟨ga, gc, m, rfl, HM, hgot, hb2⟩
  have hsz := hb2.size
  have hb := hb1.trans (hb2.mono hb1.size)
  clear hb1 hb2
  have hM2 := hM.below hb
  go_wp2_with fail
  go_loop [8, 9] (fun t i => ∃ k E : Nat, k ≤ n ∧ i = .int .i64 k ∧ t = .int .i64 E ∧ Hid (E = Pl.offTo nb k 0) ∧ E ≤ 1048576) (fun _ i => n - (intOf i).toNat)
  case atStart => exact ⟨0, 0, Nat.zero_le _, rfl, rfl, (by simp [Pl.offTo, Pl.sumTo] : (0 : Nat) = _), by omega⟩
  case round =>
    obtain ⟨k, E, hk, rfl, rfl, HE, hE⟩ := hrel
    by_cases hlt : k < n
    · have hcell := hM2.top k hlt
      have hLk := hrow k hlt
      by_cases hz : L k = 0
      · have HZ : Hid (L k = 0) := hz
        go_wp2
        go_loop [8, 10] (fun t i => i = .int .i64 0 ∧ t = .int .i64 E) (fun _ _ => 0)
        case atStart => exact ⟨rfl, rfl⟩
        case round =>
          obtain ⟨rfl, rfl⟩ := hrel
          go_wp2
          go_round
          case rel => exact ⟨k + 1, E, by omega, by go_num, rfl, (by rw [HE.out]; exact Pl.offTo_next (by rw [hM2.len k hlt, HZ.out]) : E = _), hE⟩
          case measure => simp [intOf]; omega
      · have hA := hM2.adr k hlt (by omega)
        go_wp2
        go_loop [8, 10] (fun t i => ∃ j F : Nat, j ≤ L k ∧ i = .int .i64 j ∧ t = .int .i64 F ∧ Hid (F = Pl.offTo nb k j) ∧ F ≤ 1048576) (fun _ i => L k - (intOf i).toNat)
        case atStart => exact ⟨0, E, Nat.zero_le _, rfl, rfl, HE, hE⟩
        case round =>
          obtain ⟨j, F, hj, rfl, rfl, HI, hF⟩ := hrel
          by_cases hjl : j < L k
          · have hc1 := hM2.cel k hlt j hjl
            have hr1 := (hM2.rng k hlt j hjl).1
            have hr2 := (hM2.rng k hlt j hjl).2
            have HJ : Hid (j < (nb k).length) := by rw [hM2.len k hlt]; exact hjl
            have hle := Pl.offTo_le nb k (j + 1)
            generalize hv : (nb k)[j]?.getD 0 = v at hc1 hr1 hr2
            have HV : Hid ((nb k)[j]?.getD 0 = v) := hv
            clear hv
            by_cases hx : (v != (k : Int)) = true
            · have HX : Hid (Pl.offTo nb k (j + 1) = Pl.offTo nb k j + 1) := Pl.offTo_hit HJ.out (by rw [HV.out]; exact hx)
              go_wp2
              go_round
              case rel => exact ⟨j + 1, F + 1, by omega, by go_num, by go_num, (by rw [HI.out, HX.out] : F + 1 = _), by have := HX.out; have := HI.out; omega⟩
              case measure => simp [intOf]; omega
            · have hx' : (v != (k : Int)) = false := by simpa using hx
              have HX : Hid (Pl.offTo nb k (j + 1) = Pl.offTo nb k j) := Pl.offTo_miss HJ.out (by rw [HV.out]; exact hx')
              clear hx
              go_wp2
              go_round
              case rel => exact ⟨j + 1, F, by omega, by go_num, rfl, (by rw [HI.out, HX.out] : F = _), hF⟩
              case measure => simp [intOf]; omega
          · have hje : j = L k := by omega
            subst hje
            go_wp2
            go_round
            case rel => exact ⟨k + 1, F, by omega, by go_num, rfl, (by rw [HI.out]; exact Pl.offTo_next (hM2.len k hlt) : F = _), hF⟩
            case measure => simp [intOf]; omega
    · have hke : k = n := by omega
      subst hke
      have hE2 : E = 2 * m := by rw [HE.out, HM.out]; exact Pl.offTo_end HW.out
      subst hE2
      clear HE hlt
      have hm63 : m ≤ 1048576 := by omega
      rcases hgot with hg0 | ⟨g, rfl, hglt, hgc⟩
      · have hm0 : m = 0 := by rw [HM.out, hg0]; rfl
        subst hm0
        clear hg0
        go_wp2
        refine wp_loop_rounds 1 ?_
        rw [rounds_succ]
        go_wp2
        go_ret
        exact ⟨rfl, hb⟩
      · go_wp2_with fail
        go_loopw [11] (fun i wr => ∃ q : Nat, q ≤ m ∧ i = .int .i64 q ∧ Below w2.heap.size w2 wr) (fun i _ => m - (intOf i).toNat)
        case atStart => exact ⟨0, Nat.zero_le _, rfl, Below.refl _ _⟩
        case round =>
          obtain ⟨q, hq, rfl, hbr⟩ := hrel
          by_cases hlt : q < m
          · have hlt' : q < (Pl.links nb k).length := by rw [← HM.out]; exact hlt
            obtain ⟨c1, c2⟩ := hgc q hlt'
            obtain ⟨a, ha, e1, e2, e3, e4⟩ := Pl.links_at HW.out q hlt'
            have hMr := hM2.below hbr
            rw [← hbr.cell (p := ⟨g, q * 2, none⟩) hglt, e1] at c1
            rw [← hbr.cell (p := ⟨g, q * 2 + 1, none⟩) hglt] at c2
            have hin := HW.out.inc a ha
            have hrw := hMr.row ha
            have hla := hMr.len a ha
            have hta := hMr.top a ha
            have hLa := hrow a ha
            have HH : Hid (RowIn wr (A a) (nb a) ∧ (nb a).length = L a ∧ (nb a).Pairwise (· < ·) ∧ hasB (nb a) (Pl.links nb k)[q].2 = true) := ⟨hrw, hla, hin, by simpa [hasB] using e4⟩
            clear hin hrw hla e4
            generalize hp2 : (Pl.links nb k)[q].2 = p2 at c2 e2 e3 HH
            have HP : Hid (((a : Int), p2) = (Pl.links nb k)[q]) := by
              show _ = _
              rw [← e1, ← hp2]
            clear hp2 e1
            have hhas := HH.out.2.2.2
            by_cases hq0 : 0 < q
            · obtain ⟨r, hr⟩ : ∃ r, q = r + 1 := ⟨q - 1, by omega⟩
              have hlt0 : r < (Pl.links nb k).length := by omega
              obtain ⟨d1, d2⟩ := hgc r hlt0
              rw [← hbr.cell (p := ⟨g, r * 2, none⟩) hglt] at d1
              rw [← hbr.cell (p := ⟨g, r * 2 + 1, none⟩) hglt] at d2
              have hless : Pl.pless (Pl.links nb k)[r] ((a : Int), p2) := by
                rw [HP.out]
                subst hr
                exact Pl.links_next HW.out r hlt'
              generalize (Pl.links nb k)[r] = p at d1 d2 hless
              obtain ⟨p1, p2'⟩ := p
              have HLS : Hid (Pl.pless (p1, p2') ((a : Int), p2)) := hless
              clear hless hlt0 hgc
              have hgw : g < wr.heap.size := by have := hbr.size; omega
              have i0 : (q : Int) - 1 = (r : Int) := by omega
              have i1 : (0 : Int) < (q : Int) := by omega
              have i2 : (q : Int) < (m : Int) := by omega
              have i3 : (0 : Int) ≤ (r : Int) := by omega
              have i4 : (r : Int) < (m : Int) := by omega
              have i5 := wrap_pred r (by omega)
              clear hr
              go_wp2_with (go_at_call 13; refine (has_any (A a) (L a) (C a) (nb a) p2 _ HH.out.2.1 HH.out.2.2.1 (by omega) HH.out.1).mono ?_; rintro e w' ⟨rfl, rfl⟩)
              go_region_held3 (fun w'' => w''.cell? ⟨g, r * 2, none⟩ = some (.int .i32 p1) ∧ w''.cell? ⟨g, r * 2 + 1, none⟩ = some (.int .i32 p2') ∧ w''.cell? ⟨g, q * 2, none⟩ = some (.int .i32 a) ∧ w''.cell? ⟨g, q * 2 + 1, none⟩ = some (.int .i32 p2)) (go_keep)
                ((go_at_call 14; refine (less_any (p1, p2') ((a : Int), p2) _ HLS.out).mono ?_; rintro e w3 ⟨rfl, o1, o2, rfl⟩))
              go_wp2
              go_roundw
              case rel => exact ⟨q + 1, by omega, by go_num, by repeat (first | exact hbr | apply Below.drew | refine Below.alloc ?_ (by have := hbr.size; simp; omega) _)⟩
              case measure => simp [intOf]; omega
            · have hq1 : q = 0 := by omega
              subst hq1
              clear hq0
              go_wp2_with (go_at_call 13; refine (has_any (A a) (L a) (C a) (nb a) p2 _ HH.out.2.1 HH.out.2.2.1 (by omega) HH.out.1).mono ?_; rintro e w' ⟨rfl, rfl⟩)
              go_quiet (fail)
              go_wp2
              go_roundw
              case rel => exact ⟨1, by omega, rfl, below_drewN hbr _⟩
              case measure => simp [intOf]; omega
          · have hqm : q = m := by omega
            subst hqm
            go_wp2
            go_ret
            exact ⟨rfl, hb.trans (hbr.mono (by simp at hsz; omega))⟩

set_option maxHeartbeats 1000000 in
theorem law_nil (x : Int) (a : Option Addr) (cap : Nat) (w : World) :
    Calls Try.prog 4 #[.int .i64 x, .slice a 0 cap] w fun e w' => e = .returned (.bool true) ∧ Below w.heap.size w w' := by
  go_enter Try.func4, Try.ntmps4
  go_wp2_with fail
  refine (bytes_nil x a cap _).mono ?_
  rintro e w1 ⟨⟨r, rfl, -⟩, rfl⟩
  cases r
  · go_wp2
    go_ret
    exact ⟨rfl, Below.refl _ _⟩
  go_wp2_with fail
  refine (fits_nil a cap (fun _ => 0) _).mono ?_
  rintro e w1 ⟨⟨r, rfl, -⟩, rfl⟩
  cases r
  · go_wp2
    go_ret
    exact ⟨rfl, Below.refl _ _⟩
  go_wp2_with fail
  refine (well_nil a cap (fun _ => []) _).mono ?_
  rintro e w1 ⟨⟨r, rfl, -⟩, rfl⟩
  cases r
  · go_wp2
    go_ret
    exact ⟨rfl, Below.refl _ _⟩
  go_wp2_with fail
  have hb1 : Below w1.heap.size w1 (w1.alloc (.cells #[.int .i64 x, .slice a 0 cap] 27)) := (Below.refl _ _).alloc (Nat.le_refl _) _
  refine (links_got (links_nil w1.heap.size cap a (fun _ => []) _ (by simp [go_sem]))).mono ?_
  rintro e w2 ⟨ga, gc, m, rfl, HM, -, hb2⟩
  have hb := hb1.trans (hb2.mono hb1.size)
  clear hb1 hb2
  have hm0 : m = 0 := HM.out
  subst hm0
  go_wp2
  refine wp_loop_rounds 1 ?_
  rw [rounds_succ]
  go_wp2
  refine wp_loop_rounds 1 ?_
  rw [rounds_succ]
  go_wp2
  go_ret
  exact ⟨rfl, hb⟩
end Go.Proofs.Qxb6603196a
