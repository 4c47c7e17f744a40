/-
  zzSameBytes, zzSameTag, zzSameStr, zzSameU64, walked.
-/
import Derived.Test.Qxb6603359aTag
import Derived.WalkSmall
namespace Go.Proofs.Qxb6603359a
open Go.RowKit
variable {P Q : Nat → Prop}

def eqB (l m : List Int) : Bool := decide (l = m)
theorem eqB_len {l m : List Int} (h : l.length ≠ m.length) : eqB l m = false := by
  unfold eqB; rw [decide_eq_false_iff_not]; intro e; exact h (by rw [e])
theorem eqB_at {l m : List Int} (k : Nat) (h : l[k]?.getD 0 ≠ m[k]?.getD 0) : eqB l m = false := by
  unfold eqB; rw [decide_eq_false_iff_not]; intro e; exact h (by rw [e])
theorem eqB_all {l m : List Int} (hl : l.length = m.length) (h : ∀ i, i < l.length → l[i]?.getD 0 = m[i]?.getD 0) : eqB l m = true := by
  unfold eqB; rw [decide_eq_true_eq]
  refine List.ext_getElem hl fun i h1 h2 => ?_
  have := h i h1
  simpa [h1, h2] using this

set_option maxHeartbeats 1000000 in
theorem sameBytes_some (b off c b2 off2 c2 n : Nat) (l m : List Int) (w : World) (hn : n ≤ 9223372036854775807) (hl : n = l.length) (hm : n = m.length)
    (hc : ∀ j, j < n → w.cell? ⟨b, off + j, none⟩ = some (.int .u8 (l[j]?.getD 0))) (hc2 : ∀ j, j < n → w.cell? ⟨b2, off2 + j, none⟩ = some (.int .u8 (m[j]?.getD 0))) :
    Calls Try.prog 43 #[.slice (some ⟨b, off, none⟩) n c, .slice (some ⟨b2, off2, none⟩) n c2] w fun e w' => e = .returned (.bool (eqB l m)) ∧ ∃ k, w' = w.drewN k := by
  have HL : Hid (n = l.length ∧ n = m.length) := ⟨hl, hm⟩
  clear hl hm
  have hne : ((n : Int) != (n : Int)) = false := by simp
  go_enter Try.func43, Try.ntmps43
  go_wp2
  go_loopw [5] (fun i wr => ∃ k q : Nat, k ≤ n ∧ i = .int .i64 k ∧ wr = w.drewN q ∧ Hid (∀ i, i < k → l[i]?.getD 0 = m[i]?.getD 0)) (fun i _ => n - (intOf i).toNat)
  case atStart => exact ⟨0, 0, Nat.zero_le _, rfl, rfl, fun i h => by omega⟩
  case round =>
    obtain ⟨k, q, hk, rfl, rfl, hI⟩ := hrel
    by_cases hlt : k < n
    · have g1 := hc k hlt
      have g2 := hc2 k hlt
      have hki : (k : Int) < (n : Int) := by omega
      have hk0 : (0 : Int) ≤ (k : Int) := by omega
      clear hc hc2
      generalize hx : l[k]?.getD 0 = x at g1
      generalize hy : m[k]?.getD 0 = y at g2
      have HX : Hid (l[k]?.getD 0 = x ∧ m[k]?.getD 0 = y) := ⟨hx, hy⟩
      clear hx hy
      by_cases hxy : (x != y) = true
      · go_wp2
        go_quiet (fail)
        go_wp2
        go_ret
        exact ⟨ret_bool (eqB_at k (by rw [HX.out.1, HX.out.2]; exact bne_iff_ne.1 hxy)).symm, _, World.drewN_drewN _ _ _⟩
      · have hxy' : (x != y) = false := by simpa using hxy
        clear hxy
        go_wp2
        go_quiet (fail)
        go_wp2
        go_roundw
        case rel => exact ⟨k + 1, _, by omega, by go_num, rfl, (fun i hi => by
          by_cases e : i = k
          · subst e; rw [HX.out.1, HX.out.2]; simpa using hxy'
          · exact hI.out i (by omega) : ∀ i, i < k + 1 → _)⟩
        case measure => simp [intOf]; omega
    · have e : k = n := by omega
      subst e
      go_wp2
      go_ret
      exact ⟨ret_bool (eqB_all (by rw [← HL.out.1, ← HL.out.2]) (fun i hi => hI.out i (by rw [HL.out.1]; exact hi))).symm, _, rfl⟩

theorem sameBytes_empty (a a2 : Option Addr) (c c2 : Nat) (w : World) :
    Calls Try.prog 43 #[.slice a 0 c, .slice a2 0 c2] w fun e w' => e = .returned (.bool (eqB [] [])) ∧ ∃ k, w' = w.drewN k := by
  go_enter Try.func43, Try.ntmps43
  go_wp2
  refine wp_loop_rounds 1 ?_
  rw [rounds_succ]
  go_wp2
  go_ret
  exact ⟨rfl, 0, rfl⟩

theorem sameBytes_len (a a2 : Option Addr) (n n2 c c2 : Nat) (w : World) (h : n ≠ n2) :
    Calls Try.prog 43 #[.slice a n c, .slice a2 n2 c2] w fun e w' => e = .returned (.bool false) ∧ ∃ k, w' = w.drewN k := by
  have hne : ((n : Int) != (n2 : Int)) = true := by rw [bne_iff_ne]; omega
  go_enter Try.func43, Try.ntmps43
  go_wp2
  go_ret
  exact ⟨rfl, 0, rfl⟩

theorem sameBytes_any (v v2 : Value) (l m : List Int) (w : World) (h : BytesAt P w v l) (h2 : BytesAt Q w v2 m) :
    Calls Try.prog 43 #[v, v2] w fun e w' => e = .returned (.bool (eqB l m)) ∧ ∃ k, w' = w.drewN k := by
  obtain ⟨a, c, rfl, h1, -, h3⟩ := h
  obtain ⟨a2, c2, rfl, h1', -, h3'⟩ := h2
  by_cases hlm : l.length = m.length
  · rcases h3 with rfl | ⟨b, off, rfl, -, hc⟩
    · have hm : m = [] := List.eq_nil_of_length_eq_zero hlm.symm
      subst hm
      exact sameBytes_empty a a2 c c2 w
    · rcases h3' with rfl | ⟨b2, off2, rfl, -, hc2⟩
      · have hl : l = [] := List.eq_nil_of_length_eq_zero hlm
        subst hl
        exact sameBytes_empty _ a2 c c2 w
      · rw [← hlm]
        exact sameBytes_some b off c b2 off2 c2 l.length l m w h1 rfl hlm hc (fun j hj => hc2 j (by omega))
  · rw [eqB_len hlm]
    exact sameBytes_len a a2 l.length m.length c c2 w hlm

/-! ### zzSameTag, zzSameStr, zzSameU64: both unstated, or both stated and the same -/
def sameT : Option (Int × List Int) → Option (Int × List Int) → Bool
  | none, none => true
  | some x, some y => (x.1 == y.1) && eqB x.2 y.2
  | _, _ => false
def sameS : Option ByteArray → Option ByteArray → Bool
  | none, none => true
  | some x, some y => x.toList == y.toList
  | _, _ => false
def sameN : Option Int → Option Int → Bool
  | none, none => true
  | some x, some y => x == y
  | _, _ => false

set_option maxHeartbeats 1000000 in
theorem sameTag_any (p q : Value) (t u : Option (Int × List Int)) (w : World) (h : TagAt P w p t) (h2 : TagAt Q w q u) :
    Calls Try.prog 32 #[p, q] w fun e w' => e = .returned (.bool (sameT t u)) ∧ ∃ k, w' = w.drewN k := by
  cases t with
  | none =>
    obtain rfl := h
    cases u with
    | none =>
      obtain rfl := h2
      go_enter Try.func32, Try.ntmps32
      go_wp2
      go_ret
      exact ⟨rfl, 0, rfl⟩
    | some u =>
      obtain ⟨b, o, v, rfl, -⟩ := h2
      go_enter Try.func32, Try.ntmps32
      go_wp2
      go_ret
      exact ⟨rfl, 0, rfl⟩
  | some t =>
    obtain ⟨b, o, v, rfl, -, h1, h2', h3⟩ := h
    cases u with
    | none =>
      obtain rfl := h2
      clear h1 h2' h3
      go_enter Try.func32, Try.ntmps32
      go_wp2
      go_ret
      exact ⟨rfl, 0, rfl⟩
    | some u =>
      obtain ⟨b2, o2, v2, rfl, -, k1, k2, k3⟩ := h2
      obtain ⟨t1, l⟩ := t
      obtain ⟨u1, m⟩ := u
      have HB : Hid (BytesAt P w v l ∧ BytesAt Q w v2 m) := ⟨h3, k3⟩
      obtain ⟨a, c, rfl, -⟩ := h3
      obtain ⟨a2, c2, rfl, -⟩ := k3
      generalize l.length = n at HB h2'
      generalize m.length = n2 at HB k2
      simp only at h1 k1
      by_cases htu : (t1 == u1) = true
      · have hs : sameT (some (t1, l)) (some (u1, m)) = eqB l m := by simp [sameT, htu]
        rw [hs]
        clear hs
        go_enter Try.func32, Try.ntmps32
        go_wp2
        go_quiet ((go_at_call 43; refine Calls.quiet_of (sameBytes_any (P := P) (Q := Q) _ _ l m _ ?_ ?_); exact HB.out.1.below (below_drewN (Below.refl _ _) _); exact HB.out.2.below (below_drewN (Below.refl _ _) _)))
        go_wp2
        go_ret
        exact ⟨rfl, _, rfl⟩
      · have htu' : (t1 == u1) = false := by simpa using htu
        have hs : sameT (some (t1, l)) (some (u1, m)) = false := by simp [sameT, htu']
        rw [hs]
        clear hs htu
        go_enter Try.func32, Try.ntmps32
        go_wp2
        go_quiet (fail)
        go_wp2
        go_ret
        exact ⟨rfl, _, rfl⟩

set_option maxHeartbeats 1000000 in
theorem sameStr_any (p q : Value) (t u : Option ByteArray) (w : World) (h : StrAt P w p t) (h2 : StrAt Q w q u) :
    Calls Try.prog 33 #[p, q] w fun e w' => e = .returned (.bool (sameS t u)) ∧ ∃ k, w' = w.drewN k := by
  cases t with
  | none =>
    obtain rfl := h
    cases u with
    | none =>
      obtain rfl := h2
      go_enter Try.func33, Try.ntmps33
      go_wp2
      go_ret
      exact ⟨rfl, 0, rfl⟩
    | some u =>
      obtain ⟨b, o, rfl, -⟩ := h2
      go_enter Try.func33, Try.ntmps33
      go_wp2
      go_ret
      exact ⟨rfl, 0, rfl⟩
  | some t =>
    obtain ⟨b, o, rfl, -, h1, -⟩ := h
    cases u with
    | none =>
      obtain rfl := h2
      clear h1
      go_enter Try.func33, Try.ntmps33
      go_wp2
      go_ret
      exact ⟨rfl, 0, rfl⟩
    | some u =>
      obtain ⟨b2, o2, rfl, -, k1, -⟩ := h2
      go_enter Try.func33, Try.ntmps33
      go_wp2
      go_quiet (fail)
      go_wp2
      go_ret
      exact ⟨rfl, _, rfl⟩

set_option maxHeartbeats 1000000 in
theorem sameNum_any (p q : Value) (t u : Option Int) (w : World) (h : NumAt P w p t) (h2 : NumAt Q w q u) :
    Calls Try.prog 34 #[p, q] w fun e w' => e = .returned (.bool (sameN t u)) ∧ ∃ k, w' = w.drewN k := by
  cases t with
  | none =>
    obtain rfl := h
    cases u with
    | none =>
      obtain rfl := h2
      go_enter Try.func34, Try.ntmps34
      go_wp2
      go_ret
      exact ⟨rfl, 0, rfl⟩
    | some u =>
      obtain ⟨b, o, rfl, -⟩ := h2
      go_enter Try.func34, Try.ntmps34
      go_wp2
      go_ret
      exact ⟨rfl, 0, rfl⟩
  | some t =>
    obtain ⟨b, o, rfl, -, h1⟩ := h
    cases u with
    | none =>
      obtain rfl := h2
      clear h1
      go_enter Try.func34, Try.ntmps34
      go_wp2
      go_ret
      exact ⟨rfl, 0, rfl⟩
    | some u =>
      obtain ⟨b2, o2, rfl, -, k1⟩ := h2
      go_enter Try.func34, Try.ntmps34
      go_wp2
      go_quiet (fail)
      go_wp2
      go_ret
      exact ⟨rfl, _, rfl⟩
end Go.Proofs.Qxb6603359a
