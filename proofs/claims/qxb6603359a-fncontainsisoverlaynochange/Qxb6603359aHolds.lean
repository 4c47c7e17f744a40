/-
  bytes.Equal, sameTagged, equal, holds, walked.
-/
import Derived.Test.Qxb6603359aSame
import Derived.Laws.BytesArg
import Derived.Lib.Bytes
namespace Go.Proofs.Qxb6603359a
open Go.RowKit
variable {P Q : Nat → Prop}
attribute [local go_sem ↓] Go.wp_at_zero Go.wp_at_succ

theorem conv_any (w : World) (v : Value) (l : List Int) (h : BytesAt P w v l) : (convert 47 9 v).run Try.prog w = .ok (.string (strOfNums l)) w := by
  obtain ⟨a, c, rfl, -, -, h3⟩ := h
  rcases h3 with rfl | ⟨b, off, rfl, -, hc⟩
  · cases a with
    | none => exact run_convert_bytes_nil (P := Try.prog) w 47 5 Try.underlying47 Try.underlying5 _ c 9 Try.underlying9
    | some x =>
      rw [run_convert_bytes_string w 47 9 5 _ _ c Try.underlying47 Try.underlying5 Try.underlying9]
      have hl : (loadCells x 0).run Try.prog w = .ok (([] : List Int).map (Value.int .u8)).toArray w := by
        simpa using run_loadCells_list (P := Try.prog) w x [] (fun j v hj => by simp at hj)
      exact run_bytesToString w x 0 c [] hl
  · exact run_convert_bytes_arg (P := Try.prog) w 47 5 Try.underlying47 Try.underlying5 b off l.length c l rfl (fun i hi => by rw [hc i hi]; rfl) 9 Try.underlying9

theorem ofNat_inj {x y : Int} (hx : 0 ≤ x ∧ x ≤ 255) (hy : 0 ≤ y ∧ y ≤ 255) (h : UInt8.ofNat x.toNat = UInt8.ofNat y.toNat) : x = y := by
  have := congrArg UInt8.toNat h
  rw [UInt8.toNat_ofNat', UInt8.toNat_ofNat'] at this
  omega

theorem bytes_eq {l m : List Int} (hl : ∀ j, j < l.length → 0 ≤ l[j]?.getD 0 ∧ l[j]?.getD 0 ≤ 255) (hm : ∀ j, j < m.length → 0 ≤ m[j]?.getD 0 ∧ m[j]?.getD 0 ≤ 255) :
    ((strOfNums l).toList == (strOfNums m).toList) = eqB l m := by
  rw [Lib.strOfNums_toList, Lib.strOfNums_toList]
  unfold eqB
  rw [Bool.eq_iff_iff, beq_iff_eq, decide_eq_true_eq]
  constructor
  · intro h
    have hlen : l.length = m.length := by simpa [Lib.bytesOf] using congrArg List.length h
    refine List.ext_getElem hlen fun i h1 h2 => ?_
    have e := congrArg (fun z : List UInt8 => z[i]?) h
    simp [Lib.bytesOf, h1, h2] at e
    exact ofNat_inj (by simpa [h1] using hl i h1) (by simpa [h2] using hm i h2) e
  · intro h; rw [h]

theorem equal_any (v v2 : Value) (l m : List Int) (w : World) (h : BytesAt P w v l) (h2 : BytesAt Q w v2 m) :
    Calls Try.prog 46 #[v, v2] w fun e w' => e = .returned (.bool (eqB l m)) ∧ w' = w := by
  have g1 := conv_any w v l h
  have g2 := conv_any w v2 m h2
  obtain ⟨_, _, -, -, b1, -⟩ := h
  obtain ⟨_, _, -, -, b2, -⟩ := h2
  rw [← bytes_eq b1 b2]
  clear b1 b2
  go_enter Try.func46, Try.ntmps46
  go_wp2
  go_ret
  exact ⟨rfl, rfl⟩

/-! ### sameTagged -/
set_option maxHeartbeats 1000000 in
theorem sameTagged_any (t u : Int) (v v2 : Value) (l m : List Int) (w : World) (h : BytesAt P w v l) (h2 : BytesAt Q w v2 m) :
    Calls Try.prog 38 #[.agg #[.int .u64 t, v], .agg #[.int .u64 u, v2]] w fun e w' => e = .returned (.bool ((t == u) && eqB l m)) ∧ Below w.heap.size w w' := by
  have HB : Hid (BytesAt P w v l ∧ BytesAt Q w v2 m) := ⟨h, h2⟩
  obtain ⟨a, c, rfl, -⟩ := h
  obtain ⟨a2, c2, rfl, -⟩ := h2
  generalize l.length = n at HB
  generalize m.length = n2 at HB
  by_cases htu : (t == u) = true
  · rw [htu, Bool.true_and]
    go_enter Try.func38, Try.ntmps38
    go_wp2_with fail
    refine (equal_any _ _ l m _ (HB.out.1.below ?_) (HB.out.2.below ?_)).mono ?_
    · exact ((Below.refl _ _).alloc (Nat.le_refl _) _).alloc (by simp) _
    · exact ((Below.refl _ _).alloc (Nat.le_refl _) _).alloc (by simp) _
    rintro e w' ⟨rfl, rfl⟩
    go_wp2
    go_ret
    exact ⟨rfl, ((Below.refl _ _).alloc (Nat.le_refl _) _).alloc (by simp) _⟩
  · have htu' : (t == u) = false := by simpa using htu
    rw [htu', Bool.false_and]
    clear htu
    go_enter Try.func38, Try.ntmps38
    go_wp2
    go_ret
    exact ⟨rfl, ((Below.refl _ _).alloc (Nat.le_refl _) _).alloc (by simp) _⟩

theorem equalStr_any (s t : ByteArray) (w : World) : Calls Try.prog 40 #[.string s, .string t] w fun e w' => e = .returned (.bool (s.toList == t.toList)) ∧ w' = w := by
  go_enter Try.func40, Try.ntmps40
  go_wp2
  go_ret
  exact ⟨rfl, rfl⟩
theorem equalNum_any (s t : Int) (w : World) : Calls Try.prog 42 #[.int .u64 s, .int .u64 t] w fun e w' => e = .returned (.bool (s == t)) ∧ w' = w := by
  go_enter Try.func42, Try.ntmps42
  go_wp2
  go_ret
  exact ⟨rfl, rfl⟩

/-! ### holds -/
def holdT : Option (Int × List Int) → Option (Int × List Int) → Bool
  | none, _ => true
  | some x, some y => (x.1 == y.1) && eqB x.2 y.2
  | _, none => false
def holdS : Option ByteArray → Option ByteArray → Bool
  | none, _ => true
  | some x, some y => x.toList == y.toList
  | _, none => false
def holdN : Option Int → Option Int → Bool
  | none, _ => true
  | some x, some y => x == y
  | _, none => false

set_option maxHeartbeats 1000000 in
theorem holdsNum_any (p q : Value) (t u : Option Int) (w : World) (h : NumAt P w p t) (h2 : NumAt Q w q u) :
    Calls Try.prog 41 #[p, q, .func (.func 42) #[] #[]] w fun e w' => e = .returned (.bool (holdN t u)) ∧ Below w.heap.size w w' := by
  cases t with
  | none =>
    obtain rfl := h
    obtain ⟨q', rfl⟩ := h2.ptr
    clear h2
    go_enter Try.func41, Try.ntmps41
    go_wp2
    go_quiet (fail)
    go_wp2
    go_ret
    exact ⟨rfl, below_drewN (Below.refl _ _) _⟩
  | some t =>
    obtain ⟨b, o, rfl, -, h1⟩ := h
    cases u with
    | none =>
      obtain rfl := h2
      go_enter Try.func41, Try.ntmps41
      go_wp2
      go_quiet (fail)
      go_wp2
      go_ret
      exact ⟨rfl, below_drewN (Below.refl _ _) _⟩
    | some u =>
      obtain ⟨b2, o2, rfl, -, k1⟩ := h2
      go_enter Try.func41, Try.ntmps41
      go_wp2
      go_quiet ((go_at_call 42; exact Calls.quiet_of_same (equalNum_any _ _ _)))
      go_wp2
      go_ret
      exact ⟨rfl, below_drewN (Below.refl _ _) _⟩

set_option maxHeartbeats 1000000 in
theorem holdsStr_any (p q : Value) (t u : Option ByteArray) (w : World) (h : StrAt P w p t) (h2 : StrAt Q w q u) :
    Calls Try.prog 39 #[p, q, .func (.func 40) #[] #[]] w fun e w' => e = .returned (.bool (holdS t u)) ∧ Below w.heap.size w w' := by
  cases t with
  | none =>
    obtain rfl := h
    obtain ⟨q', rfl⟩ := h2.ptr
    clear h2
    go_enter Try.func39, Try.ntmps39
    go_wp2
    go_quiet (fail)
    go_wp2
    go_ret
    exact ⟨rfl, below_drewN (Below.refl _ _) _⟩
  | some t =>
    obtain ⟨b, o, rfl, -, h1, -⟩ := h
    cases u with
    | none =>
      obtain rfl := h2
      go_enter Try.func39, Try.ntmps39
      go_wp2
      go_quiet (fail)
      go_wp2
      go_ret
      exact ⟨rfl, below_drewN (Below.refl _ _) _⟩
    | some u =>
      obtain ⟨b2, o2, rfl, -, k1, -⟩ := h2
      go_enter Try.func39, Try.ntmps39
      go_wp2
      go_quiet ((go_at_call 40; exact Calls.quiet_of_same (equalStr_any _ _ _)))
      go_wp2
      go_ret
      exact ⟨rfl, below_drewN (Below.refl _ _) _⟩

set_option maxHeartbeats 1000000 in
theorem holdsTag_any (p q : Value) (t u : Option (Int × List Int)) (w : World) (h : TagAt P w p t) (h2 : TagAt Q w q u) :
    Calls Try.prog 37 #[p, q, .func (.func 38) #[] #[]] w fun e w' => e = .returned (.bool (holdT t u)) ∧ Below w.heap.size w w' := by
  cases t with
  | none =>
    obtain rfl := h
    obtain ⟨q', rfl⟩ := h2.ptr
    clear h2
    go_enter Try.func37, Try.ntmps37
    go_wp2
    go_quiet (fail)
    go_wp2
    go_ret
    exact ⟨rfl, below_drewN (Below.refl _ _) _⟩
  | some t =>
    obtain ⟨b, o, v, rfl, -, h1, h1', hB⟩ := h
    cases u with
    | none =>
      obtain rfl := h2
      clear h1 h1' hB
      go_enter Try.func37, Try.ntmps37
      go_wp2
      go_quiet (fail)
      go_wp2
      go_ret
      exact ⟨rfl, below_drewN (Below.refl _ _) _⟩
    | some u =>
      obtain ⟨b2, o2, v2, rfl, -, k1, k1', kB⟩ := h2
      obtain ⟨t1, l⟩ := t
      obtain ⟨u1, m⟩ := u
      have HB : Hid (BytesAt P w v l ∧ BytesAt Q w v2 m) := ⟨hB, kB⟩
      obtain ⟨a, c, rfl, -⟩ := hB
      obtain ⟨a2, c2, rfl, -⟩ := kB
      have hs : holdT (some (t1, l)) (some (u1, m)) = ((t1 == u1) && eqB l m) := rfl
      rw [hs]
      clear hs
      simp only at h1 k1 h1' k1'
      generalize l.length = n at HB h1'
      generalize m.length = n2 at HB k1'
      generalize hr : ((t1 == u1) && eqB l m) = r
      have HR : Hid (((t1 == u1) && eqB l m) = r) := hr
      clear hr
      go_enter Try.func37, Try.ntmps37
      go_wp2
      go_region_held3 (fun w' => w'.cell? ⟨b, o, none⟩ = some (.int .u64 t1) ∧ w'.cell? ⟨b, o + 1, none⟩ = some (.slice a n c) ∧ w'.cell? ⟨b2, o2, none⟩ = some (.int .u64 u1) ∧ w'.cell? ⟨b2, o2 + 1, none⟩ = some (.slice a2 n2 c2)) (go_keep)
        ((go_at_call 38; refine (sameTagged_any t1 u1 _ _ l m _ (HB.out.1.below ?_) (HB.out.2.below ?_)).mono ?_; exact ((Below.refl _ _).drew); exact ((Below.refl _ _).drew); rintro e w1 ⟨rfl, hb⟩; rw [HR.out];
          have j1 := keep hb (a := ⟨b, o, none⟩) (by exact h1); have j2 := keep hb (a := ⟨b, o + 1, none⟩) (by exact h1'); have j3 := keep hb (a := ⟨b2, o2, none⟩) (by exact k1); have j4 := keep hb (a := ⟨b2, o2 + 1, none⟩) (by exact k1')))
      go_wp2
      go_ret
      exact ⟨rfl, Below.trans (Below.refl _ _).drew hb⟩
end Go.Proofs.Qxb6603359a
