/-
  zzBytes, appendBackslashes, lpEscape, walked.
-/
import Derived.Test.Qxb6603471aSame
import Derived.Test.Qxb6603471aPlain
import Derived.Maps.AppendAt
import Derived.Deep.AppendLies
import Derived.Laws.Rows
namespace Go.Proofs.Qxb6603471a
open Go.RowKit
variable {P Q : Nat → Prop}

def SaysB (p : Prop) (w : World) (e : Ending) (w' : World) : Prop := (∃ r, e = .returned (.bool r) ∧ (r = true → p)) ∧ Below w.heap.size w w'

theorem bytes_any (a0 a1 a2 : Option Addr) (n0 n1 n2 c0 c1 c2 : Nat) (t : Int) (ea da : Array Value) (w : World) (h0 : n0 ≤ 9223372036854775807) (h1 : n1 ≤ 9223372036854775807) (h2 : n2 ≤ 9223372036854775807) :
    Calls Try.prog 23 #[.slice a0 n0 c0, .slice a1 n1 c1, .slice a2 n2 c2, .int .u8 t, .agg ea, .agg da] w (SaysB (n0 + n1 + n2 ≤ 1048576) w) := by
  go_enter Try.func23, Try.ntmps23
  go_wp2
  all_goals
    go_ret
    refine ⟨⟨_, rfl, fun h => ?_⟩, ((Below.refl _ _).alloc (Nat.le_refl _) _).alloc (by simp) _⟩
    first | (exfalso; revert h; simp; done) | omega

/-! ### A row that the law makes and appends to -/
/-- The row of v may have grown or moved to a new block; every other block that was there is as it was. -/
structure Grow (w : World) (v : Value) (w' : World) (v' : Value) : Prop where
  gr : w.grownBy w' v.ownBlock
  lies : v'.ownBlock = v.ownBlock ∨ ∃ g, w.heap.size ≤ g ∧ v'.ownBlock = some g

theorem Grow.refl (w : World) (v : Value) : Grow w v w v := ⟨⟨rfl, rfl, rfl, Nat.le_refl _, fun _ _ _ => rfl⟩, .inl rfl⟩
theorem Grow.trans {w w1 w2 : World} {v v1 v2 : Value} (h : Grow w v w1 v1) (k : Grow w1 v1 w2 v2) : Grow w v w2 v2 := by
  refine ⟨⟨k.gr.os.trans h.gr.os, k.gr.tape.trans h.gr.tape, k.gr.output.trans h.gr.output, Nat.le_trans h.gr.size k.gr.size, fun b hb hne => ?_⟩, ?_⟩
  · refine (k.gr.block b (Nat.lt_of_lt_of_le hb h.gr.size) ?_).trans (h.gr.block b hb hne)
    rcases h.lies with e | ⟨g, hg, e⟩
    · rw [e]; exact hne
    · rw [e]; intro e2; cases e2; omega
  · rcases k.lies with e | ⟨g, hg, e⟩
    · rw [e]; exact h.lies
    · exact .inr ⟨g, Nat.le_trans h.gr.size hg, e⟩
theorem Grow.below {B : Nat} {w w1 : World} {v v1 : Value} (h : Grow w v w1 v1) (hB : B ≤ w.heap.size) (hv : ∀ k, v.ownBlock = some k → B ≤ k) : Below B w w1 := (Below.refl _ _).grown h.gr hB hv
/-- Two worlds that part in new blocks alone, then growth. -/
theorem Grow.alloc {w w1 : World} {v v1 : Value} {o : Obj} (h : Grow (w.alloc o) v w1 v1) : Grow w v w1 v1 := by
  have hs : (w.alloc o).heap.size = w.heap.size + 1 := by simp
  refine ⟨⟨h.gr.os, h.gr.tape, h.gr.output, by have := h.gr.size; omega, fun b hb hne => ?_⟩, ?_⟩
  · exact (h.gr.block b (by omega) hne).trans (Below.heap_alloc _ _ _ hb)
  · rcases h.lies with e | ⟨g, hg, e⟩
    · exact .inl e
    · exact .inr ⟨g, by omega, e⟩

theorem grow_app {wr w1 : World} {u u1 : Value} {o : Obj} (hg : (wr.alloc o).grownBy w1 u.ownBlock) (hat : u1.ownBlock = u.ownBlock ∨ u1.ownBlock = some (wr.heap.size + 1)) : Grow wr u w1 u1 :=
  Grow.alloc (o := o) ⟨hg, hat.elim .inl (fun e => .inr ⟨_, by simp, e⟩)⟩

def vs (l : List Int) : List Value := l.map (Value.int .u8)
theorem vs_append (l m : List Int) : vs (l ++ m) = vs l ++ vs m := by simp [vs]

set_option maxHeartbeats 1000000 in
theorem back_any (base : Nat) (v : Value) (m n : Nat) (xs : List Int) (w : World) (hown : w.ownsRow base 5 1 v m (vs xs)) (hb : base ≤ w.heap.size) (hm : m + n ≤ 1000000000) :
    Calls Try.prog 44 #[v, .int .i64 n] w fun e w' => ∃ v', e = .returned v' ∧ w'.ownsRow base 5 1 v' (m + n) (vs (xs ++ Pl.bs n)) ∧ Grow w v w' v' := by
  obtain ⟨i0, hi, hz0, hz1, hz2⟩ := info_parts Try.info5
  go_enter Try.func44, Try.ntmps44
  go_wp2
  go_loopw [0, 5] (fun u j wr => ∃ k : Nat, k ≤ n ∧ j = .int .i64 k ∧ wr.ownsRow base 5 1 u (m + k) (vs (xs ++ Pl.bs k)) ∧ Grow w v wr u) (fun _ j _ => n - (intOf j).toNat)
  case atStart => exact ⟨0, Nat.zero_le _, rfl, by simpa [Pl.bs] using hown, Grow.refl _ _⟩
  case round =>
    clear hown
    obtain ⟨k, hk, rfl, hown, hg⟩ := hrel
    by_cases hlt : k < n
    · have hsz := hg.gr.size
      go_wp2_with (at_builtin; refine wpList_append_own_at _ rfl _ _ 22 rfl base 5 i0 (.int .u8 0) 1 1 Try.underlying22 hi hz0 hz1 hz2 rfl (by decide) _ _ _ rfl (hown.alloc _) ⟨wr.heap.size, 0, none⟩ 1 1 [.int .u8 92] rfl rfl ?c1 ?c2 ?c3 ?c4 ?c5 ?_)
      case c1 =>
        intro i u hi
        match i, hi with
        | 0, hi => simp at hi; subst hi; simp [Addr.add]
      case c2 => intro u hu; simp at hu; subst hu; rfl
      case c3 => unfold maxLen; omega
      case c4 => omega
      case c5 => simp; omega
      · intro v' w1 hown' hgrow _ hat
        have R := hg.trans (grow_app hgrow hat)
        have HR : Hid (Grow w v w1 v') := R
        have hown2 : w1.ownsRow base 5 1 v' (m + (k + 1)) (vs (xs ++ Pl.bs (k + 1))) := by
          rw [Pl.bs_succ, ← List.append_assoc, vs_append]; exact hown'
        have HO : Hid (w1.ownsRow base 5 1 v' (m + (k + 1)) (vs (xs ++ Pl.bs (k + 1)))) := hown2
        clear R hown' hown2 hgrow hat hown hg
        go_wp2
        go_roundw
        case rel => exact ⟨k + 1, by omega, by go_num, HO.out, HR.out⟩
        case measure => simp [intOf]; omega
    · have e : k = n := by omega
      subst e
      go_wp2
      go_ret
      exact ⟨_, rfl, hown, hg⟩

/-! ### lpEscape -/
/-- A block that holds a set of bytes. -/
def SetAt (w : World) (g : Nat) (E : Int → Bool) : Prop := ∀ c : Int, 0 ≤ c → c ≤ 255 → w.cell? ⟨g, c.toNat, none⟩ = some (.bool (E c))

theorem grow_cell {w w1 : World} {v v1 : Value} (h : Grow w v w1 v1) {a : Addr} {u : Value} (hc : w.cell? a = some u) (hne : some a.block ≠ v.ownBlock) : w1.cell? a = some u :=
  (World.cell?_of_block (h.gr.block a.block (block_lt_of_cell hc) hne)).trans hc
theorem SetAt.grow {w w1 : World} {v v1 : Value} {g : Nat} {E : Int → Bool} (hs : SetAt w g E) (h : Grow w v w1 v1) (hne : some g ≠ v.ownBlock) : SetAt w1 g E :=
  fun c h0 h1 => grow_cell h (hs c h0 h1) hne

theorem len_le_of {xs ys T : List Int} (h : xs ++ ys = T) : xs.length ≤ T.length := by rw [← h]; simp

set_option maxHeartbeats 2000000 in
theorem escape_some (base b off n c : Nat) (v : Value) (m : Nat) (xs nm : List Int) (ea : Array Value) (E : Int → Bool) (w : World)
    (hown : w.ownsRow base 5 1 v m (vs xs)) (hb : base ≤ w.heap.size) (hm : m + 2 * n ≤ 50000000) (hn : n = nm.length)
    (hc : ∀ j, j < n → w.cell? ⟨b, off + j, none⟩ = some (.int .u8 (nm[j]?.getD 0))) (hr : ∀ j, j < n → 0 ≤ nm[j]?.getD 0 ∧ nm[j]?.getD 0 ≤ 255) (hne : some b ≠ v.ownBlock)
    (hE : SetAt (w.alloc (.cells ea 31)) w.heap.size E) :
    Calls Try.prog 24 #[v, .slice (some ⟨b, off, none⟩) n c, .agg ea] w fun e w' => ∃ v' m', e = .returned v' ∧ w'.ownsRow base 5 1 v' m' (vs (xs ++ Pl.esc E nm 0)) ∧ Grow w v w' v' := by
  obtain ⟨i0, hi, hz0, hz1, hz2⟩ := info_parts Try.info5
  have HT : Hid ((xs ++ Pl.esc E nm 0).length ≤ 50000000) := by
    have h1 := Pl.esc_len E nm 0
    have h2 := hown.1
    simp [vs] at h2
    show (xs ++ Pl.esc E nm 0).length ≤ 50000000
    rw [List.length_append]; omega
  have hlv := hown.lt
  go_enter Try.func24, Try.ntmps24
  go_wp2
  have HG0 : Hid (Grow w v (w.alloc (.cells ea 31)) v) := Grow.alloc (Grow.refl _ _)
  have hown1 := hown.alloc (.cells ea 31)
  have hbx : (w.alloc (.cells ea 31)).heap.size = w.heap.size + 1 := by simp
  have HC : Hid (∀ j, j < n → (w.alloc (.cells ea 31)).cell? ⟨b, off + j, none⟩ = some (.int .u8 (nm[j]?.getD 0))) := fun j hj => keep ((Below.refl _ _).alloc (Nat.le_refl _) _) (hc j hj)
  have HE : Hid (SetAt (w.alloc (.cells ea 31)) w.heap.size E) := hE
  have HV : Hid (some w.heap.size ≠ v.ownBlock) := fun e => by have := (hlv _ e.symm).2; omega
  have HNE : Hid (some b ≠ v.ownBlock) := hne
  have HR : Hid (∀ j, j < n → 0 ≤ nm[j]?.getD 0 ∧ nm[j]?.getD 0 ≤ 255) := hr
  have HN : Hid (n = nm.length) := hn
  generalize w.alloc (.cells ea 31) = W at *
  have hn' : n ≤ 50000000 := by omega
  clear hown hc hE hne hr hn hlv hm
  go_loopw [0, 7, 8] (fun u kk ii wr => ∃ i k m' : Nat, ∃ xs' : List Int, i ≤ n ∧ k ≤ i ∧ ii = .int .i64 i ∧ kk = .int .i64 k ∧ wr.ownsRow base 5 1 u m' (vs xs') ∧ Grow W v wr u ∧ Hid (xs' ++ Pl.esc E (nm.drop i) k = xs ++ Pl.esc E nm 0)) (fun _ _ i _ => n - (intOf i).toNat)
  case atStart => exact ⟨0, 0, m, xs, Nat.zero_le _, Nat.le_refl _, rfl, rfl, hown1, Grow.refl _ _, rfl⟩
  case round =>
    clear hown1
    obtain ⟨i, k, m', xs', hin, hki, rfl, rfl, hown, hg, HI⟩ := hrel
    have hlen := len_le_of HI.out
    have hm1 := hown.1
    have hm' : m' ≤ 50000000 := by simp [vs] at hm1; have := HT.out; omega
    have hsz := hg.gr.size
    have HM : Hid ((vs xs').length = m' * 1) := hm1
    clear hm1 hlen
    by_cases hlt : i < n
    · have c1 := grow_cell hg (HC.out i hlt) HNE.out
      have hr0 := (HR.out i hlt).1
      have hr1 := (HR.out i hlt).2
      have c2 := (HE.out.grow hg HV.out) _ hr0 hr1
      have HIL : Hid (i < nm.length) := by rw [← HN.out]; exact hlt
      by_cases hx : nm[i]?.getD 0 = 92
      · have H2 : Hid (xs' ++ Pl.esc E (nm.drop (i + 1)) (k + 1) = xs ++ Pl.esc E nm 0) := by rw [← Pl.esc_hold HIL.out hx]; exact HI.out
        rw [hx] at c1
        clear hx c2 hr0 hr1 HI
        go_wp2
        go_roundw
        case rel => exact ⟨i + 1, k + 1, m', xs', by omega, by omega, by go_num, by go_num, hown, hg, H2.out⟩
        case measure => simp [intOf]; omega
      · have H2 : Hid (xs' ++ (Pl.bs (if E (nm[i]?.getD 0) then 2 * k + 1 else k) ++ nm[i]?.getD 0 :: Pl.esc E (nm.drop (i + 1)) 0) = xs ++ Pl.esc E nm 0) := by rw [← Pl.esc_put HIL.out hx]; exact HI.out
        generalize nm[i]?.getD 0 = x at *
        have hx' : (x == 92) = false := by simpa using hx
        have hlen2 := congrArg List.length H2.out
        simp [Pl.bs_len] at hlen2
        clear HI hx
        by_cases hE2 : E x = true
        · rw [hE2] at c2 H2 hlen2
          simp only [if_true] at H2 hlen2
          clear hE2
          go_wp2_with fail
          rw [show (2 * (k : Int) + 1) = ((2 * k + 1 : Nat) : Int) from by omega]
          refine (back_any base _ m' (2 * k + 1) xs' _ hown (by omega) (by omega)).mono ?_
          rintro e w1 ⟨v', rfl, hown', hg'⟩
          have hsz1 := hg'.gr.size
          have HG1 : Hid (Grow W v w1 v') := hg.trans hg'
          have HO1 : Hid (w1.ownsRow base 5 1 v' (m' + 2 * k + 1) (vs (xs' ++ Pl.bs (2 * k + 1)))) := hown'
          clear hown hg hg' hown' c2
          go_wp2_with (at_builtin; refine wpList_append_own_at _ rfl _ _ 22 rfl base 5 i0 (.int .u8 0) 1 1 Try.underlying22 hi hz0 hz1 hz2 rfl (by decide) _ _ _ rfl (HO1.out.alloc _) ⟨w1.heap.size, 0, none⟩ 1 1 [.int .u8 x] rfl rfl ?c1 ?c2 ?c3 ?c4 ?c5 ?_)
          case c1 =>
            intro i u hi
            match i, hi with
            | 0, hi => simp at hi; subst hi; simp [Addr.add]
          case c2 => intro u hu; simp at hu; subst hu; rfl
          case c3 => unfold maxLen; omega
          case c4 => omega
          case c5 => simp; omega
          · intro v2 w2 hown2 hgrow2 _ hat2
            have HF : Hid (w2.ownsRow base 5 1 v2 (m' + (2 * k + 1) + 1) (vs (xs' ++ Pl.bs (2 * k + 1) ++ [x])) ∧ Grow W v w2 v2) := ⟨by rw [vs_append]; exact hown2, HG1.out.trans (grow_app hgrow2 hat2)⟩
            clear hown2 hgrow2 hat2
            go_wp2
            go_roundw
            case rel => exact ⟨i + 1, 0, _, _, by omega, by omega, by go_num, rfl, HF.out.1, HF.out.2, (by rw [← H2.out]; simp : _ = _)⟩
            case measure => simp [intOf]; omega
        · have hE3 : E x = false := by simpa using hE2
          rw [hE3] at c2 H2 hlen2
          simp only [Bool.false_eq_true, if_false] at H2 hlen2
          clear hE2 hE3
          go_wp2_with fail
          refine (back_any base _ m' k xs' _ hown (by omega) (by omega)).mono ?_
          rintro e w1 ⟨v', rfl, hown', hg'⟩
          have hsz1 := hg'.gr.size
          have HG1 : Hid (Grow W v w1 v') := hg.trans hg'
          have HO1 : Hid (w1.ownsRow base 5 1 v' (m' + k) (vs (xs' ++ Pl.bs (k)))) := hown'
          clear hown hg hg' hown' c2
          go_wp2_with (at_builtin; refine wpList_append_own_at _ rfl _ _ 22 rfl base 5 i0 (.int .u8 0) 1 1 Try.underlying22 hi hz0 hz1 hz2 rfl (by decide) _ _ _ rfl (HO1.out.alloc _) ⟨w1.heap.size, 0, none⟩ 1 1 [.int .u8 x] rfl rfl ?c1 ?c2 ?c3 ?c4 ?c5 ?_)
          case c1 =>
            intro i u hi
            match i, hi with
            | 0, hi => simp at hi; subst hi; simp [Addr.add]
          case c2 => intro u hu; simp at hu; subst hu; rfl
          case c3 => unfold maxLen; omega
          case c4 => omega
          case c5 => simp; omega
          · intro v2 w2 hown2 hgrow2 _ hat2
            have HF : Hid (w2.ownsRow base 5 1 v2 (m' + (k) + 1) (vs (xs' ++ Pl.bs (k) ++ [x])) ∧ Grow W v w2 v2) := ⟨by rw [vs_append]; exact hown2, HG1.out.trans (grow_app hgrow2 hat2)⟩
            clear hown2 hgrow2 hat2
            go_wp2
            go_roundw
            case rel => exact ⟨i + 1, 0, _, _, by omega, by omega, by go_num, rfl, HF.out.1, HF.out.2, (by rw [← H2.out]; simp : _ = _)⟩
            case measure => simp [intOf]; omega
    · have e : i = n := by omega
      subst e
      have hd : nm.drop i = [] := List.drop_eq_nil_of_le (by rw [← HN.out]; exact Nat.le_refl _)
      have H2 : Hid (xs' ++ Pl.bs (2 * k) = xs ++ Pl.esc E nm 0) := by have := HI.out; rw [hd] at this; exact this
      clear hd HI
      go_wp2_with fail
      rw [show (2 * (k : Int)) = ((2 * k : Nat) : Int) from by omega]
      refine (back_any base _ m' (2 * k) xs' _ hown (by omega) (by omega)).mono ?_
      rintro e w1 ⟨v', rfl, hown', hg'⟩
      rw [H2.out] at hown'
      have HF : Hid (w1.ownsRow base 5 1 v' (m' + 2 * k) (vs (xs ++ Pl.esc E nm 0)) ∧ Grow w v w1 v') := ⟨hown', HG0.out.trans (hg.trans hg')⟩
      clear hown' hg' hown hg
      go_wp2
      go_ret
      exact ⟨_, _, rfl, HF.out.1, HF.out.2⟩

set_option maxHeartbeats 1000000 in
theorem escape_empty (base c : Nat) (a : Option Addr) (v : Value) (m : Nat) (xs : List Int) (ea : Array Value) (E : Int → Bool) (w : World)
    (hown : w.ownsRow base 5 1 v m (vs xs)) (hb : base ≤ w.heap.size) (hm : m ≤ 50000000) :
    Calls Try.prog 24 #[v, .slice a 0 c, .agg ea] w fun e w' => ∃ v' m', e = .returned v' ∧ w'.ownsRow base 5 1 v' m' (vs (xs ++ Pl.esc E [] 0)) ∧ Grow w v w' v' := by
  have HG0 : Hid (Grow w v (w.alloc (.cells ea 31)) v) := Grow.alloc (Grow.refl _ _)
  have hown1 := hown.alloc (.cells ea 31)
  have hbx : (w.alloc (.cells ea 31)).heap.size = w.heap.size + 1 := by simp
  clear hown
  go_enter Try.func24, Try.ntmps24
  go_wp2
  refine wp_loop_rounds 1 ?_
  rw [rounds_succ]
  go_wp2_with fail
  generalize w.alloc (.cells ea 31) = W at *
  refine (back_any base v m 0 xs W hown1 (by omega) (by omega)).mono ?_
  rintro e w1 ⟨v', rfl, hown', hg'⟩
  have HF : Hid (w1.ownsRow base 5 1 v' m (vs (xs ++ Pl.esc E [] 0)) ∧ Grow w v w1 v') := ⟨hown', HG0.out.trans hg'⟩
  clear hown' hg' hown1
  go_wp2
  go_ret
  exact ⟨_, _, rfl, HF.out.1, HF.out.2⟩

/-- lpEscape: the name, escaped, behind what the row held. -/
theorem escape_any (base n c : Nat) (a : Option Addr) (v : Value) (m : Nat) (xs nm : List Int) (ea : Array Value) (E : Int → Bool) (w : World)
    (hown : w.ownsRow base 5 1 v m (vs xs)) (hb : base ≤ w.heap.size) (hm : m + 2 * n ≤ 50000000) (hB : BytesAt P w (.slice a n c) nm) (hP : ∀ b, P b → some b ≠ v.ownBlock)
    (hE : SetAt (w.alloc (.cells ea 31)) w.heap.size E) :
    Calls Try.prog 24 #[v, .slice a n c, .agg ea] w fun e w' => ∃ v' m', e = .returned v' ∧ w'.ownsRow base 5 1 v' m' (vs (xs ++ Pl.esc E nm 0)) ∧ Grow w v w' v' := by
  obtain ⟨a1, c1, hv, h1, h2, h3⟩ := hB
  simp only [Value.slice.injEq] at hv
  obtain ⟨rfl, rfl, rfl⟩ := hv
  rcases h3 with rfl | ⟨b, off, rfl, hp, hc⟩
  · exact escape_empty base c a v m xs ea E w hown hb (by omega)
  · exact escape_some base b off nm.length c v m xs nm ea E w hown hb hm rfl hc h2 (hP b hp) hE
end Go.Proofs.Qxb6603471a
