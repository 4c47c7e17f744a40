/-
  AppendUint64, AppendPayload, walked.
-/
import Derived.Test.Qxb6603500aMem
import Derived.Maps.AppendAt
import Derived.Deep.AppendLies
import Derived.Deep.RegionHeld3
import Derived.Deep.QuietTactic
import Derived.BigQuiet
import Derived.WalkSmall
namespace Go.Proofs.Qxb6603500a
open Go.RowKit
variable {P Q : Nat → Prop}

/-! ### A row that the law makes and appends to -/
/-- The row of v may have grown or moved to a new block; every other block that was there is as it was. -/
structure Grow (w : World) (v : Value) (w' : World) (v' : Value) : Prop where
  gr : w.grownBy w' v.ownBlock
  lies : v'.ownBlock = v.ownBlock ∨ ∃ g, w.heap.size ≤ g ∧ v'.ownBlock = some g

theorem Grow.refl (w : World) (v : Value) : Grow w v w v := ⟨⟨rfl, rfl, rfl, Nat.le_refl _, fun _ _ _ => rfl⟩, .inl rfl⟩
theorem Grow.trans {w w1 w2 : World} {v v1 v2 : Value} (h : Grow w v w1 v1) (k : Grow w1 v1 w2 v2) : Grow w v w2 v2 := by
  refine ⟨⟨k.gr.os.trans h.gr.os, k.gr.tape.trans h.gr.tape, k.gr.output.trans h.gr.output, Nat.le_trans h.gr.size k.gr.size, fun b hb hne => ?_⟩, ?_⟩
  · refine (k.gr.block b (Nat.lt_of_lt_of_le hb h.gr.size) ?_).trans (h.gr.block b hb hne)
    rcases h.lies with e | ⟨g, hg, e⟩
    · rw [e]; exact hne
    · rw [e]; intro e2; cases e2; omega
  · rcases k.lies with e | ⟨g, hg, e⟩
    · rw [e]; exact h.lies
    · exact .inr ⟨g, Nat.le_trans h.gr.size hg, e⟩
theorem Grow.below {B : Nat} {w w1 : World} {v v1 : Value} (h : Grow w v w1 v1) (hB : B ≤ w.heap.size) (hv : ∀ k, v.ownBlock = some k → B ≤ k) : Below B w w1 := (Below.refl _ _).grown h.gr hB hv
/-- Two worlds that part in new blocks alone, then growth. -/
theorem Grow.alloc {w w1 : World} {v v1 : Value} {o : Obj} (h : Grow (w.alloc o) v w1 v1) : Grow w v w1 v1 := by
  have hs : (w.alloc o).heap.size = w.heap.size + 1 := by simp
  refine ⟨⟨h.gr.os, h.gr.tape, h.gr.output, by have := h.gr.size; omega, fun b hb hne => ?_⟩, ?_⟩
  · exact (h.gr.block b (by omega) hne).trans (Below.heap_alloc _ _ _ hb)
  · rcases h.lies with e | ⟨g, hg, e⟩
    · exact .inl e
    · exact .inr ⟨g, by omega, e⟩

theorem grow_app {wr w1 : World} {u u1 : Value} {o : Obj} (hg : (wr.alloc o).grownBy w1 u.ownBlock) (hat : u1.ownBlock = u.ownBlock ∨ u1.ownBlock = some (wr.heap.size + 1)) : Grow wr u w1 u1 :=
  Grow.alloc (o := o) ⟨hg, hat.elim .inl (fun e => .inr ⟨_, by simp, e⟩)⟩

def vs (l : List Int) : List Value := l.map (Value.int .u8)
theorem vs_append (l m : List Int) : vs (l ++ m) = vs l ++ vs m := by simp [vs]

theorem grow_cell {w w1 : World} {v v1 : Value} (h : Grow w v w1 v1) {a : Addr} {u : Value} (hc : w.cell? a = some u) (hne : some a.block ≠ v.ownBlock) : w1.cell? a = some u :=
  (World.cell?_of_block (h.gr.block a.block (block_lt_of_cell hc) hne)).trans hc

/-- The eight bytes of x, the lowest first. -/
def le8 (x : Int) : List Int := [x % 256, x / 256 % 256, x / 65536 % 256, x / 16777216 % 256, x / 4294967296 % 256, x / 1099511627776 % 256, x / 281474976710656 % 256, x / 72057594037927936]
theorem le8_len (x : Int) : (le8 x).length = 8 := rfl

theorem app64_end {w w1 : World} {base m : Nat} {v v1 : Value} {xs : List Int} {x : Int} {o1 o2 : Obj} (hown : w1.ownsRow base 5 1 v1 (m + 8) (vs xs ++ vs (le8 x))) (hg : ((w.alloc o1).alloc o2).grownBy w1 v.ownBlock)
    (hat : v1.ownBlock = v.ownBlock ∨ v1.ownBlock = some (w.heap.size + 1 + 1)) : ∃ a c, v1 = .slice a (m + 8) c ∧ w1.ownsRow base 5 1 (.slice a (m + 8) c) (m + 8) (vs (xs ++ le8 x)) ∧ Grow w v w1 (.slice a (m + 8) c) := by
  have hf : ∃ a c, v1 = .slice a (m + 8) c := by
    rcases hown.2 with ⟨_, h0⟩ | ⟨g, cap, _, hv, _⟩
    · omega
    · exact ⟨_, cap, hv⟩
  obtain ⟨a, c, rfl⟩ := hf
  refine ⟨a, c, rfl, by rw [vs_append]; exact hown, Grow.alloc (o := o1) (Grow.alloc (o := o2) ⟨hg, hat.elim .inl (fun e => .inr ⟨_, by simp, e⟩)⟩)⟩

set_option maxHeartbeats 1000000 in
theorem app64_any (base : Nat) (v : Value) (m : Nat) (xs : List Int) (x : Int) (w : World) (hown : w.ownsRow base 5 1 v m (vs xs)) (hb : base ≤ w.heap.size) (hm : m ≤ 1000000000) (hx0 : 0 ≤ x) (hx1 : x < 18446744073709551616) :
    Calls Try.prog 29 #[.agg #[], v, .int .u64 x] w fun e w' => ∃ a c, e = .returned (.slice a (m + 8) c) ∧ w'.ownsRow base 5 1 (.slice a (m + 8) c) (m + 8) (vs (xs ++ le8 x)) ∧ Grow w v w' (.slice a (m + 8) c) := by
  obtain ⟨i0, hi, hz0, hz1, hz2⟩ := info_parts Try.info5
  go_enter Try.func29, Try.ntmps29
  go_wp2_with (at_builtin; refine wpList_append_own_at _ rfl _ _ 22 rfl base 5 i0 (.int .u8 0) 1 1 Try.underlying22 hi hz0 hz1 hz2 rfl (by decide) _ _ _ rfl ((hown.alloc _).alloc _) ⟨w.heap.size + 1, 0, none⟩ 8 8 (vs (le8 x)) rfl rfl ?c1 ?c2 ?c3 ?c4 ?c5 ?_)
  case c1 =>
    have hn := Deep.blk_alloc_new (w.alloc (.cells #[] 73)) (.cells #[.int .u8 (x % 256), .int .u8 (x / 256 % 256), .int .u8 (x / 65536 % 256), .int .u8 (x / 16777216 % 256), .int .u8 (x / 4294967296 % 256), .int .u8 (x / 1099511627776 % 256), .int .u8 (x / 281474976710656 % 256), .int .u8 (x / 72057594037927936)] 5)
    rw [show (w.alloc (.cells #[] 73)).heap.size = w.heap.size + 1 from by simp] at hn
    exact World.news_of_block hn
  case c2 =>
    intro u hu
    obtain ⟨z, _, rfl⟩ := List.mem_map.1 hu
    rfl
  case c3 => unfold maxLen; omega
  case c4 => omega
  case c5 => simp; omega
  · intro v1 w1 hown1 hgrow1 _ hat1
    obtain ⟨a, c, hv, h1, h2⟩ := app64_end hown1 hgrow1 hat1
    rw [hv]
    have HF : Hid (w1.ownsRow base 5 1 (.slice a (m + 8) c) (m + 8) (vs (xs ++ le8 x)) ∧ Grow w v w1 (.slice a (m + 8) c)) := ⟨h1, h2⟩
    clear hown1 hgrow1 hat1 hv h1 h2 hown
    go_wp2
    go_ret
    exact ⟨_, _, rfl, HF.out.1, HF.out.2⟩

theorem Grow.ofDrew {w w1 : World} {v v1 : Value} (h : Grow w.drew v w1 v1) : Grow w v w1 v1 := ⟨⟨h.gr.os, h.gr.tape, h.gr.output, h.gr.size, h.gr.block⟩, h.lies⟩

set_option maxHeartbeats 1000000 in
/-- AppendPayload: the nonce's eight bytes behind what the row held; no error. -/
theorem payload_any (base pb : Nat) (v : Value) (m : Nat) (xs : List Int) (x : Int) (w : World) (hown : w.ownsRow base 5 1 v m (vs xs)) (hb : base ≤ w.heap.size) (hm : m ≤ 1000000000) (hx0 : 0 ≤ x) (hx1 : x < 18446744073709551616)
    (hp : w.cell? ⟨pb, 0, none⟩ = some (.int .u64 x)) (hne : some pb ≠ v.ownBlock) :
    Calls Try.prog 23 #[.pointer (some ⟨pb, 0, none⟩), v] w fun e w' => ∃ a c, e = .returned (.tuple #[.slice a (m + 8) c, .nilIface]) ∧ w'.ownsRow base 5 1 (.slice a (m + 8) c) (m + 8) (vs (xs ++ le8 x)) ∧ Grow w v w' (.slice a (m + 8) c) := by
  have HO : Hid (w.ownsRow base 5 1 v m (vs xs)) := hown
  have HNE : Hid (some pb ≠ v.ownBlock) := hne
  clear hown hne
  go_enter Try.func23, Try.ntmps23
  go_wp2
  go_region_held3 (fun w' => w'.cell? ⟨pb, 0, none⟩ = some (.int .u64 x)) (go_keep)
    ((go_at_call 29; refine (app64_any base v m xs x _ ?h1 ?h2 hm hx0 hx1).mono ?_; (case h1 => exact HO.out); (case h2 => exact hb); rintro e w1 ⟨a, c, rfl, h1, h2⟩; have k1 := grow_cell h2 (a := ⟨pb, 0, none⟩) (by exact hp) HNE.out; have HF : Hid (w1.ownsRow base 5 1 (.slice a (m + 8) c) (m + 8) (vs (xs ++ le8 x)) ∧ Grow w v w1 (.slice a (m + 8) c)) := ⟨h1, h2.ofDrew⟩; clear h1 h2))
  go_wp2
  go_ret2
  exact ⟨_, _, rfl, HF.out.1, HF.out.2⟩
end Go.Proofs.Qxb6603500a
