/-
  zzCopyTagged, zzToTagged, walked.
-/
import Derived.Test.Qxb6603359aMem
import Derived.Deep.RegionHeld3
import Derived.Deep.DrawnRows
import Derived.Deep.QuietTactic
import Derived.BigQuiet
namespace Go.Proofs.Qxb6603359a
open Go.RowKit
variable {P : Nat → Prop}
attribute [local go_sem ↓] Go.wp_at_zero Go.wp_at_succ

theorem bcell {W w1 : World} (hb : Below W.heap.size W w1) : (∀ b o, b < W.heap.size → w1.cell? ⟨b, o, none⟩ = W.cell? ⟨b, o, none⟩) ∧ (∀ b o, b < W.heap.size → w1.frozen? ⟨b, o, none⟩ = W.frozen? ⟨b, o, none⟩) :=
  ⟨fun b o h => hb.cell (p := ⟨b, o, none⟩) h, fun b o h => hb.frozen (p := ⟨b, o, none⟩) h⟩

def small (t : Option (Int × List Int)) : Prop := ∀ x, t = some x → x.2.length ≤ 1048576

set_option maxHeartbeats 1000000 in
theorem copyTag_any (p : Value) (t : Option (Int × List Int)) (w : World) (h : TagAt P w p t) (hs : small t) :
    Calls Try.prog 27 #[p] w fun e w' => ∃ q, e = .returned (.pointer q) ∧ TagAt (fun b => w.heap.size ≤ b) w' (.pointer q) t ∧ Below w.heap.size w w' := by
  cases t with
  | none =>
    obtain rfl := h
    clear hs
    go_enter Try.func27, Try.ntmps27
    go_wp2
    go_ret
    exact ⟨_, rfl, rfl, Below.refl _ _⟩
  | some t =>
    obtain ⟨b, o, v, rfl, hp, h1, h2, h3⟩ := h
    have hlen := hs t rfl
    clear hs
    obtain ⟨t1, l⟩ := t
    obtain ⟨a, cap, rfl, -⟩ := id h3
    have hlt := block_lt_of_cell h1
    have HB : Hid (BytesAt P w (.slice a l.length cap) l) := h3
    have HN : Hid (l.length ≤ 1048576) := hlen
    clear h3 hlen hp
    generalize hn : l.length = n at HB HN h2
    have hn' := hn
    clear hn
    go_enter Try.func27, Try.ntmps27
    go_wp2
    go_region_held3 (fun w' => w'.cell? ⟨b, o, none⟩ = some (.int .u64 t1) ∧ w'.cell? ⟨b, o + 1, none⟩ = some (.slice a n cap)) (go_keep)
      ((go_at_call 35; refine (copyBytes_any a n cap l _ HN.out (HB.out.below ?_)).mono ?_; exact ((Below.refl _ _).drew); rintro e w1 ⟨a', c', rfl, hB, hb⟩; have k1 := keep hb (a := ⟨b, o, none⟩) (by exact h1); have k2 := keep hb (a := ⟨b, o + 1, none⟩) (by exact h2)))
    go_wp2
    go_ret
    refine ⟨_, rfl, ⟨w1.heap.size, 0, .slice a' n c', rfl, hb.size, by simp [go_sem], by simp [go_sem], hB.below ((Below.refl _ _).alloc (Nat.le_refl _) _)⟩, ?_⟩
    exact (Below.trans (Below.refl _ _).drew hb).alloc hb.size _

set_option maxHeartbeats 1000000 in
theorem toTag_any (p : Value) (t : Option (Int × List Int)) (w : World) (h : TagAt P w p t) :
    Calls Try.prog 31 #[p] w fun e w' => ∃ q, e = .returned (.pointer q) ∧ TagAt (fun b => P b ∨ w.heap.size ≤ b) w' (.pointer q) t ∧ Below w.heap.size w w' := by
  cases t with
  | none =>
    obtain rfl := h
    go_enter Try.func31, Try.ntmps31
    go_wp2
    go_ret
    exact ⟨_, rfl, rfl, Below.refl _ _⟩
  | some t =>
    obtain ⟨b, o, v, rfl, hp, h1, h2, h3⟩ := h
    obtain ⟨t1, l⟩ := t
    obtain ⟨a, cap, rfl, -⟩ := id h3
    have HB : Hid (BytesAt P w (.slice a l.length cap) l) := h3
    clear h3 hp
    generalize hn : l.length = n at HB h2
    clear hn
    go_enter Try.func31, Try.ntmps31
    go_wp2
    go_region_held3 (fun w' => w'.cell? ⟨b, o, none⟩ = some (.int .u64 t1) ∧ w'.cell? ⟨b, o + 1, none⟩ = some (.slice a n cap)) (go_keep) (fail)
    go_wp2
    go_ret
    have hbd : Below w.heap.size w ((w.alloc (.cells #[.int .u64 t1, .slice a n cap] 67)).drew) := ((Below.refl _ _).alloc (Nat.le_refl _) _).drew
    exact ⟨_, rfl, ⟨w.heap.size, 0, .slice a n cap, rfl, .inr (Nat.le_refl _), by simp [go_sem], by simp [go_sem], HB.out.agree (agree_below hbd) fun _ h => .inl h⟩, hbd⟩
end Go.Proofs.Qxb6603359a
