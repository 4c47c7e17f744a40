/-
  ZZNameBytes, walked.
-/
import Derived.Test.Qxb6603471aName
import Derived.Deep.MidRow
import Derived.Deep.WholeRow
namespace Go.Proofs.Qxb6603471a
open Go.RowKit

theorem Try.size31 : (Try.prog.info? 31).map (·.size) = some 256 := by kernel_rfl
theorem Try.size80 : (Try.prog.info? 80).map (·.size) = some 256 := by kernel_rfl
theorem Try.zero80 : ∃ Z : Array Value, Z.size = 256 ∧ ∀ W, (zeroValue 80).run Try.prog W = .ok (.agg Z) W :=
  ⟨Array.replicate 256 (.bool false), by simp, (zero_of_info (n := 256) (by kernel_rfl)).1⟩

/-- A variable of many cells, made: its zero value is whatever. -/
theorem wpList_alloc_big {P : Program} {ops : Array Oper} {rest : List Oper} {o : Oper} {a : Act} {w : World} {Q : Exit → Act → World → Prop} (hgd : o.guard = none) (ty : TypeId) (ho : o.op = .alloc ty) (Z : Array Value)
    (hz : ∀ W, (zeroValue ty).run P W = .ok (.agg Z) W) (h : wpList P ops Q rest (a.put o.dst (.pointer (some ⟨w.heap.size, 0, none⟩))) (w.alloc (.cells Z ty))) : wpList P ops Q (o :: rest) a w :=
  wpList_plain hgd fun _ hK => by
    unfold Oper.wp execOp
    simp only [ho, Instr.alloc, Sem.run_bind, Sem.run_pure, Result.andThen_ok, hz, newVar, Value.cells]
    exact hK _ _ h

theorem wpList_store_new {P : Program} {ops : Array Oper} {rest : List Oper} {o : Oper} {a : Act} {w : World} {Q : Exit → Act → World → Prop} (hgd : o.guard = none) (ty : TypeId) (x y : Operand) (ho : o.op = .store ty x y) (Z cs : Array Value)
    (hx : a.eval x = .pointer (some ⟨w.heap.size, 0, none⟩)) (hy : a.eval y = .agg cs) (hi : (P.info? ty).map (·.size) = some cs.size) (hs : Z.size = cs.size) (h1 : cs.all (·.oneCell') = true)
    (h : wpList P ops Q rest (a.put o.dst undef) (w.alloc (.cells cs ty))) : wpList P ops Q (o :: rest) a (w.alloc (.cells Z ty)) :=
  wpList_plain hgd fun _ hK => by
    unfold Oper.wp execOp
    simp only [ho, hx, hy, Sem.run_bind, Sem.run_pure, Result.andThen_ok, run_storeAt_new w ty Z cs hi hs h1]
    exact hK _ _ h

/-- An array of 256 bools, by value. -/
structure Arr (ea : Array Value) (E : Int → Bool) : Prop where
  size : ea.size = 256
  at_ : ∀ c : Int, 0 ≤ c → c ≤ 255 → ea[c.toNat]? = some (.bool (E c))

theorem Arr.one {ea : Array Value} {E : Int → Bool} (h : Arr ea E) : ea.all (·.oneCell') = true := by
  rw [Array.all_eq_true]
  intro i hi
  have hi' : i < 256 := by rw [← h.size]; exact hi
  have := h.at_ (i : Int) (by omega) (by omega)
  simp only [Int.toNat_natCast] at this
  rw [Array.getElem?_eq_getElem hi] at this
  rw [Option.some.inj this]
  rfl

theorem Arr.set {ea : Array Value} {E : Int → Bool} (h : Arr ea E) {w : World} {b : Nat} {t : TypeId} (hb : w.heap[b]? = some (.cells ea t (0, 0))) : SetAt w b E := by
  intro c h0 h1
  rw [cell_of_row w b c.toNat ea t (0, 0) hb]
  exact h.at_ c h0 h1

theorem blk_old {w : World} {o : Obj} {i : Nat} {x : Option Obj} (h : w.heap[i]? = x) (hi : i < w.heap.size) : (w.alloc o).heap[i]? = x := by
  show (w.heap.push o)[i]? = x
  rw [Array.getElem?_push, if_neg (by omega)]
  exact h
theorem blk_last {w : World} {o : Obj} {i : Nat} (hi : i = w.heap.size) : (w.alloc o).heap[i]? = some o := by rw [hi]; exact heap_alloc_last w o
theorem hid_of {p : Prop} (h : p) : Hid p := h
theorem frozen_zero {w : World} {b i : Nat} {cs : Array Value} {t : TypeId} (h : w.heap[b]? = some (.cells cs t (0, 0))) : w.frozen? ⟨b, i, none⟩ = false := by
  unfold World.frozen?
  simp [h]
theorem size_alloc (w : World) (o : Obj) : (w.alloc o).heap.size = w.heap.size + 1 := by
  show (w.heap.push o).size = _
  simp

set_option maxRecDepth 100000 in
set_option maxHeartbeats 4000000 in
theorem zz_any (g N cap start : Nat) (l rest name : List Int) (E D : Int → Bool) (term : Int) (ea da : Array Value) (w : World) (hea : Arr ea E) (hda : Arr da D)
    (hN : N = l.length) (hNc : N ≤ cap) (hbig : N ≤ 50000000) (hgs : g < w.heap.size)
    (hl : ∀ j, j < N → w.cell? ⟨g, j, none⟩ = some (.int .u8 (l[j]?.getD 0))) (hr : ∀ j, j < N → 0 ≤ l[j]?.getD 0 ∧ l[j]?.getD 0 ≤ 255)
    (ht : term ≠ 92) (hEt : E term = true) (hDt : D term = true) (hDE : ∀ c, 0 ≤ c → c ≤ 255 → c ≠ 92 → E c = false → D c = false)
    (hrd : Pl.Rd E term rest name [] (l.drop start)) (hnm : ∀ j, j < name.length → 0 ≤ name[j]?.getD 0 ∧ name[j]?.getD 0 ≤ 255) :
    Calls Try.prog 21 #[.slice (some ⟨g, 0, none⟩) N cap, .int .i64 start, .slice none 0 0, .agg ea, .agg da] w fun e w' =>
      ∃ (v : Value) (p : Nat), e = .returned (.tuple #[v, .int .u8 term, .int .i64 p]) ∧ BytesAt (fun _ => True) w' v name ∧ Hid (l.drop p = term :: rest) ∧ Below w.heap.size w w' := by
  obtain ⟨Z, hZ, zz⟩ := Try.zero80
  have hs := hea.size
  have hsd := hda.size
  have h1a := hea.one
  have h1d := hda.one
  have hg1 : (((w.alloc (.cells ea 31)).alloc (.cells da 31)).alloc (.cells #[.slice (some ⟨g, 0, none⟩) N cap, .int .i64 start, .int .i64 0, .slice none 0 0, .map none] 79)).heap[w.heap.size]? = some (.cells ea 31 (0, 0)) := by
    exact blk_old (blk_old (heap_alloc_last _ _) (by simp only [size_alloc]; omega)) (by simp only [size_alloc]; omega)
  have hg2 : ((((w.alloc (.cells ea 31)).alloc (.cells da 31)).alloc (.cells #[.slice (some ⟨g, 0, none⟩) N cap, .int .i64 start, .int .i64 0, .slice none 0 0, .map none] 79)).alloc (.cells ea 80)).heap[w.heap.size + 1]? = some (.cells da 31 (0, 0)) := by
    exact blk_old (blk_old (blk_last (by simp only [size_alloc])) (by simp only [size_alloc]; omega)) (by simp only [size_alloc]; omega)
  have HN : Hid (N = l.length) := hN
  have HL : Hid (∀ j, j < N → w.cell? ⟨g, j, none⟩ = some (.int .u8 (l[j]?.getD 0))) := hl
  have HR : Hid (∀ j, j < N → 0 ≤ l[j]?.getD 0 ∧ l[j]?.getD 0 ≤ 255) := hr
  have HT : Hid (term ≠ 92 ∧ E term = true ∧ D term = true ∧ ∀ c, 0 ≤ c → c ≤ 255 → c ≠ 92 → E c = false → D c = false) := ⟨ht, hEt, hDt, hDE⟩
  have HRD : Hid (Pl.Rd E term rest name [] (l.drop start)) := hrd
  have HNM : Hid (∀ j, j < name.length → 0 ≤ name[j]?.getD 0 ∧ name[j]?.getD 0 ≤ 255) := hnm
  have HS : Hid (ea.size = 256) := hs
  have HSD : Hid (da.size = 256) := hsd
  have H1A : Hid (ea.all (·.oneCell') = true) := h1a
  have H1D : Hid (da.all (·.oneCell') = true) := h1d
  have HZ : Hid (Z.size = 256) := hZ
  have HZZ : Hid (∀ W, (zeroValue 80).run Try.prog W = .ok (.agg Z) W) := zz
  have HG1 := hid_of hg1
  have HG2 := hid_of hg2
  clear hN hl hr ht hEt hDt hDE hrd hnm hs hsd h1a h1d hZ zz hg1 hg2
  go_enter Try.func21, Try.ntmps21
  go_wp2_with (first
    | (refine wpList_load_row rfl 31 _ rfl w.heap.size (by rfl) 31 ea (0, 0) _ HG1.out Try.underlying31 rfl (by rw [HS.out]; exact Try.size31) ?_)
    | (refine wpList_load_row rfl 31 _ rfl (w.heap.size + 1) (by rfl) 31 da (0, 0) _ HG2.out Try.underlying31 rfl (by rw [HSD.out]; exact Try.size31) ?_)
    | (refine wpList_alloc_big rfl 80 rfl Z HZZ.out ?_)
    | (refine wpList_store_new rfl 80 _ _ rfl Z ea (by rfl) (by rfl) (by rw [HS.out]; exact Try.size80) (by rw [HS.out, HZ.out]) H1A.out ?_)
    | (refine wpList_store_new rfl 80 _ _ rfl Z da (by rfl) (by rfl) (by rw [HSD.out]; exact Try.size80) (by rw [HSD.out, HZ.out]) H1D.out ?_))
  have k0 : (((((w.alloc (.cells ea 31)).alloc (.cells da 31)).alloc (.cells #[.slice (some ⟨g, 0, none⟩) N cap, .int .i64 start, .int .i64 0, .slice none 0 0, .map none] 79)).alloc (.cells ea 80)).alloc (.cells da 80)).heap[w.heap.size + 1 + 1]? = some (.cells #[.slice (some ⟨g, 0, none⟩) N cap, .int .i64 start, .int .i64 0, .slice none 0 0, .map none] 79 (0, 0)) :=
    blk_old (blk_old (blk_last (by simp only [size_alloc])) (by simp only [size_alloc]; omega)) (by simp only [size_alloc]; omega)
  have k1 : (((((w.alloc (.cells ea 31)).alloc (.cells da 31)).alloc (.cells #[.slice (some ⟨g, 0, none⟩) N cap, .int .i64 start, .int .i64 0, .slice none 0 0, .map none] 79)).alloc (.cells ea 80)).alloc (.cells da 80)).heap[w.heap.size + 1 + 1 + 1]? = some (.cells ea 80 (0, 0)) :=
    blk_old (blk_last (by simp only [size_alloc])) (by simp only [size_alloc]; omega)
  have k2 : (((((w.alloc (.cells ea 31)).alloc (.cells da 31)).alloc (.cells #[.slice (some ⟨g, 0, none⟩) N cap, .int .i64 start, .int .i64 0, .slice none 0 0, .map none] 79)).alloc (.cells ea 80)).alloc (.cells da 80)).heap[w.heap.size + 1 + 1 + 1 + 1]? = some (.cells da 80 (0, 0)) :=
    blk_last (by simp only [size_alloc])
  have k3 : ∀ b, b < w.heap.size → (((((w.alloc (.cells ea 31)).alloc (.cells da 31)).alloc (.cells #[.slice (some ⟨g, 0, none⟩) N cap, .int .i64 start, .int .i64 0, .slice none 0 0, .map none] 79)).alloc (.cells ea 80)).alloc (.cells da 80)).heap[b]? = w.heap[b]? := fun b hb =>
    blk_old (blk_old (blk_old (blk_old (blk_old rfl hb) (by simp only [size_alloc]; omega)) (by simp only [size_alloc]; omega)) (by simp only [size_alloc]; omega)) (by simp only [size_alloc]; omega)
  have k4 : (((((w.alloc (.cells ea 31)).alloc (.cells da 31)).alloc (.cells #[.slice (some ⟨g, 0, none⟩) N cap, .int .i64 start, .int .i64 0, .slice none 0 0, .map none] 79)).alloc (.cells ea 80)).alloc (.cells da 80)).heap.size = w.heap.size + 5 := by simp only [size_alloc]
  have k5 : (((((w.alloc (.cells ea 31)).alloc (.cells da 31)).alloc (.cells #[.slice (some ⟨g, 0, none⟩) N cap, .int .i64 start, .int .i64 0, .slice none 0 0, .map none] 79)).alloc (.cells ea 80)).alloc (.cells da 80)).os = w.os := rfl
  have k6 : (((((w.alloc (.cells ea 31)).alloc (.cells da 31)).alloc (.cells #[.slice (some ⟨g, 0, none⟩) N cap, .int .i64 start, .int .i64 0, .slice none 0 0, .map none] 79)).alloc (.cells ea 80)).alloc (.cells da 80)).tape = w.tape := rfl
  have k7 : (((((w.alloc (.cells ea 31)).alloc (.cells da 31)).alloc (.cells #[.slice (some ⟨g, 0, none⟩) N cap, .int .i64 start, .int .i64 0, .slice none 0 0, .map none] 79)).alloc (.cells ea 80)).alloc (.cells da 80)).output = w.output := rfl
  generalize ((((w.alloc (.cells ea 31)).alloc (.cells da 31)).alloc (.cells #[.slice (some ⟨g, 0, none⟩) N cap, .int .i64 start, .int .i64 0, .slice none 0 0, .map none] 79)).alloc (.cells ea 80)).alloc (.cells da 80) = W at *
  refine (name_any (w.heap.size + 1 + 1) (w.heap.size + 1 + 1 + 1) (w.heap.size + 1 + 1 + 1 + 1) g N cap start l rest name E D term W
    (cell_of_row W _ 0 _ _ _ k0) (cell_of_row W _ 1 _ _ _ k0) (cell_of_row W _ 3 _ _ _ k0) (frozen_zero k0) (frozen_zero k0) HN.out hNc hbig
    (fun j hj => (World.cell?_of_block (k3 g hgs)).trans (HL.out j hj)) HR.out (hea.set k1) (hda.set k2) (by omega) (by omega) (by omega)
    HT.out.1 HT.out.2.1 HT.out.2.2.1 HT.out.2.2.2 HRD.out HNM.out).mono ?_
  rintro e w2 ⟨v, p, rfl, hB, hp, hdrop, os, tape, out, size, old⟩
  obtain ⟨a, c, rfl, -⟩ := id hB
  have HB : Hid (BytesAt (fun _ => True) w2 (.slice a name.length c) name) := hB
  have HBEL : Hid (Below w.heap.size w w2) := ⟨os.trans k5, tape.trans k6, out.trans k7, by omega, fun b hb => (old b (by omega) (by omega)).trans (k3 b hb)⟩
  clear hB os tape out size old k0 k1 k2 k3 k4 k5 k6 k7 HG1 HG2 HL HR
  go_wp2
  go_quiet (fail)
  go_wp2
  go_ret3
  exact ⟨_, p, rfl, HB.out.below (below_drewN (Below.refl _ _) _), hdrop, below_drewN HBEL.out _⟩
end Go.Proofs.Qxb6603471a
