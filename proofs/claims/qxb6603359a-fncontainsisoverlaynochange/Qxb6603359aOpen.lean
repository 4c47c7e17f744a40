/-
  An argument of the law, opened: a struct of seven pointers, each to what the law reads.
-/
import Derived.Test.Qxb6603359aLaw
import Derived.ProofKit
import Derived.ChangeOld
import Derived.ChangeSame
import Derived.OpenShut
namespace Go.Proofs.Qxb6603359a
open Go.ChangeShapes Go.WideShapes Go.ChangeAt Go.RowKit

theorem Try.cells5 : Try.prog.cellsOf 5 = 1 := by kernel_rfl
theorem Try.cells9 : Try.prog.cellsOf 9 = 1 := by kernel_rfl
theorem Try.cells22 : Try.prog.cellsOf 22 = 1 := by kernel_rfl
theorem Try.cells23 : Try.prog.cellsOf 23 = 1 := by kernel_rfl
theorem Try.cells24 : Try.prog.cellsOf 24 = 1 := by kernel_rfl
theorem Try.cells26 : Try.prog.cellsOf 26 = 7 := by kernel_rfl
theorem Try.cells47 : Try.prog.cellsOf 47 = 1 := by kernel_rfl
theorem Try.cells51 : Try.prog.cellsOf 51 = 1 := by kernel_rfl
theorem Try.cells53 : Try.prog.cellsOf 53 = 2 := by kernel_rfl

section
variable {H : Type} {enc : TypeId × Value → H} {w : World}

/-- A pointer's cell, opened. -/
theorem open_cell {t e : TypeId} {fuel n : Nat} {cs : List Value} {x : DataW H × List MemPlace} (ht : Try.prog.underlying t = some (.pointer e)) (hC : Try.prog.cellsOf e = n) (hpos : 0 < n)
    (h : DataW.trod enc Try.prog w 0 (fun _ => true) true fuel t cs = some x) :
    cs = [.pointer none] ∨ ∃ b off cs' y m, cs = [.pointer (some ⟨b, off, none⟩)] ∧ cs'.length = n ∧ (∀ i, i < n → w.cell? ⟨b, off + i, none⟩ = cs'[i]?) ∧ DataW.trod enc Try.prog w 0 (fun _ => true) true m e cs' = some y := by
  rcases DataW.trod_pointer ht h with ⟨h, _⟩ | ⟨a, cs', y, m, _, h, _, hcells, hd'⟩
  · exact .inl h
  · right
    rw [hC] at hcells
    obtain ⟨_, hlen, hcell⟩ := World.cells?_some hcells
    obtain ⟨b, off, spot⟩ := a
    have g0 := hcell 0 hpos
    obtain ⟨c0, hc0⟩ : ∃ c0, cs'[0]? = some c0 := by
      cases cs' with
      | nil => simp at hlen; omega
      | cons c _ => exact ⟨c, rfl⟩
    rw [hc0] at g0
    have hspot : spot = none := by simpa [Addr.add] using World.cell?_spot g0
    subst hspot
    exact ⟨b, off, cs', y, m, h, hlen, fun i hi => by have h := hcell i hi; rwa [add_plain] at h, hd'⟩

theorem open_num {fuel : Nat} {c : Value} {x : DataW H × List MemPlace} (h : DataW.trod enc Try.prog w 0 (fun _ => true) true fuel 24 [c] = some x) : ∃ q t, c = .pointer q ∧ NumAt (fun _ => True) w (.pointer q) t := by
  rcases open_cell Try.underlying24 Try.cells51 (by decide) h with h | ⟨b, off, cs', y, m, h, hlen, hcell, hy⟩
  · simp at h
    exact ⟨none, none, h, rfl⟩
  · simp at h
    obtain ⟨n, rfl, _, _⟩ := DataW.trod_int Try.underlying51 hy
    exact ⟨_, some n, h, b, off, rfl, trivial, by simpa using hcell 0 (by decide)⟩

theorem open_str {fuel : Nat} {c : Value} {x : DataW H × List MemPlace} (h : DataW.trod enc Try.prog w 0 (fun _ => true) true fuel 23 [c] = some x) : ∃ q t, c = .pointer q ∧ StrAt (fun _ => True) w (.pointer q) t := by
  rcases open_cell Try.underlying23 Try.cells9 (by decide) h with h | ⟨b, off, cs', y, m, h, hlen, hcell, hy⟩
  · simp at h
    exact ⟨none, none, h, rfl⟩
  · simp at h
    obtain ⟨s, rfl, _, hs⟩ := DataW.trod_string Try.underlying9 hy
    exact ⟨_, some s, h, b, off, rfl, trivial, by simpa using hcell 0 (by decide), by unfold maxLen at hs; omega⟩

theorem open_bytes {fuel : Nat} {c : Value} {x : DataW H × List MemPlace} (h : DataW.trod enc Try.prog w 0 (fun _ => true) true fuel 47 [c] = some x) : ∃ l, BytesAt (fun _ => True) w c l := by
  rcases open_ints Try.underlying47 Try.underlying5 Try.cells5 h with ⟨hcs, _⟩ | ⟨a, len, cap, zs, hcs, _, hl, hm, hz, _, hcell, hwz⟩
  · simp at hcs
    exact ⟨[], none, 0, hcs, by simp, by simp, .inl rfl⟩
  · simp at hcs
    simp only [if_true] at hz
    have hlen : (zs.take len).length = len := by simp; omega
    refine ⟨zs.take len, some a, cap, by rw [hlen]; exact hcs, by rw [hlen]; unfold maxLen at hm; omega, fun j hj => ?_, ?_⟩
    · rw [hlen] at hj
      have hjz : j < zs.length := by omega
      have e : (zs.take len)[j]?.getD 0 = zs[j] := by simp [hj, hjz]
      rw [e]
      exact bounds_u8 (hwz _ (List.getElem_mem hjz))
    · by_cases h0 : len = 0
      · exact .inl (List.eq_nil_of_length_eq_zero (by omega))
      · right
        obtain ⟨b, off, spot⟩ := a
        have hspot : spot = none := by simpa [Addr.add] using World.cell?_spot (hcell 0 (by omega))
        subst hspot
        refine ⟨b, off, rfl, trivial, fun j hj => ?_⟩
        rw [hlen] at hj
        have := hcell j (by omega)
        rw [add_plain] at this
        rw [this]
        simp [List.getD, hj]

theorem open_tag {fuel : Nat} {c : Value} {x : DataW H × List MemPlace} (h : DataW.trod enc Try.prog w 0 (fun _ => true) true fuel 22 [c] = some x) : ∃ q t, c = .pointer q ∧ TagAt (fun _ => True) w (.pointer q) t := by
  rcases open_cell Try.underlying22 Try.cells53 (by decide) h with h | ⟨b, off, cs', y, m, h, hlen, hcell, hy⟩
  · simp at h
    exact ⟨none, none, h, rfl⟩
  · simp at h
    obtain ⟨y0, y1, n, _, _, h0, h1⟩ := trod_struct2 Try.underlying53 hy
    match cs', hlen with
    | [c0, c1], _ =>
      simp only [Try.cells51, Try.cells47] at h0 h1
      obtain ⟨g, hg, _, _⟩ := DataW.trod_int Try.underlying51 h0
      simp at hg
      subst hg
      obtain ⟨l, hl⟩ := open_bytes h1
      exact ⟨_, some (g, l), h, b, off, _, rfl, trivial, by simpa using hcell 0 (by decide), by simpa using hcell 1 (by decide), hl⟩

theorem array7 {α : Type} {cs : Array α} (h : cs.size = 7) : ∃ c0 c1 c2 c3 c4 c5 c6, cs = #[c0, c1, c2, c3, c4, c5, c6] := by
  obtain ⟨l⟩ := cs
  match l, h with
  | [c0, c1, c2, c3, c4, c5, c6], _ => exact ⟨c0, c1, c2, c3, c4, c5, c6, rfl⟩

/-- THE ARGUMENT. -/
theorem open_env {r : Reach} {b0 : Nat} {v : Value} {d : DataW H} {p : List MemPlace} (hv : Value.okWide Try.prog w r b0 26 v) (h : DataW.Trod enc Try.prog w 0 (fun _ => true) true 26 v d p) :
    ∃ q0 q1 q2 q3 q4 q5 q6 E, v = .agg #[.pointer q0, .pointer q1, .pointer q2, .pointer q3, .pointer q4, .pointer q5, .pointer q6] ∧ EnvAt (fun _ => True) w q0 q1 q2 q3 q4 q5 q6 E := by
  obtain ⟨cs, rfl, hsz⟩ := okWide_struct Try.underlying26 hv
  obtain ⟨c0, c1, c2, c3, c4, c5, c6, rfl⟩ := array7 (hsz.trans Try.cells26)
  obtain ⟨fuel, hf⟩ := h
  obtain ⟨xs, n, _, _, _, hlen, hfs⟩ := DataW.trod_struct Try.underlying26 hf
  have g0 := hfs 0 _ rfl
  have g1 := hfs 1 _ rfl
  have g2 := hfs 2 _ rfl
  have g3 := hfs 3 _ rfl
  have g4 := hfs 4 _ rfl
  have g5 := hfs 5 _ rfl
  have g6 := hfs 6 _ rfl
  have hl : xs.length = 7 := hlen
  clear hfs hf hlen
  match xs, hl with
  | [x0, x1, x2, x3, x4, x5, x6], _ =>
    simp [Value.cells, Try.cells22, Try.cells23, Try.cells24] at g0 g1 g2 g3 g4 g5 g6
    obtain ⟨q0, t0, rfl, k0⟩ := open_tag g0
    obtain ⟨q1, t1, rfl, k1⟩ := open_str g1
    obtain ⟨q2, t2, rfl, k2⟩ := open_str g2
    obtain ⟨q3, t3, rfl, k3⟩ := open_num g3
    obtain ⟨q4, t4, rfl, k4⟩ := open_num g4
    obtain ⟨q5, t5, rfl, k5⟩ := open_tag g5
    obtain ⟨q6, t6, rfl, k6⟩ := open_tag g6
    exact ⟨q0, q1, q2, q3, q4, q5, q6, ⟨t0, t1, t2, t3, t4, t5, t6⟩, rfl, k0, k1, k2, k3, k4, k5, k6⟩
end
end Go.Proofs.Qxb6603359a
