/-
  FnNameBytesUndoesEscaper, walked.
-/
import Derived.Test.Qxb6603471aZZ
namespace Go.Proofs.Qxb6603471a
open Go.RowKit
variable {P Q : Nat → Prop}

theorem BytesAt.lt {w : World} {v : Value} {l : List Int} (h : BytesAt P w v l) : BytesAt (fun b => b < w.heap.size) w v l := by
  obtain ⟨a, cap, h1, h2, h3, h4⟩ := h
  refine ⟨a, cap, h1, h2, h3, ?_⟩
  rcases h4 with h4 | ⟨b, off, h5, hp, h6⟩
  · exact .inl h4
  · by_cases h0 : l = []
    · exact .inl h0
    · have hpos : 0 < l.length := by cases l with | nil => exact absurd rfl h0 | cons _ _ => simp
      exact .inr ⟨b, off, h5, block_lt_of_cell (h6 0 hpos), h6⟩

/-- append of a byte slice (nil, empty or not) onto a row of one's own. -/
theorem app_bytes (w : World) (B : Nat) (ty : TypeId) (v : Value) (n : Nat) (xs : List Int) (x : Value) (ys : List Int) (hown : w.ownsRow B 5 1 v n (vs xs)) (hx : BytesAt P w x ys) (hbound : n + ys.length ≤ 1000000000) (hbase : B ≤ w.heap.size) :
    ∃ a' c' w', (Builtin.append_ #[22, 22] ty #[v, x]).run Try.prog w = .ok (.slice a' (n + ys.length) c') w' ∧ w'.ownsRow B 5 1 (.slice a' (n + ys.length) c') (n + ys.length) (vs (xs ++ ys)) ∧ Grow w v w' (.slice a' (n + ys.length) c') := by
  obtain ⟨i0, hi, hz0, hz1, hz2⟩ := info_parts Try.info5
  obtain ⟨a, c, rfl, -, -, hc⟩ := hx
  cases a with
  | none =>
    have hnil : ys = [] := by
      rcases hc with h | ⟨b, off, h, -⟩
      · exact h
      · cases h
    subst hnil
    obtain ⟨a', c', hv⟩ := slice_forms hown
    refine ⟨a', c', w, ?_, ?_, ?_⟩
    · subst hv
      rcases hown.2 with ⟨h1, h2⟩ | ⟨g, cap, cur, h1, _, _, hnc, _⟩
      · simp only [Value.slice.injEq] at h1
        obtain ⟨rfl, rfl, rfl⟩ := h1
        simp [Builtin.append_, run_underlying Try.underlying22, sizeOf, typeInfo, hi, Builtin.lenOf, Builtin.firstCells]
      · simp only [Value.slice.injEq] at h1
        obtain ⟨rfl, -, rfl⟩ := h1
        simp [Builtin.append_, run_underlying Try.underlying22, sizeOf, typeInfo, hi, Builtin.lenOf, Builtin.firstCells, hnc, storeCells]
    · subst hv; simpa using hown
    · subst hv; exact Grow.refl _ _
  | some ad =>
    obtain ⟨v', w', hr, h2, h3, _, h5⟩ := run_append_own_at (P := Try.prog) w B 22 ty 5 i0 (.int .u8 0) 1 1 Try.underlying22 hi hz0 hz1 hz2 rfl (by decide) v n (vs xs) hown ad ys.length c (vs ys) (by simp [vs])
      (by
        intro j u hj
        rcases hc with rfl | ⟨b, off, h, -, hcell⟩
        · simp [vs] at hj
        · cases h
          have hjl : j < ys.length := by
            rcases Nat.lt_or_ge j ys.length with h | h
            · exact h
            · rw [List.getElem?_eq_none (by simpa [vs] using h)] at hj; cases hj
          rw [Addr.add_mid, hcell j hjl]
          simp [vs, hjl] at hj
          simp [hjl, hj])
      (by intro u hu; obtain ⟨z, _, rfl⟩ := List.mem_map.1 hu; rfl) (by unfold maxLen; omega) (by omega) hbase
    obtain ⟨a', c', rfl⟩ := slice_forms h2
    rw [← vs_append] at h2
    exact ⟨a', c', w', hr, h2, ⟨h3, h5.elim .inl (fun e => .inr ⟨_, Nat.le_refl _, e⟩)⟩⟩

/-- .. in a plain region. -/
theorem wpList_app_bytes {w : World} {ops : Array Oper} {rest : List Oper} {o : Oper} {a : Act} {Q : Exit → Act → World → Prop} (hgd : o.guard = none) (s x : Operand)
    (ho : o.op = .call { callee := .builtin .append, args := #[s, x], argTypes := #[22, 22] })
    (B : Nat) (v : Value) (n : Nat) (xs : List Int) (u : Value) (ys : List Int) (hs : a.eval s = v) (hu : a.eval x = u) (hown : w.ownsRow B 5 1 v n (vs xs)) (hx : BytesAt P w u ys) (hbound : n + ys.length ≤ 1000000000) (hbase : B ≤ w.heap.size)
    (h : ∀ a' c' w', w'.ownsRow B 5 1 (.slice a' (n + ys.length) c') (n + ys.length) (vs (xs ++ ys)) → Grow w v w' (.slice a' (n + ys.length) c') → wpList Try.prog ops Q rest (a.put o.dst (.slice a' (n + ys.length) c')) w') :
    wpList Try.prog ops Q (o :: rest) a w :=
  wpList_plain hgd fun _ hK => by
    obtain ⟨a', c', w', hr, h2, h3⟩ := app_bytes w B o.type v n xs u ys hown hx hbound hbase
    unfold Oper.wp execOp
    simp only [ho, resolve, invoke, builtin, Sem.run_bind, Sem.run_pure, Result.andThen_ok, List.map_toArray, List.map_cons, List.map_nil, hs, hu, hr]
    exact hK _ _ (h a' c' w' h2 h3)

theorem bs_mem {k : Nat} {x : Int} (h : x ∈ Pl.bs k) : x = 92 := (List.mem_replicate.1 h).2
theorem esc_mem (E : Int → Bool) : ∀ (l : List Int) (k : Nat) (x : Int), x ∈ Pl.esc E l k → x = 92 ∨ x ∈ l
  | [], k, x, h => .inl (bs_mem h)
  | c :: l, k, x, h => by
    rw [Pl.esc] at h
    split at h
    · rcases esc_mem E l _ x h with h | h
      · exact .inl h
      · exact .inr (List.mem_cons_of_mem _ h)
    · rcases List.mem_append.1 h with h | h
      · exact .inl (bs_mem h)
      · rcases List.mem_cons.1 h with h | h
        · exact .inr (by rw [h]; exact List.mem_cons_self)
        · rcases esc_mem E l _ x h with h | h
          · exact .inl h
          · exact .inr (List.mem_cons_of_mem _ h)

/-- All bytes. -/
def Byt (l : List Int) : Prop := ∀ x ∈ l, 0 ≤ x ∧ x ≤ 255
theorem Byt.at {l : List Int} (h : Byt l) (j : Nat) (hj : j < l.length) : 0 ≤ l[j]?.getD 0 ∧ l[j]?.getD 0 ≤ 255 := by
  have := h l[j] (List.getElem_mem hj)
  simpa [hj] using this
theorem BytesAt.byt {w : World} {v : Value} {l : List Int} (h : BytesAt P w v l) : Byt l := by
  obtain ⟨a, cap, h1, h2, h3, h4⟩ := h
  intro x hx
  obtain ⟨j, hj, rfl⟩ := List.getElem_of_mem hx
  simpa [hj] using h3 j hj

/-- The line that is read. -/
def line (E : Int → Bool) (pf nm rs : List Int) (t : Int) : List Int := pf ++ Pl.esc E nm 0 ++ [t] ++ rs
theorem line_byt {E : Int → Bool} {pf nm rs : List Int} {t : Int} (hp : Byt pf) (hn : Byt nm) (hr : Byt rs) (ht0 : 0 ≤ t) (ht1 : t ≤ 255) : Byt (line E pf nm rs t) := by
  intro x hx
  simp only [line, List.mem_append, List.mem_singleton] at hx
  rcases hx with ((h | h) | h) | h
  · exact hp x h
  · rcases esc_mem E nm 0 x h with h | h
    · subst h; omega
    · exact hn x h
  · subst h; omega
  · exact hr x h
theorem line_drop (E : Int → Bool) (pf nm rs : List Int) (t : Int) : (line E pf nm rs t).drop pf.length = Pl.esc E nm 0 ++ t :: rs := by
  simp [line]
theorem line_rd (E : Int → Bool) (pf nm rs : List Int) (t : Int) : Pl.Rd E t rs nm [] ((line E pf nm rs t).drop pf.length) := by
  rw [line_drop]; exact Pl.rd_start E t rs nm
theorem line_pos {E : Int → Bool} {pf nm rs : List Int} {t : Int} {p : Nat} (h : (line E pf nm rs t).drop p = t :: rs) : p = (pf ++ Pl.esc E nm 0).length := by
  have := congrArg List.length h
  simp [line] at this
  simp; omega

theorem own_len {w : World} {B n : Nat} {v : Value} {l : List Int} (h : w.ownsRow B 5 1 v n (vs l)) : n = l.length := by
  have := h.1
  simp [vs] at this
  exact this.symm

theorem own_parts {w : World} {B n : Nat} {v : Value} {l : List Int} (h : w.ownsRow B 5 1 v n (vs l)) (hn : 0 < n) :
    ∃ g cap, v = .slice (some ⟨g, 0, none⟩) n cap ∧ g < w.heap.size ∧ n ≤ cap ∧ ∀ j, j < n → w.cell? ⟨g, j, none⟩ = some (.int .u8 (l[j]?.getD 0)) := by
  have hl := own_len h
  rcases h.2 with ⟨_, h0⟩ | ⟨g, cap, cur, rfl, _, hg, hc, _⟩
  · omega
  · refine ⟨g, cap, rfl, (Array.getElem?_eq_some_iff.1 hg).1, hc, fun j hj => ?_⟩
    rw [h.cellAt j (by omega)]
    have hjl : j < l.length := by omega
    simp [vs, hjl]

/-- The law's post. -/
def SaysT (w : World) (e : Ending) (w' : World) : Prop := e = .returned (.bool true) ∧ Below w.heap.size w w'

set_option maxRecDepth 100000 in
set_option maxHeartbeats 4000000 in
theorem law_any (a0 a1 a2 : Option Addr) (n0 n1 n2 c0 c1 c2 : Nat) (pf nm rs : List Int) (t : Int) (ea da : Array Value) (E D : Int → Bool) (w : World) (ht0 : 0 ≤ t) (ht1 : t ≤ 255) (hea : Arr ea E) (hda : Arr da D)
    (hp : BytesAt P w (.slice a0 n0 c0) pf) (hn : BytesAt P w (.slice a1 n1 c1) nm) (hr : BytesAt P w (.slice a2 n2 c2) rs) :
    Calls Try.prog 7 #[.slice a0 n0 c0, .slice a1 n1 c1, .slice a2 n2 c2, .int .u8 t, .agg ea, .agg da] w (SaysT w) := by
  have m0 : n0 = pf.length ∧ n0 ≤ 9223372036854775807 := by obtain ⟨a, c, h, h1, -⟩ := hp; cases h; exact ⟨rfl, h1⟩
  have m1 : n1 = nm.length ∧ n1 ≤ 9223372036854775807 := by obtain ⟨a, c, h, h1, -⟩ := hn; cases h; exact ⟨rfl, h1⟩
  have m2 : n2 = rs.length ∧ n2 ≤ 9223372036854775807 := by obtain ⟨a, c, h, h1, -⟩ := hr; cases h; exact ⟨rfl, h1⟩
  have HM : Hid (n0 = pf.length ∧ n1 = nm.length ∧ n2 = rs.length) := ⟨m0.1, m1.1, m2.1⟩
  have l0 := m0.2
  have l1 := m1.2
  have l2 := m2.2
  have HP : Hid (BytesAt P w (.slice a0 n0 c0) pf) := hp
  have HN : Hid (BytesAt P w (.slice a1 n1 c1) nm) := hn
  have HR : Hid (BytesAt P w (.slice a2 n2 c2) rs) := hr
  have HEA : Hid (Arr ea E) := hea
  have HDA : Hid (Arr da D) := hda
  clear m0 m1 m2 hp hn hr hea hda
  have hg1 : ((w.alloc (.cells ea 31)).alloc (.cells da 31)).heap[w.heap.size]? = some (.cells ea 31 (0, 0)) := blk_old (heap_alloc_last _ _) (by simp only [size_alloc]; omega)
  have hg2 : ((w.alloc (.cells ea 31)).alloc (.cells da 31)).heap[w.heap.size + 1]? = some (.cells da 31 (0, 0)) := blk_last (by simp only [size_alloc])
  have HG1 := hid_of hg1
  have HG2 := hid_of hg2
  have hbel : Below w.heap.size w ((w.alloc (.cells ea 31)).alloc (.cells da 31)) := ((Below.refl _ _).alloc (Nat.le_refl _) _).alloc (by simp) _
  have HBEL := hid_of hbel
  have hsz : w.heap.size + 2 = ((w.alloc (.cells ea 31)).alloc (.cells da 31)).heap.size := by simp only [size_alloc]
  have HSZ := hid_of hsz
  clear hg1 hg2 hbel hsz
  go_enter Try.func7, Try.ntmps7
  go_wp2_with (first
    | (refine wpList_load_row rfl 31 _ rfl w.heap.size (by rfl) 31 ea (0, 0) _ HG1.out Try.underlying31 rfl (by rw [HEA.out.size]; exact Try.size31) ?_)
    | (refine wpList_load_row rfl 31 _ rfl (w.heap.size + 1) (by rfl) 31 da (0, 0) _ HG2.out Try.underlying31 rfl (by rw [HDA.out.size]; exact Try.size31) ?_))
  generalize (w.alloc (.cells ea 31)).alloc (.cells da 31) = w0 at *
  refine (bytes_any a0 a1 a2 n0 n1 n2 c0 c1 c2 t ea da w0 l0 l1 l2).mono ?_
  rintro e w1 ⟨⟨r, rfl, hr⟩, hb1⟩
  have HB : Hid (Below w.heap.size w w1) := HBEL.out.trans (hb1.mono (by have := HSZ.out; omega))
  have hk1 : w1.heap[w.heap.size]? = some (.cells ea 31 (0, 0)) := (hb1.block _ (by have := HSZ.out; omega)).trans HG1.out
  have hk2 : w1.heap[w.heap.size + 1]? = some (.cells da 31 (0, 0)) := (hb1.block _ (by have := HSZ.out; omega)).trans HG2.out
  have HK1 := hid_of hk1
  have HK2 := hid_of hk2
  clear hb1 hk1 hk2 HG1 HG2 HBEL HSZ w0
  cases r with
  | false =>
    clear hr
    go_wp2
    go_ret
    exact ⟨rfl, HB.out⟩
  | true =>
    have hle := hr rfl
    clear hr l0 l1 l2
    have i0 : ¬ (1048576 : Int) < (n0 : Int) := by omega
    have i1 : ¬ (1048576 : Int) < (n1 : Int) := by omega
    have i2 : ¬ (1048576 : Int) < (n2 : Int) := by omega
    have i3 : ¬ (1048576 : Int) < (n0 : Int) + (n1 : Int) + (n2 : Int) := by omega
    have u1 : IntKind.i64.wrap ((n0 : Int) + (n1 : Int)) = (n0 : Int) + (n1 : Int) := wrap_small _ (by omega) (by omega)
    have u2 : IntKind.i64.wrap ((n0 : Int) + (n1 : Int) + (n2 : Int)) = (n0 : Int) + (n1 : Int) + (n2 : Int) := wrap_small _ (by omega) (by omega)
    by_cases h92 : t = 92
    · subst h92
      go_wp2
      go_ret
      exact ⟨rfl, HB.out⟩
    have hDt := (HDA.out.set HK2.out) t ht0 ht1
    have hb92 : (t == 92) = false := by simpa using h92
    cases hdt : D t with
    | false =>
      rw [hdt] at hDt
      go_wp2
      go_ret
      exact ⟨rfl, HB.out⟩
    | true =>
      rw [hdt] at hDt
      go_wp2
      have HDT : Hid (t ≠ 92 ∧ D t = true) := ⟨h92, hdt⟩
      clear hDt hb92 hdt h92 i0 i1 i2 i3 u1 u2
      go_loopw [13] (fun i wr => ∃ k : Nat, k ≤ 256 ∧ i = .int .i64 k ∧ wr = w1 ∧ Hid (∀ c : Int, 0 ≤ c → c < k → c ≠ 92 → E c = false → D c = false)) (fun i _ => 256 - (intOf i).toNat)
      case atStart => exact ⟨0, by omega, rfl, rfl, fun c h0 h1 => by omega⟩
      case round =>
        obtain ⟨k, hk, rfl, rfl, HX⟩ := hrel
        by_cases hlt : k < 256
        · have hD := (HDA.out.set HK2.out) (k : Int) (by omega) (by omega)
          have hE := (HEA.out.set HK1.out) (k : Int) (by omega) (by omega)
          simp only [Int.toNat_natCast] at hD hE
          have next : (k ≠ 92 → E k = false → D k = false) → Hid (∀ c : Int, 0 ≤ c → c < ((k + 1 : Nat) : Int) → c ≠ 92 → E c = false → D c = false) := fun h c h0 h1 h2 h3 => by
            by_cases e : c = (k : Int)
            · subst e; exact h (by omega) h3
            · exact HX.out c h0 (by omega) h2 h3
          have NX := hid_of next
          clear next
          have j0 : (0 : Int) ≤ (k : Int) := by omega
          have j1 : (k : Int) < 256 := by omega
          by_cases h92 : k = 92
          · subst h92
            go_wp2
            go_roundw
            case rel => exact ⟨93, by omega, rfl, trivial, NX.out (fun h => absurd rfl h)⟩
            case measure => simp [intOf]
          · have hb : ((k : Int) != 92) = true := by rw [bne_iff_ne]; omega
            cases hd : D k with
            | false =>
              rw [hd] at hD
              go_wp2
              go_roundw
              case rel => exact ⟨k + 1, by omega, by go_num, trivial, NX.out (fun _ _ => hd)⟩
              case measure => simp [intOf]; omega
            | true =>
              rw [hd] at hD
              cases he : E k with
              | true =>
                rw [he] at hE
                go_wp2
                go_roundw
                case rel => exact ⟨k + 1, by omega, by go_num, trivial, NX.out (fun _ h => by rw [he] at h; cases h)⟩
                case measure => simp [intOf]; omega
              | false =>
                rw [he] at hE
                go_wp2
                go_ret
                exact ⟨rfl, HB.out⟩
        · have e : k = 256 := by omega
          subst e
          as_aux_lemma =>
          have HDE : Hid (∀ c, 0 ≤ c → c ≤ 255 → c ≠ 92 → E c = false → D c = false) := fun c h0 h1 => HX.out c h0 (by omega)
          have HET : Hid (E t = true) := by
            cases he : E t with
            | true => exact (rfl : true = true)
            | false => exact absurd (HDE.out t ht0 ht1 HDT.out.1 he) (by rw [HDT.out.2]; simp)
          have hz1 : w.heap.size + 1 < wr.heap.size := (Array.getElem?_eq_some_iff.1 HK2.out).1
          clear HX
          -- the clones
          go_wp2_with fail
          refine (clone_any a0 n0 c0 pf wr (by omega) (HP.out.below HB.out)).mono ?_
          rintro e w2 ⟨a3, c3, rfl, hq2, hb2⟩
          have HB2 : Hid (Below w.heap.size w w2) := HB.out.trans (hb2.mono (by omega))
          have hz2 := hb2.size
          go_wp2_with fail
          refine (clone_any a1 n1 c1 nm w2 (by omega) (HN.out.below HB2.out)).mono ?_
          rintro e w3 ⟨a4, c4, rfl, hq3, hb3⟩
          have HB3 : Hid (Below w.heap.size w w3) := HB2.out.trans (hb3.mono (by omega))
          have hz3 := hb3.size
          go_wp2_with fail
          refine (clone_any a2 n2 c2 rs w3 (by omega) (HR.out.below HB3.out)).mono ?_
          rintro e w4 ⟨a5, c5, rfl, hq4, hb4⟩
          have HB4 : Hid (Below w.heap.size w w4) := HB3.out.trans (hb4.mono (by omega))
          have hz4 := hb4.size
          have Q0 := hid_of ((hq2.below hb3).below hb4).lt
          have Q1 := hid_of (hq3.below hb4).lt
          have Q2 := hid_of hq4.lt
          have G1 : Hid (w4.heap[w.heap.size]? = some (.cells ea 31 (0, 0))) := (hb4.block _ (by omega)).trans ((hb3.block _ (by omega)).trans ((hb2.block _ (by omega)).trans HK1.out))
          have G2 : Hid (w4.heap[w.heap.size + 1]? = some (.cells da 31 (0, 0))) := (hb4.block _ (by omega)).trans ((hb3.block _ (by omega)).trans ((hb2.block _ (by omega)).trans HK2.out))
          have hz5 : w.heap.size + 1 < w4.heap.size := by omega
          clear hq2 hq3 hq4 hb2 hb3 hb4 HB HB2 HB3 HP HN HR HK1 HK2 hz1 hz2 hz3 hz4
          -- the line
          obtain ⟨ii, hi, hzz, hzs, hzb⟩ := info_parts Try.info5
          go_wp2_with (at_make; refine wpList_make_own _ rfl _ _ 22 rfl w4.heap.size 5 ii (.int .u8 0) 1 Try.underlying22 hi hzz hzs .i64 .i64 _ (n0 + 2 * n1 + 1 + n2) rfl rfl ?m1 ?m2 ?m3 ?m4 ?_)
          case m1 => omega
          case m2 => rw [hzb]; omega
          case m3 => unfold maxLen; omega
          case m4 => exact Nat.le_refl _
          intro w5 hown5 hgr5
          have hb5 : Below w4.heap.size w4 w5 := (Below.refl _ _).grown hgr5 (Nat.le_refl _) (fun k h => by cases h)
          have HO5 : Hid (w5.ownsRow w4.heap.size 5 1 (.slice (some ⟨w4.heap.size, 0, none⟩) 0 (n0 + 2 * n1 + 1 + n2)) 0 (vs [])) := hown5
          have HB5 := hid_of hb5
          have hz6 := hb5.size
          have q0 := Q0.out.agree (fun b hb _ => hb5.block b hb) (fun _ h => h)
          have HQ0 := hid_of q0
          clear hown5 hgr5 hb5 q0
          have hl0 : pf.length = n0 := HM.out.1.symm
          have HL0 := hid_of hl0
          clear hl0
          go_wp2_with (at_builtin; refine wpList_app_bytes rfl _ _ rfl w4.heap.size _ _ [] _ pf rfl rfl HO5.out HQ0.out ?m1 hz6 ?_)
          case m1 => rw [HL0.out]; omega
          rw [HL0.out]
          intro a6 c6 w6 hown6 hg6
          have hb6 : Below w4.heap.size w4 w6 := HB5.out.trans (hg6.below hz6 (fun k h => (HO5.out.lt k h).1))
          have HB6 := hid_of hb6
          have hz7 := hb6.size
          have HO6 := hid_of hown6
          clear hown6 hg6 hb6 HO5 HB5 hz6 HQ0
          have G61 : Hid (w6.heap[w.heap.size]? = some (.cells ea 31 (0, 0))) := (HB6.out.block _ (by omega)).trans G1.out
          go_wp2_with (refine wpList_load_row rfl 31 _ rfl w.heap.size (by rfl) 31 ea (0, 0) _ G61.out Try.underlying31 rfl (by rw [HEA.out.size]; exact Try.size31) ?_)
          refine (escape_any w4.heap.size n1 c4 a4 _ n0 pf nm ea E w6 HO6.out hz7 (by omega) (Q1.out.agree (fun b hb _ => HB6.out.block b hb) (fun _ h => h)) (fun b hb e => by have := (HO6.out.lt b e.symm).1; omega)
            (HEA.out.set (heap_alloc_last w6 _))).mono ?_
          rintro e w7 ⟨v7, m7, rfl, hown7, hg7⟩
          obtain ⟨a7, c7, rfl⟩ := slice_forms hown7
          have hm7 := own_len hown7
          have hlen7 : m7 ≤ 4000000 := by
            have h1 := Pl.esc_len E nm 0
            have h2 := HM.out
            rw [hm7]; simp; omega
          have HM7 := hid_of hm7
          have hb7 : Below w4.heap.size w4 w7 := HB6.out.trans (hg7.below hz7 (fun k h => (HO6.out.lt k h).1))
          have HB7 := hid_of hb7
          have hz8 := hb7.size
          have HO7 := hid_of hown7
          clear hown7 hg7 hm7 hb7 HO6 HB6 hz7 G61
          have hone : BytesAt (fun _ => True) (w7.alloc (.cells #[.int .u8 t] 5)) (.slice (some ⟨w7.heap.size, 0, none⟩) 1 1) [t] :=
            ⟨_, 1, rfl, by simp, fun j hj => by simp at hj; subst hj; exact ⟨ht0, ht1⟩, .inr ⟨w7.heap.size, 0, rfl, trivial, fun j hj => by
              simp at hj; subst hj; rw [cell_of_row _ _ _ _ _ _ (heap_alloc_last w7 _)]; rfl⟩⟩
          have HONE := hid_of hone
          clear hone
          go_wp2_with (at_builtin; refine wpList_app_bytes rfl _ _ rfl w4.heap.size _ _ (pf ++ Pl.esc E nm 0) _ [t] rfl rfl (HO7.out.alloc _) HONE.out ?m1 ?m2 ?_)
          case m1 => simp; omega
          case m2 => simp only [size_alloc]; omega
          intro a8 c8 w8 hown8 hg8
          obtain ⟨L8, HL8⟩ : ∃ L, Hid (L = pf ++ Pl.esc E nm 0 ++ [t]) := ⟨_, rfl⟩
          have HO8 : Hid (w8.ownsRow w4.heap.size 5 1 (.slice a8 (m7 + 1) c8) (m7 + 1) (vs L8)) := by
            rw [HL8.out, List.append_assoc]; exact hown8
          have hb8 : Below w4.heap.size w4 w8 := HB7.out.trans (hg8.alloc.below hz8 (fun k h => (HO7.out.lt k h).1))
          have HB8 := hid_of hb8
          have hz9 := hb8.size
          clear hown8 hg8 hb8 HO7 HB7 hz8 HONE
          have q2 := Q2.out.agree (fun b hb _ => HB8.out.block b hb) (fun _ h => h)
          have HQ2 := hid_of q2
          clear q2
          have hl2 : rs.length = n2 := HM.out.2.2.symm
          have HL2 := hid_of hl2
          clear hl2
          go_wp2_with (at_builtin; refine wpList_app_bytes rfl _ _ rfl w4.heap.size _ _ L8 _ rs rfl rfl HO8.out HQ2.out ?m1 hz9 ?_)
          case m1 => rw [HL2.out]; omega
          rw [HL2.out]
          intro a9 c9 w9 hown9 hg9
          have hb9 : Below w4.heap.size w4 w9 := HB8.out.trans (hg9.below hz9 (fun k h => (HO8.out.lt k h).1))
          rw [HL8.out] at hown9
          obtain ⟨g, cap, hv9, hgs, hcap, hcl⟩ := own_parts hown9 (by omega)
          have hN9 := own_len hown9
          simp only [Value.slice.injEq] at hv9
          obtain ⟨rfl, -, rfl⟩ := hv9
          have HN9 : Hid (m7 + 1 + n2 = (line E pf nm rs t).length) := hN9
          have HCL : Hid (∀ j, j < m7 + 1 + n2 → w9.cell? ⟨g, j, none⟩ = some (.int .u8 ((line E pf nm rs t)[j]?.getD 0))) := hcl
          have HB9 := hid_of hb9
          have hz10 := hb9.size
          clear hown9 hg9 hb9 hN9 hcl HO8 HB8 hz9 HQ2
          have G91 : Hid (w9.heap[w.heap.size]? = some (.cells ea 31 (0, 0))) := (HB9.out.block _ (by omega)).trans G1.out
          have G92 : Hid (w9.heap[w.heap.size + 1]? = some (.cells da 31 (0, 0))) := (HB9.out.block _ (by omega)).trans G2.out
          go_wp2_with (first
            | (refine wpList_load_row rfl 31 _ rfl w.heap.size (by rfl) 31 ea (0, 0) _ G91.out Try.underlying31 rfl (by rw [HEA.out.size]; exact Try.size31) ?_)
            | (refine wpList_load_row rfl 31 _ rfl (w.heap.size + 1) (by rfl) 31 da (0, 0) _ G92.out Try.underlying31 rfl (by rw [HDA.out.size]; exact Try.size31) ?_))
          refine (zz_any g (m7 + 1 + n2) c9 n0 (line E pf nm rs t) rs nm E D t ea da w9 HEA.out HDA.out HN9.out hcap (by omega) hgs HCL.out
            (fun j hj => (line_byt Q0.out.byt Q1.out.byt Q2.out.byt ht0 ht1).at j (by rw [← HN9.out]; exact hj)) HDT.out.1 HET.out HDT.out.2 HDE.out
            (by rw [HM.out.1]; exact line_rd E pf nm rs t) Q1.out.byt.at).mono ?_
          rintro e w10 ⟨v10, p, rfl, hB10, hdrop, hb10⟩
          have hp : p = m7 := (line_pos hdrop.out).trans HM7.out.symm
          subst hp
          obtain ⟨a10, c10, rfl, -⟩ := id hB10
          have HS10 := hid_of hB10
          have q1 := (Q1.out.agree (fun b hb _ => HB9.out.block b hb) (fun _ h => h) : BytesAt (fun b => b < w4.heap.size) w9 _ _).below hb10
          have HQ1 := hid_of q1
          have HB10 : Hid (Below w.heap.size w w10) := HB4.out.trans ((HB9.out.mono (by omega)).trans (hb10.mono (by omega)))
          clear hB10 hdrop hb10 q1 HCL HN9 G91 G92 HB9 HB4 HL8 HL2 HL0 G1 G2 Q0 Q1 Q2 HDE HET HDT
          go_wp2_with fail
          refine (sameBytes_any _ _ nm nm w10 HS10.out HQ1.out).mono ?_
          rintro e w11 ⟨rfl, q, rfl⟩
          rw [show eqB nm nm = true from eqB_all rfl fun _ _ => rfl]
          go_wp2
          go_ret
          exact ⟨rfl, below_drewN HB10.out _⟩
end Go.Proofs.Qxb6603471a
