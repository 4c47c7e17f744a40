/-
  nameBytes, walked.
-/
import Derived.Test.Qxb6603471aRead
import Derived.Deep.RegionLaw
import Derived.Deep.RegionHeld3
import Derived.Deep.DrawnRows
import Derived.Deep.DeepCutAuto
import Derived.BigRegion
namespace Go.Proofs.Qxb6603471a
open Go.RowKit
attribute [local go_sem ↓] Go.wp_at_zero Go.wp_at_succ

theorem slice_forms {w : World} {base size n : Nat} {e : TypeId} {v : Value} {xs : List Value} (h : w.ownsRow base e size v n xs) : ∃ a c, v = .slice a n c := by
  rcases h.2 with ⟨h0, h1⟩ | ⟨g, cap, _, hv, _⟩
  · exact ⟨none, 0, by rw [h0, h1]⟩
  · exact ⟨_, cap, hv⟩

/-- The cells of a piece of the input. -/
theorem news_piece {wr : World} {g N p n : Nat} {l : List Int} (hl : ∀ j, j < N → wr.cell? ⟨g, j, none⟩ = some (.int .u8 (l[j]?.getD 0))) (hpn : p + n ≤ N) (hN : N ≤ l.length) :
    ∀ j u, (vs (Pl.piece l p n))[j]? = some u → wr.cell? ((⟨g, p, none⟩ : Addr).add j) = some u := by
  intro j u hj
  have hlen : (Pl.piece l p n).length = n := Pl.piece_len (by omega)
  have hjn : j < n := by
    rcases Nat.lt_or_ge j n with h | h
    · exact h
    · rw [List.getElem?_eq_none (by simp [vs, hlen]; exact h)] at hj; cases hj
  have hadd : (⟨g, p, none⟩ : Addr).add j = ⟨g, p + j, none⟩ := by unfold Addr.add; split <;> simp_all
  rw [hadd, hl (p + j) (by omega), ← Pl.piece_at hjn]
  have hj2 : j < (Pl.piece l p n).length := by omega
  simp [vs, hj2] at hj
  simp [hj2, hj]

theorem wrap_small (q : Int) (h0 : 0 ≤ q) (h1 : q ≤ 1000000000) : IntKind.i64.wrap q = q := by
  rw [IntKind.wrap_i64]; omega

theorem news_one {W : World} {n : Nat} {d : Int} (h : W.cell? ⟨n, 0, none⟩ = some (.int .u8 d)) : ∀ j u, (vs [d])[j]? = some u → W.cell? ((⟨n, 0, none⟩ : Addr).add j) = some u := by
  intro j u hj
  match j, hj with
  | 0, hj => simp [vs] at hj; subst hj; simpa [Addr.add] using h

theorem hown_len {w1 : World} {B m i : Nat} {v : Value} {xs ys : List Int} (hx : xs.length = m) (hy : ys.length = i) (h : w1.ownsRow B 5 1 v (m + i) (vs (xs ++ ys))) : w1.ownsRow B 5 1 v (xs ++ ys).length (vs (xs ++ ys)) := by
  rw [List.length_append, hx, hy]; exact h

/-- append, as one step of a region that draws its order: onto a row of one's own, whatever is appended (nothing, too). -/
theorem step_append_at {P : Program} (w : World) {ops : Array Oper} {o : Oper} {a : Act} {K : Act → World → Prop} {Q : Exit → Act → World → Prop} {F : Prop} (hgd : o.guard = none) (s x : Operand) (t : TypeId)
    (ho : o.op = .call { callee := .builtin .append, args := #[s, x], argTypes := #[t, t] })
    (base : Nat) (e : TypeId) (i : TypeInfo) (z : Value) (size bytes : Nat) (hu : P.underlying t = some (.slice e)) (hi : P.info? e = some i) (hz : i.zero = some z)
    (hsize : i.size = size) (hby : i.bytes = bytes) (hzs : z.cells.size = size) (hsz : 0 < size)
    (v : Value) (n : Nat) (xs : List Value) (hs : a.eval s = v) (hown : w.ownsRow base e size v n xs)
    (ad : Addr) (m c : Nat) (news : List Value) (hx : a.eval x = .slice (some ad) m c) (hl : news.length = m * size) (hnews : ∀ j u, news[j]? = some u → w.cell? (ad.add j) = some u) (h1 : ∀ u ∈ news, u.oneCell' = true)
    (h63 : n + m ≤ maxLen) (hbytes : (n + m) * bytes ≤ 140737488355328) (hbase : base ≤ w.heap.size)
    (h : ∀ a' c' w', w'.ownsRow base e size (.slice a' (n + m) c') (n + m) (xs ++ news) → w.grownBy w' v.ownBlock → ((Value.slice a' (n + m) c').ownBlock = v.ownBlock ∨ (Value.slice a' (n + m) c').ownBlock = some w.heap.size) → K (a.put o.dst (.slice a' (n + m) c')) w') :
    if Region.wanted o (yielded ops a.tmps) = true then Oper.wp P o a w K Q else F := by
  have hw : Region.wanted o (yielded ops a.tmps) = true := by simp [Region.wanted, hgd]
  rw [if_pos hw]
  obtain ⟨v', w', hr, h2, h3, _, h5⟩ := run_append_own_at (P := P) w base t o.type e i z size bytes hu hi hz hsize hby hzs hsz v n xs hown ad m c news hl hnews h1 h63 hbytes hbase
  obtain ⟨a', c', rfl⟩ := slice_forms h2
  unfold Oper.wp execOp
  simp only [ho, resolve, invoke, builtin, Sem.run_bind, Sem.run_pure, Result.andThen_ok, List.map_toArray, List.map_cons, List.map_nil, hs, hx, hr]
  exact h a' c' w' h2 h3 h5

/-- .. at this program's []byte. -/
theorem step_app (w : World) {ops : Array Oper} {o : Oper} {a : Act} {K : Act → World → Prop} {Q : Exit → Act → World → Prop} {F : Prop} (hgd : o.guard = none) (s x : Operand)
    (ho : o.op = .call { callee := .builtin .append, args := #[s, x], argTypes := #[22, 22] })
    (B : Nat) (v : Value) (n : Nat) (xs : List Int) (hs : a.eval s = v) (ad : Addr) (m c : Nat) (ys : List Int) (hx : a.eval x = .slice (some ad) m c)
    (hown : w.ownsRow B 5 1 v n (vs xs)) (hm : m = ys.length) (hnews : ∀ j u, (vs ys)[j]? = some u → w.cell? (ad.add j) = some u) (hbound : n + ys.length ≤ 1000000000) (hbase : B ≤ w.heap.size)
    (h : ∀ a' c' w', w'.ownsRow B 5 1 (.slice a' (n + ys.length) c') (n + ys.length) (vs (xs ++ ys)) → Grow w v w' (.slice a' (n + ys.length) c') → K (a.put o.dst (.slice a' (n + ys.length) c')) w') :
    if Region.wanted o (yielded ops a.tmps) = true then Oper.wp Try.prog o a w K Q else F := by
  obtain ⟨i0, hi, hz0, hz1, hz2⟩ := info_parts Try.info5
  subst hm
  refine step_append_at w hgd s x 22 ho B 5 i0 (.int .u8 0) 1 1 Try.underlying22 hi hz0 hz1 hz2 rfl (by decide) v n (vs xs) hs hown ad ys.length c (vs ys) hx (by simp [vs]) hnews ?_ (by unfold maxLen; omega) (by omega) hbase ?_
  · intro u hu
    obtain ⟨z, _, rfl⟩ := List.mem_map.1 hu
    rfl
  · intro a' c' w' h1 h2 h3
    rw [← vs_append] at h1
    exact h a' c' w' h1 ⟨h2, h3.elim .inl (fun e => .inr ⟨_, Nat.le_refl _, e⟩)⟩

set_option maxRecDepth 100000 in
set_option maxHeartbeats 40000000 in
theorem name_any (rb eb db g N cap start : Nat) (l rest name : List Int) (E D : Int → Bool) (term : Int) (w : World)
    (h0 : w.cell? ⟨rb, 0, none⟩ = some (.slice (some ⟨g, 0, none⟩) N cap)) (h1 : w.cell? ⟨rb, 1, none⟩ = some (.int .i64 start)) (h3 : w.cell? ⟨rb, 3, none⟩ = some (.slice none 0 0))
    (f1 : w.frozen? ⟨rb, 1, none⟩ = false) (f3 : w.frozen? ⟨rb, 3, none⟩ = false) (hN : N = l.length) (hNc : N ≤ cap) (hbig : N ≤ 50000000)
    (hl : ∀ j, j < N → w.cell? ⟨g, j, none⟩ = some (.int .u8 (l[j]?.getD 0))) (hr : ∀ j, j < N → 0 ≤ l[j]?.getD 0 ∧ l[j]?.getD 0 ≤ 255)
    (hE : SetAt w eb E) (hD : SetAt w db D) (ne1 : eb ≠ rb) (ne2 : db ≠ rb) (ne3 : g ≠ rb)
    (ht : term ≠ 92) (hEt : E term = true) (hDt : D term = true) (hDE : ∀ c, 0 ≤ c → c ≤ 255 → c ≠ 92 → E c = false → D c = false)
    (hrd : Pl.Rd E term rest name [] (l.drop start)) (hnm : ∀ j, j < name.length → 0 ≤ name[j]?.getD 0 ∧ name[j]?.getD 0 ≤ 255) :
    Calls Try.prog 43 #[.pointer (some ⟨rb, 0, none⟩), .pointer (some ⟨eb, 0, none⟩), .pointer (some ⟨db, 0, none⟩)] w fun e w' =>
      ∃ (v : Value) (p : Nat), e = .returned (.tuple #[v, .int .u8 term]) ∧ BytesAt (fun _ => True) w' v name ∧ w'.cell? ⟨rb, 1, none⟩ = some (.int .i64 p) ∧ Hid (l.drop p = term :: rest) ∧ w'.os = w.os ∧ w'.tape = w.tape ∧ w'.output = w.output ∧ w.heap.size ≤ w'.heap.size ∧ (∀ b, b < w.heap.size → b ≠ rb → w'.heap[b]? = w.heap[b]?) := by
  have hst := st_start h0 h1 h3 f1 f3
  have HST : Hid (St w rb (.slice (some ⟨g, 0, none⟩) N cap) start (.slice none 0 0) [] (w.setCell ⟨rb, 3, none⟩ (.slice none 0 0))) := hst
  have HL : Hid (∀ j, j < N → w.cell? ⟨g, j, none⟩ = some (.int .u8 (l[j]?.getD 0))) := hl
  have HRN : Hid (∀ j, j < N → 0 ≤ l[j]?.getD 0 ∧ l[j]?.getD 0 ≤ 255) := hr
  have HE : Hid (SetAt w eb E) := hE
  have HD : Hid (SetAt w db D) := hD
  have HNE : Hid (eb ≠ rb ∧ db ≠ rb ∧ g ≠ rb) := ⟨ne1, ne2, ne3⟩
  have HT : Hid (term ≠ 92 ∧ E term = true ∧ D term = true ∧ ∀ c, 0 ≤ c → c ≤ 255 → c ≠ 92 → E c = false → D c = false) := ⟨ht, hEt, hDt, hDE⟩
  have HRD : Hid (Pl.Rd E term rest name [] (l.drop start)) := hrd
  have HN : Hid (N = l.length) := hN
  have HNM : Hid (∀ j, j < name.length → 0 ≤ name[j]?.getD 0 ∧ name[j]?.getD 0 ≤ 255) := hnm
  have hstart : start ≤ N := by
    obtain ⟨todo, hI, _⟩ := hrd
    have := congrArg List.length hI
    simp at this
    omega
  clear hnm hst hl hr hE hD ne1 ne2 ne3 ht hEt hDt hDE hrd hN
  go_enter Try.func43, Try.ntmps43
  go_wp2
  clear h0 h1 h3 f1 f3
  go_loopw [9] (fun es wr => ∃ (p : Nat) (tv : Value) (xs : List Int) (eb : Bool), es = .bool eb ∧ start ≤ p ∧ p ≤ N ∧ Hid (St w rb (.slice (some ⟨g, 0, none⟩) N cap) p tv xs wr ∧ (eb = false → tv = .slice none 0 0 ∧ xs = []) ∧ xs.length ≤ p ∧ Pl.Rd E term rest name (if eb then xs else Pl.piece l start (p - start)) (l.drop p))) (fun _ wr => N - posOf wr rb)
  case atStart => exact ⟨start, _, [], false, rfl, Nat.le_refl _, hstart, HST.out, fun _ => ⟨rfl, rfl⟩, Nat.zero_le _, by simpa [Pl.piece] using HRD.out⟩
  case round =>
    obtain ⟨p, tv, xs, es, rfl, hsp, hpN, HI⟩ := hrel
    obtain ⟨c0, c1, c3, f1, f3, -, -, -, -, -, -, -⟩ := HI.out.1
    rcases Pl.rd_shape HT.out.1 HT.out.2.1 HI.out.2.2.2 with ⟨hI, hR⟩ | ⟨c, I', hc, hEc, hI, hRd⟩ | ⟨n, d, I2, hn1, hd, hI, hF, hEv, hOd⟩
    · as_aux_lemma =>
      -- the end
      obtain ⟨e1, e2, -⟩ := Pl.at_one hI
      have hlt : p < N := by rw [HN.out]; exact e2
      have g1 := HI.out.1.cell (a := ⟨g, p, none⟩) HNE.out.2.2 (HL.out p hlt)
      rw [e1] at g1
      have hr0 := (HRN.out p hlt).1
      have hr1 := (HRN.out p hlt).2
      rw [e1] at hr0 hr1
      have g2 := HI.out.1.cell (a := ⟨db, term.toNat, none⟩) HNE.out.2.1 (HD.out term hr0 hr1)
      rw [HT.out.2.2.1] at g2
      have ht' : (term == 92) = false := by simpa using HT.out.1
      have HRR : Hid ((if es then xs else Pl.piece l start (p - start)) = name) := hR
      have HII : Hid (l.drop p = term :: rest) := hI
      clear hI hR e1 e2
      have i1 : (p : Int) < (N : Int) := by omega
      have i2 : (0 : Int) ≤ (p : Int) := by omega
      go_wp2
      go_quiet (fail)
      go_wp2
      go_quiet (fail)
      go_wp2_with fail
      refine (read_any (R := name) es (HI.out.1.drewN _) hsp hlt hNc HN.out hbig HI.out.2.2.1 (fun j hj => HI.out.1.cell (a := ⟨g, j, none⟩) HNE.out.2.2 (HL.out j hj)) HRR.out HNM.out).mono ?_
      rintro e w2 ⟨a, m, c', rfl, hB, q, rfl⟩
      have HB : Hid (BytesAt (fun _ => True) _ (.slice a m c') name) := hB
      clear hB
      go_wp2
      go_ret2
      exact ⟨_, p, rfl, HB.out, c1, HII.out, HI.out.1.os, HI.out.1.tape, HI.out.1.output, HI.out.1.size, HI.out.1.old⟩
    · as_aux_lemma =>
      -- a byte that stands for itself
      obtain ⟨e1, e2, e3⟩ := Pl.at_one hI
      have hlt : p < N := by rw [HN.out]; exact e2
      have g1 := HI.out.1.cell (a := ⟨g, p, none⟩) HNE.out.2.2 (HL.out p hlt)
      rw [e1] at g1
      have hr0 := (HRN.out p hlt).1
      have hr1 := (HRN.out p hlt).2
      rw [e1] at hr0 hr1
      have g2 := HI.out.1.cell (a := ⟨db, c.toNat, none⟩) HNE.out.2.1 (HD.out c hr0 hr1)
      rw [HT.out.2.2.2 c hr0 hr1 hc hEc] at g2
      have hc' : (c == 92) = false := by simpa using hc
      have HPS : Hid (Pl.piece l start (p + 1 - start) = Pl.piece l start (p - start) ++ [c]) := by rw [← e1]; exact Pl.piece_succ hsp e2
      have HRd : Hid (Pl.Rd E term rest name ((if es then xs else Pl.piece l start (p - start)) ++ [c]) (l.drop (p + 1))) := by rw [e3]; exact hRd
      clear hI e1 e2 e3 hRd hc hEc
      have i1 : (p : Int) < (N : Int) := by omega
      have i2 : (0 : Int) ≤ (p : Int) := by omega
      cases es with
      | false => as_aux_lemma =>
        have HQ : Hid (tv = .slice none 0 0 ∧ xs = []) := HI.out.2.1 rfl
        have HM : Hid (posOf wr rb = p) := posOf_eq c1
        go_wp2
        go_quiet (fail)
        go_wp2
        go_quiet (fail)
        go_wp2
        go_roundw
        case rel =>
          refine ⟨p + 1, tv, xs, false, rfl, by omega, by omega, ?_, fun _ => HQ.out, by have := HI.out.2.2.1; omega, ?_⟩
          · exact (HI.out.1.drewN _).pos (p + 1) (by omega)
          · simp only [Bool.false_eq_true, if_false]; rw [HPS.out]; exact HRd.out
        case measure =>
          rw [posOf_eq ((HI.out.1.drewN _).pos (p + 1) (by omega)).c1, HM.out]; omega
      | true => as_aux_lemma =>
        have HM : Hid (posOf wr rb = p) := posOf_eq c1
        have hown := HI.out.1.own
        have hsz := HI.out.1.size
        have hxp := HI.out.2.2.1
        obtain ⟨a0, c0', hv⟩ := slice_forms hown
        subst hv
        obtain ⟨i0, hi, hz0, hz1, hz2⟩ := info_parts Try.info5
        have HO : Hid (wr.ownsRow w.heap.size 5 1 (.slice a0 xs.length c0') xs.length (vs xs)) := hown
        have HX : Hid (xs.length ≤ p) := hxp
        clear hown
        generalize hxl : xs.length = m at *
        go_wp2
        go_quiet (fail)
        go_wp2
        go_quiet (fail)
        go_wp2_with (at_builtin; refine wpList_append_own_at _ rfl _ _ 22 rfl w.heap.size 5 i0 (.int .u8 0) 1 1 Try.underlying22 hi hz0 hz1 hz2 rfl (by decide) _ _ (vs xs) rfl (by exact HO.out.alloc _) ⟨wr.heap.size, 0, none⟩ 1 1 [.int .u8 c] rfl rfl ?c1 ?c2 ?c3 ?c4 ?c5 ?_)
        case c1 => exact cell_one_new _ _ _
        case c2 => intro u hu; simp at hu; subst hu; rfl
        case c3 => unfold maxLen; omega
        case c4 => omega
        case c5 => simp; omega
        · intro v' w1 hown' hgrow _ hat
          have hown2 : w1.ownsRow w.heap.size 5 1 v' (xs ++ [c]).length (vs (xs ++ [c])) := by rw [vs_append, List.length_append, hxl]; exact hown'
          obtain ⟨a1, c1', hv1⟩ := slice_forms hown'
          subst hv1
          have hT := (HI.out.1.drewN _).text (grow_app hgrow hat) hown2
          have HT1 : Hid (St w rb (.slice (some ⟨g, 0, none⟩) N cap) p (.slice a1 (m + 1) c1') (xs ++ [c]) (w1.setCell ⟨rb, 3, none⟩ (.slice a1 (m + 1) c1'))) := hT.1
          obtain ⟨-, d0, d1, d3, g3, g1'⟩ := hT
          clear hown' hgrow hat hown2 c0 c1 c3 f1 f3 g1 g2 HO
          have HXL : Hid (xs.length = m) := hxl
          clear hxl
          go_wp2
          go_roundw
          case rel =>
            refine ⟨p + 1, .slice a1 (m + 1) c1', xs ++ [c], true, rfl, by omega, by omega, HT1.out.pos (p + 1) (by omega), (fun h => by cases h), ?_, ?_⟩
            · have := HX.out; have := HXL.out; rw [List.length_append]; simp; omega
            · simpa using HRd.out
          case measure => rw [posOf_eq (HT1.out.pos (p + 1) (by omega)).c1, HM.out]; omega
    · -- a run of backslashes
      obtain ⟨e1, e2, e3, e4, e5⟩ := Pl.at_run hI
      have hlt : p + n < N := by rw [HN.out]; exact e3
      have g0 := HI.out.1.cell (a := ⟨g, p, none⟩) HNE.out.2.2 (HL.out p (by omega))
      have e10 := e1 0 (by omega)
      rw [Nat.add_zero] at e10
      rw [e10] at g0
      have hr0 := (HRN.out (p + n) hlt).1
      have hr1 := (HRN.out (p + n) hlt).2
      rw [e2] at hr0 hr1
      have hd' : (d == 92) = false := by simpa using hd
      have HRUN : Hid (∀ i, i < n → l[p + i]?.getD 0 = 92) := e1
      have HDD : Hid (l[p + n]?.getD 0 = d) := e2
      have HPC : Hid (∀ j, j ≤ n → Pl.piece l p j = Pl.bs j) := fun j hj => Pl.piece_run hI hj
      have HF : Hid (E d = false → Pl.Rd E term rest name ((if es then xs else Pl.piece l start (p - start)) ++ Pl.bs n) (l.drop (p + n))) := by rw [e4]; exact hF
      have HEV : Hid (E d = true → n % 2 = 0 → Pl.Rd E term rest name ((if es then xs else Pl.piece l start (p - start)) ++ Pl.bs (n / 2)) (l.drop (p + n))) := by rw [e4]; exact hEv
      have HOD : Hid (E d = true → n % 2 = 1 → Pl.Rd E term rest name ((if es then xs else Pl.piece l start (p - start)) ++ Pl.bs (n / 2) ++ [d]) (l.drop (p + n + 1))) := by rw [e5]; exact hOd
      have HXP : Hid (xs.length ≤ p) := HI.out.2.2.1
      have HM : Hid (posOf wr rb = p) := posOf_eq c1
      have HST1 : Hid (St w rb (.slice (some ⟨g, 0, none⟩) N cap) p tv xs wr ∧ (es = false → tv = .slice none 0 0 ∧ xs = [])) := ⟨HI.out.1, HI.out.2.1⟩
      clear hI e1 e2 e3 e4 e5 hF hEv hOd hd HI e10
      have i1 : (p : Int) < (N : Int) := by omega
      have i2 : (0 : Int) ≤ (p : Int) := by omega
      go_wp2
      go_quiet (fail)
      go_wp2
      go_quiet (fail)
      go_wp2
      clear c0 c1 c3 f1 f3 g0 i1 i2
      go_loopw [] (fun wi => ∃ i : Nat, i ≤ n ∧ Hid (St w rb (.slice (some ⟨g, 0, none⟩) N cap) (p + i) tv xs wi)) (fun wi => N - posOf wi rb)
      case atStart => exact ⟨0, Nat.zero_le _, HST1.out.1.drewN _⟩
      case round =>
        obtain ⟨i, hin, HS⟩ := hrel
        rename World => wi
        obtain ⟨c0, c1, c3, f1, f3, -, -, -, -, -, -, -⟩ := HS.out
        have hpi : p + i < N := by omega
        have gi := HS.out.cell (a := ⟨g, p + i, none⟩) HNE.out.2.2 (HL.out (p + i) hpi)
        have i1 : ((p : Int) + (i : Int)) < (N : Int) := by omega
        have i2 : (0 : Int) ≤ (p : Int) + (i : Int) := by omega
        by_cases hlt2 : i < n
        · as_aux_lemma =>
          rw [HRUN.out i hlt2] at gi
          have HMI : Hid (posOf wi rb = p + i) := posOf_eq c1
          have i3 : decide ((p : Int) + (i : Int) < (N : Int)) = true := by simpa using i1
          go_wp2
          go_quiet (fail)
          go_wp2
          go_roundw
          case rel => exact ⟨i + 1, by omega, (HS.out.drewN _).pos (p + (i + 1)) (by omega)⟩
          case measure => rw [posOf_eq ((HS.out.drewN _).pos (p + (i + 1)) (by omega)).c1, HMI.out]; omega
        · have hie : i = n := by omega
          subst hie
          rw [HDD.out] at gi
          have ge := HS.out.cell (a := ⟨eb, d.toNat, none⟩) HNE.out.1 (HE.out d hr0 hr1)
          have i3 : decide ((p : Int) + (i : Int) < (N : Int)) = true := by simpa using i1
          have i4 : (((p : Int) + (i : Int)) == (N : Int)) = false := by rw [beq_eq_false_iff_ne]; omega
          by_cases hEd : E d = true
          · have HEV2 : Hid (i % 2 = 0 → Pl.Rd E term rest name ((if es then xs else Pl.piece l start (p - start)) ++ Pl.bs (i / 2)) (l.drop (p + i))) := HEV.out hEd
            have HOD2 : Hid (i % 2 = 1 → Pl.Rd E term rest name ((if es then xs else Pl.piece l start (p - start)) ++ Pl.bs (i / 2) ++ [d]) (l.drop (p + i + 1))) := HOD.out hEd
            rw [hEd] at ge
            clear hEd HF HEV HOD
            have hsz := HS.out.size
            generalize hR : (if es then xs else Pl.piece l start (p - start)) = R at HEV2 HOD2
            have HR : Hid ((if es then xs else Pl.piece l start (p - start)) = R) := hR
            clear hR
            have j1 : (start : Int) ≤ (p : Int) := by omega
            have j2 : (p : Int) ≤ (cap : Int) := by omega
            have j3 : (0 : Int) ≤ (start : Int) := by omega
            have j4 : ¬ cap = start := by omega
            go_wp2
            go_quiet (fail)
            go_wp2
            go_quiet (fail)
            go_upto_if 129 with (fail)
            go_cut [9] (fun s wc => s = .bool true ∧ ∃ (a0 : Option Addr) (m c0' : Nat) (ys : List Int), Hid (St w rb (.slice (some ⟨g, 0, none⟩) N cap) (p + i) (.slice a0 m c0') ys wc ∧ ys.length = m ∧ ys = R ∧ m ≤ p))
            case first =>
              cases es with
              | true => as_aux_lemma =>
                obtain ⟨a0, c0', hv⟩ := slice_forms HS.out.own
                subst hv
                have HF : Hid (xs = R) := by show xs = R; simpa using HR.out
                go_wp2
                go_meet
                case rel => exact ⟨rfl, a0, xs.length, c0', xs, HS.out.drewN _, rfl, HF.out, HXP.out⟩
              | false =>
                have hq := HST1.out.2 rfl
                obtain ⟨hq1, hq2⟩ := hq
                subst hq1
                subst hq2
                have HO : Hid (wi.ownsRow w.heap.size 5 1 (.slice none 0 0) 0 (vs [])) := HS.out.own
                have HF : Hid (Pl.piece l start (p - start) = R) := by show _ = R; simpa using HR.out
                have HLEN : Hid (R.length = p - start) := by
                  show R.length = p - start
                  rw [← HF.out]; exact Pl.piece_len (by rw [← HN.out]; omega)
                have HNW : Hid (∀ j u, (vs R)[j]? = some u → wi.cell? ((⟨g, start, none⟩ : Addr).add j) = some u) := by
                  rw [← HF.out]
                  exact news_piece (fun j hj => HS.out.cell (a := ⟨g, j, none⟩) HNE.out.2.2 (HL.out j hj)) (by omega) (by rw [← HN.out]; exact Nat.le_refl _)
                go_wp2
                go_region_law ((refine step_app _ (by rfl) _ _ (by rfl) w.heap.size (.slice none 0 0) 0 [] (by rfl) ⟨g, start, none⟩ _ _ R (by rfl) ?h1 ?h2 ?h3 ?h4 ?h5 ?_; (case h1 => exact HO.out); (case h2 => exact HLEN.out.symm); (case h3 => exact HNW.out); (case h4 => (rw [HLEN.out]; omega)); (case h5 => exact hsz); simp only [Nat.zero_add, List.nil_append]; intro a1 c1' w1 hown1 hgrow1; have hT := (HS.out.drewN _).text (ys := R) hgrow1 hown1; have HT1 : Hid (St w rb (.slice (some ⟨g, 0, none⟩) N cap) (p + i) (.slice a1 R.length c1') R (w1.setCell ⟨rb, 3, none⟩ (.slice a1 R.length c1'))) := hT.1; obtain ⟨-, d0, d1, d3, g3, g1'⟩ := hT; clear hown1 hgrow1))
                all_goals as_aux_lemma =>
                  go_wp2
                  go_meet
                  case rel => exact ⟨rfl, a1, _, c1', R, HT1.out, rfl, rfl, by have := HLEN.out; omega⟩
            case rest =>
              obtain ⟨rfl, a0, m, c0', ys, HC⟩ := hcut
              have HXL : Hid (ys.length = m) := HC.out.2.1
              have HYR : Hid (ys = R) := HC.out.2.2.1
              have hmp := HC.out.2.2.2
              have HS2 : Hid (St w rb (.slice (some ⟨g, 0, none⟩) N cap) (p + i) (.slice a0 m c0') ys wc) := HC.out.1
              have hsz2 := HS2.out.size
              obtain ⟨c0, c1, c3, f1, f3, -, -, -, -, -, -, -⟩ := HS2.out
              have HO : Hid (wc.ownsRow w.heap.size 5 1 (.slice a0 m c0') m (vs ys)) := by have := HS2.out.own; rw [HXL.out] at this; exact this
              clear HC j1 j2 j3 j4 i1 i2 i3 i4 gi ge
              have k1 : (p : Int) + (i : Int) - (p : Int) = (i : Int) := by omega
              obtain ⟨h2, hh2⟩ : ∃ h2 : Nat, i / 2 = h2 := ⟨_, rfl⟩
              have HH : Hid (i / 2 = h2) := hh2
              have hh3 : h2 ≤ i := by omega
              have kd : (i : Int) / 2 = (h2 : Int) := by omega
              clear hh2
              have HNW : Hid (∀ j u, (vs (Pl.bs h2))[j]? = some u → wc.cell? ((⟨g, p, none⟩ : Addr).add j) = some u) := by
                rw [← HPC.out h2 hh3]
                exact news_piece (fun j hj => HS2.out.cell (a := ⟨g, j, none⟩) HNE.out.2.2 (HL.out j hj)) (by omega) (by rw [← HN.out]; exact Nat.le_refl _)
              go_wp2
              clear k1
              have k2 : (0 : Int) ≤ (p : Int) + (h2 : Int) := by omega
              have k3 : (p : Int) + (h2 : Int) ≤ (cap : Int) := by omega
              have k4 : (p : Int) ≤ (p : Int) + (h2 : Int) := by omega
              have k5 : (0 : Int) ≤ (p : Int) := by omega
              have k6 : ¬ cap = p := by omega
              have k7 : IntKind.i64.wrap (h2 : Int) = (h2 : Int) := wrap_small _ (by omega) (by omega)
              have k8 : IntKind.i64.wrap ((p : Int) + (h2 : Int)) = (p : Int) + (h2 : Int) := wrap_small _ (by omega) (by omega)
              go_cut [] (fun wd => ∃ (a1 : Option Addr) (c1' : Nat), Hid (St w rb (.slice (some ⟨g, 0, none⟩) N cap) (p + i) (.slice a1 (m + h2) c1') (ys ++ Pl.bs h2) wd))
              case first =>
                go_region_law ((refine step_app _ (by rfl) _ _ (by rfl) w.heap.size (.slice a0 m c0') m ys (by rfl) ⟨g, p, none⟩ _ _ (Pl.bs h2) (by rfl) ?h1 ?h2 ?h3 ?h4 ?h5 ?_; (case h1 => exact HO.out); (case h2 => (rw [Pl.bs_len]; omega)); (case h3 => exact HNW.out); (case h4 => (rw [Pl.bs_len]; omega)); (case h5 => exact hsz2); rw [Pl.bs_len]; intro a1 c1' w1 hown1 hgrow1; have hown2 : w1.ownsRow w.heap.size 5 1 (.slice a1 (m + h2) c1') (ys ++ Pl.bs h2).length (vs (ys ++ Pl.bs h2)) := hown_len HXL.out (Pl.bs_len _) hown1; have hT := (HS2.out.drewN 1).text hgrow1 hown2; have HT1 : Hid (St w rb (.slice (some ⟨g, 0, none⟩) N cap) (p + i) (.slice a1 (m + h2) c1') (ys ++ Pl.bs h2) (w1.setCell ⟨rb, 3, none⟩ (.slice a1 (m + h2) c1'))) := hT.1; obtain ⟨-, d0, d1, d3, g3, g1'⟩ := hT; clear hown1 hown2 hgrow1))
                all_goals as_aux_lemma =>
                  go_wp2
                  go_meet
                  case rel => exact ⟨a1, c1', HT1.out⟩
              case rest =>
                obtain ⟨a1, c1', HC2⟩ := hcut
                rename World => wd
                have hsz3 := HC2.out.size
                obtain ⟨c0, c1, c3, f1, f3, -, -, -, -, -, -, -⟩ := HC2.out
                have HL2 : Hid ((ys ++ Pl.bs h2).length = m + h2) := by show _ = _; rw [List.length_append, Pl.bs_len, HXL.out]
                have HRB : Hid (ys ++ Pl.bs h2 = R ++ Pl.bs (i / 2)) := by show _ = _; rw [HYR.out, HH.out]
                clear k2 k3 k4 k5 k6 k7 k8 HNW HO
                by_cases hpar : i % 2 = 1
                · have kb : ((i : Int) % 2 == 1) = true := by rw [beq_iff_eq]; omega
                  have gd := HC2.out.cell (a := ⟨g, p + i, none⟩) HNE.out.2.2 (HL.out (p + i) hpi)
                  rw [HDD.out] at gd
                  have HO3 : Hid (wd.ownsRow w.heap.size 5 1 (.slice a1 (m + h2) c1') (m + h2) (vs (ys ++ Pl.bs h2))) := by have := HC2.out.own; rw [HL2.out] at this; exact this
                  have HOD3 : Hid (Pl.Rd E term rest name ((ys ++ Pl.bs h2) ++ [d]) (l.drop (p + i + 1))) := by rw [HRB.out]; exact HOD2.out hpar
                  have i1 : ((p : Int) + (i : Int)) < (N : Int) := by omega
                  have i2 : (0 : Int) ≤ (p : Int) + (i : Int) := by omega
                  have gd2 : wd.cell? ⟨g, ((p : Int) + (i : Int)).toNat, none⟩ = some (.int .u8 d) := by
                    rw [show ((p : Int) + (i : Int)).toNat = p + i from by omega]; exact gd
                  have hm2 : m + h2 ≤ p + i := by omega
                  have c3a : (wd.alloc (.cells #[.int .u8 d] 5)).cell? ⟨rb, 3, none⟩ = some (.slice a1 (m + h2) c1') := keep ((Below.refl _ _).alloc (Nat.le_refl _) _) c3
                  generalize m + h2 = m2 at *
                  generalize ys ++ Pl.bs h2 = zs at *
                  go_wp2
                  go_cut [] (fun we => ∃ (a2 : Option Addr) (c2' : Nat), Hid (St w rb (.slice (some ⟨g, 0, none⟩) N cap) (p + i) (.slice a2 (m2 + 1) c2') (zs ++ [d]) we))
                  case first =>
                    go_region_law ((refine step_app _ (by rfl) _ _ (by rfl) w.heap.size (.slice a1 m2 c1') m2 zs (by rfl) ⟨wd.heap.size, 0, none⟩ 1 1 [d] (by rfl) ?h1 ?h2 ?h3 ?h4 ?h5 ?_; (case h1 => exact HO3.out.alloc _); (case h2 => rfl); (case h3 => (refine news_one ?_; simp [go_sem])); (case h4 => (simp; omega)); (case h5 => (simp; omega)); simp only [List.length_cons, List.length_nil, Nat.zero_add]; intro a2 c2' w1 hown1 hgrow1; have hown2 : w1.ownsRow w.heap.size 5 1 (.slice a2 (m2 + 1) c2') (zs ++ [d]).length (vs (zs ++ [d])) := hown_len HL2.out rfl hown1; have hg2 : Grow (wd.drewN 1) (.slice a1 m2 c1') w1 (.slice a2 (m2 + 1) c2') := Grow.alloc (o := .cells #[.int .u8 d] 5) hgrow1; have hT := (HC2.out.drewN 1).text hg2 hown2; have HT1 : Hid (St w rb (.slice (some ⟨g, 0, none⟩) N cap) (p + i) (.slice a2 (m2 + 1) c2') (zs ++ [d]) (w1.setCell ⟨rb, 3, none⟩ (.slice a2 (m2 + 1) c2'))) := hT.1; obtain ⟨-, d0, d1, d3, g3, g1'⟩ := hT; clear hown1 hown2 hgrow1 hg2))
                    all_goals as_aux_lemma =>
                      go_wp2
                      go_meet
                      case rel => exact ⟨a2, c2', HT1.out⟩
                  case rest => as_aux_lemma =>
                    obtain ⟨a2, c2', HC3⟩ := hcut
                    rename World => we
                    clear c0 c1 c3 f1 f3
                    obtain ⟨c0, c1, c3, f1, f3, -, -, -, -, -, -, -⟩ := HC3.out
                    go_wp2
                    go_roundw
                    case rel =>
                      refine ⟨p + i + 1, _, zs ++ [d], true, rfl, by omega, by omega, HC3.out.pos (p + i + 1) (by omega), (fun h => by cases h), ?_, ?_⟩
                      · have := HL2.out; rw [List.length_append]; simp; omega
                      · simpa using HOD3.out
                    case measure => rw [posOf_eq (HC3.out.pos (p + i + 1) (by omega)).c1, HM.out]; omega
                · as_aux_lemma =>
                  have kb : ((i : Int) % 2 == 1) = false := by rw [beq_eq_false_iff_ne]; omega
                  go_wp2
                  go_roundw
                  case rel =>
                    refine ⟨p + i, _, ys ++ Pl.bs h2, true, rfl, by omega, by omega, HC2.out, (fun h => by cases h), by rw [HL2.out]; omega, ?_⟩
                    rw [HRB.out]; simpa using HEV2.out (by omega)
                  case measure => rw [posOf_eq HC2.out.c1, HM.out]; omega
          · have hEd' : E d = false := by simpa using hEd
            have HRd : Hid (Pl.Rd E term rest name ((if es then xs else Pl.piece l start (p - start)) ++ Pl.bs i) (l.drop (p + i))) := HF.out hEd'
            rw [hEd'] at ge
            clear hEd hEd' HF HEV HOD
            cases es with
            | false => as_aux_lemma =>
              have HQ : Hid (tv = .slice none 0 0 ∧ xs = []) := HST1.out.2 rfl
              have HPM : Hid (Pl.piece l start (p + i - start) = Pl.piece l start (p - start) ++ Pl.bs i) := by rw [Pl.piece_more hsp, HPC.out i (Nat.le_refl _)]; rfl
              go_wp2
              go_quiet (fail)
              go_wp2
              go_quiet (fail)
              go_wp2
              go_roundw
              case rel =>
                refine ⟨p + i, tv, xs, false, rfl, by omega, by omega, (HS.out.drewN _).drewN _, (fun _ => HQ.out), by have := HXP.out; omega, ?_⟩
                simp only [Bool.false_eq_true, if_false]; rw [HPM.out]; simpa using HRd.out
              case measure => rw [posOf_eq ((HS.out.drewN _).drewN _).c1, HM.out]; omega
            | true =>
              have hown := HS.out.own
              have hsz := HS.out.size
              obtain ⟨a0, c0', hv⟩ := slice_forms hown
              subst hv
              obtain ⟨i0, hi, hz0, hz1, hz2⟩ := info_parts Try.info5
              have HO : Hid (wi.ownsRow w.heap.size 5 1 (.slice a0 xs.length c0') xs.length (vs xs)) := hown
              clear hown
              generalize hxl : xs.length = m at *
              have HXL : Hid (xs.length = m) := hxl
              have hmp := HXP.out
              clear hxl
              have j1 : (p : Int) ≤ (p : Int) + (i : Int) := by omega
              have j2 : (p : Int) + (i : Int) ≤ (cap : Int) := by omega
              have j3 : (0 : Int) ≤ (p : Int) := by omega
              have j4 : ¬ cap = p := by omega
              have HNW : Hid (∀ j u, (vs (Pl.bs i))[j]? = some u → wi.cell? ((⟨g, p, none⟩ : Addr).add j) = some u) := by
                rw [← HPC.out i (Nat.le_refl _)]
                exact news_piece (fun j hj => HS.out.cell (a := ⟨g, j, none⟩) HNE.out.2.2 (HL.out j hj)) (by omega) (by rw [← HN.out]; exact Nat.le_refl _)
              have HMI : Hid (((p : Int) + (i : Int)).toNat - p = i) := by show _ = _; omega
              go_wp2
              go_quiet (fail)
              go_wp2
              go_quiet (fail)
              go_wp2
              go_region_law ((refine step_app _ (by rfl) _ _ (by rfl) w.heap.size (.slice a0 m c0') m xs (by rfl) ⟨g, p, none⟩ _ _ (Pl.bs i) (by rfl) ?h1 ?h2 ?h3 ?h4 ?h5 ?_; (case h1 => exact HO.out); (case h2 => (rw [Pl.bs_len]; exact HMI.out)); (case h3 => exact HNW.out); (case h4 => (rw [Pl.bs_len]; omega)); (case h5 => exact hsz); rw [Pl.bs_len]; intro a1 c1' w1 hown1 hgrow1; have hown2 : w1.ownsRow w.heap.size 5 1 (.slice a1 (m + i) c1') (xs ++ Pl.bs i).length (vs (xs ++ Pl.bs i)) := hown_len HXL.out (Pl.bs_len i) hown1; have hT := (HS.out.drewN _).text hgrow1 hown2; have HT1 : Hid (St w rb (.slice (some ⟨g, 0, none⟩) N cap) (p + i) (.slice a1 (m + i) c1') (xs ++ Pl.bs i) (w1.setCell ⟨rb, 3, none⟩ (.slice a1 (m + i) c1'))) := hT.1; obtain ⟨-, d0, d1, d3, g3, g1'⟩ := hT; clear hown1 hown2 hgrow1))
              all_goals as_aux_lemma =>
                go_wp2
                go_roundw
                case rel =>
                  refine ⟨p + i, _, xs ++ Pl.bs i, true, rfl, by omega, by omega, HT1.out, (fun h => by cases h), ?_, ?_⟩
                  · have := HXL.out; rw [List.length_append, Pl.bs_len]; omega
                  · simpa using HRd.out
                case measure => rw [posOf_eq HT1.out.c1, HM.out]; omega
end Go.Proofs.Qxb6603471a
