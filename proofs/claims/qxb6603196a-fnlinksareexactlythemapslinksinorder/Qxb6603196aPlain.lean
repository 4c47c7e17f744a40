namespace Go.Proofs.Qxb6603196a.Pl

/-- The sum of the first k values. -/
def sumTo (f : Nat → Nat) : Nat → Nat
  | 0 => 0
  | k + 1 => sumTo f k + f k

theorem sumTo_congr {f g : Nat → Nat} : ∀ n, (∀ k, k < n → f k = g k) → sumTo f n = sumTo g n
  | 0, _ => rfl
  | n + 1, h => by simp only [sumTo]; rw [sumTo_congr n (fun k hk => h k (by omega)), h n (by omega)]

theorem sumTo_add (f g : Nat → Nat) : ∀ n, sumTo (fun k => f k + g k) n = sumTo f n + sumTo g n
  | 0 => rfl
  | n + 1 => by simp only [sumTo]; rw [sumTo_add f g n]; omega

theorem sumTo_zero : ∀ n, sumTo (fun _ => 0) n = 0
  | 0 => rfl
  | n + 1 => by simp only [sumTo]; rw [sumTo_zero n]

theorem sumTo_swap (f : Nat → Nat → Nat) (m : Nat) : ∀ n, sumTo (fun a => sumTo (fun b => f a b) m) n = sumTo (fun b => sumTo (fun a => f a b) n) m
  | 0 => by simp only [sumTo]; rw [sumTo_zero]
  | n + 1 => by
    simp only [sumTo]
    rw [sumTo_swap f m n, ← sumTo_add]

theorem sumTo_le {f g : Nat → Nat} : ∀ n, (∀ k, k < n → f k ≤ g k) → sumTo f n ≤ sumTo g n
  | 0, _ => Nat.le_refl _
  | n + 1, h => by
    simp only [sumTo]
    have := sumTo_le n (fun k hk => h k (by omega))
    have := h n (by omega)
    omega

theorem sumTo_mono (f : Nat → Nat) {m n : Nat} (h : m ≤ n) : sumTo f m ≤ sumTo f n := by
  induction n with
  | zero =>
    have e : m = 0 := by omega
    rw [e]; exact Nat.le_refl _
  | succ n ih =>
    by_cases e : m = n + 1
    · rw [e]; exact Nat.le_refl _
    · have := ih (by omega)
      simp only [sumTo]; omega

/-- One place alone holds c. -/
theorem sumTo_single (x c : Nat) : ∀ n, sumTo (fun k => if k = x then c else 0) n = if x < n then c else 0
  | 0 => by simp [sumTo]
  | n + 1 => by
    simp only [sumTo]
    rw [sumTo_single x c n]
    by_cases h1 : x < n
    · rw [if_pos h1, if_neg (by omega), if_pos (by omega)]; rfl
    · by_cases h2 : n = x
      · rw [if_neg h1, if_pos h2, if_pos (by omega)]; omega
      · rw [if_neg h1, if_neg h2, if_neg (by omega)]

/-- How many of a list without repeats, all in [0, n), meet p. -/
theorem filter_count (p : Int → Bool) (n : Nat) : ∀ l : List Int, l.Pairwise (· < ·) → (∀ b ∈ l, 0 ≤ b ∧ b < (n : Int)) →
    (l.filter p).length = sumTo (fun b => if (b : Int) ∈ l ∧ p (b : Int) = true then 1 else 0) n
  | [], _, _ => by simp; rw [sumTo_zero]
  | x :: l, hs, hb => by
    have hs' := List.pairwise_cons.1 hs
    have ih := filter_count p n l hs'.2 (fun b h => hb b (List.mem_cons_of_mem _ h))
    have hx := hb x List.mem_cons_self
    obtain ⟨y, rfl⟩ := Int.eq_ofNat_of_zero_le hx.1
    have hny : (y : Int) ∉ l := fun h => by have := hs'.1 _ h; omega
    have e : sumTo (fun b => if (b : Int) ∈ (y : Int) :: l ∧ p (b : Int) = true then 1 else 0) n
        = sumTo (fun b => (if (b : Int) ∈ l ∧ p (b : Int) = true then 1 else 0) + (if b = y then (if p (y : Int) = true then 1 else 0) else 0)) n := by
      refine sumTo_congr n fun b _ => ?_
      by_cases e1 : b = y
      · subst e1
        simp [hny]
      · have e2 : ¬ (b : Int) = (y : Int) := by omega
        simp [e1, e2]
    rw [e, sumTo_add, sumTo_single, ← ih, if_pos (by omega), List.filter_cons]
    by_cases hp : p (y : Int) = true
    · rw [if_pos hp, if_pos hp]; simp
    · rw [if_neg hp, if_neg hp]; omega

/-- The documented domain: every list strictly increasing, every entry a node, the map undirected. -/
structure WF (n : Nat) (nb : Nat → List Int) : Prop where
  inc : ∀ a, a < n → (nb a).Pairwise (· < ·)
  bd : ∀ a, a < n → ∀ b ∈ nb a, 0 ≤ b ∧ b < (n : Int)
  sym : ∀ a, a < n → ∀ b ∈ nb a, (a : Int) ∈ nb b.toNat

def up (nb : Nat → List Int) (a : Nat) : List Int := (nb a).filter (fun b => decide ((a : Int) < b))
def down (nb : Nat → List Int) (a : Nat) : List Int := (nb a).filter (fun b => decide (b < (a : Int)))
def off (nb : Nat → List Int) (a : Nat) : List Int := (nb a).filter (fun b => b != (a : Int))

theorem off_len (a : Int) : ∀ l : List Int, (l.filter (fun b => b != a)).length = (l.filter (fun b => decide (a < b))).length + (l.filter (fun b => decide (b < a))).length
  | [] => rfl
  | x :: l => by
    have ih := off_len a l
    simp only [List.filter_cons]
    by_cases h1 : a < x
    · have h2 : ¬ x < a := by omega
      have h3 : x ≠ a := by omega
      simp [h1, h2, h3]; omega
    · by_cases h2 : x < a
      · have h3 : x ≠ a := by omega
        simp [h1, h2, h3]; omega
      · have h3 : x = a := by omega
        subst h3
        simp; omega

theorem up_down {n : Nat} {nb : Nat → List Int} (h : WF n nb) : sumTo (fun a => (up nb a).length) n = sumTo (fun a => (down nb a).length) n := by
  rw [sumTo_congr (f := fun a => (up nb a).length) n (fun a ha => filter_count _ n (nb a) (h.inc a ha) (h.bd a ha)), sumTo_swap,
    sumTo_congr (f := fun a => (down nb a).length) n (fun a ha => filter_count _ n (nb a) (h.inc a ha) (h.bd a ha))]
  refine sumTo_congr n fun b hb => sumTo_congr n fun a ha => ?_
  have e : ((b : Int) ∈ nb a ∧ decide ((a : Int) < (b : Int)) = true) ↔ ((a : Int) ∈ nb b ∧ decide ((a : Int) < (b : Int)) = true) := by
    constructor
    · rintro ⟨h1, h2⟩; exact ⟨by simpa using h.sym a ha _ h1, h2⟩
    · rintro ⟨h1, h2⟩; exact ⟨by simpa using h.sym b hb _ h1, h2⟩
  simp only [e]

/-- THE COUNT: the ends that are not self-links are twice the links. -/
theorem ends_half {n : Nat} {nb : Nat → List Int} (h : WF n nb) : sumTo (fun a => (off nb a).length) n = 2 * sumTo (fun a => (up nb a).length) n := by
  have e := sumTo_congr (f := fun a => (off nb a).length) (g := fun a => (up nb a).length + (down nb a).length) n (fun a _ => off_len (a : Int) (nb a))
  rw [e, sumTo_add, ← up_down h]; omega

/-- The links: by first node, then second. -/
def links (nb : Nat → List Int) : Nat → List (Int × Int)
  | 0 => []
  | k + 1 => links nb k ++ (up nb k).map (fun b => ((k : Int), b))

theorem links_len (nb : Nat → List Int) : ∀ n, (links nb n).length = sumTo (fun a => (up nb a).length) n
  | 0 => rfl
  | n + 1 => by simp only [links, sumTo, List.length_append, List.length_map, links_len nb n]

theorem up_le (nb : Nat → List Int) (a : Nat) : (up nb a).length ≤ (nb a).length := List.length_filter_le _ _
theorem off_le (nb : Nat → List Int) (a : Nat) : (off nb a).length ≤ (nb a).length := List.length_filter_le _ _

theorem links_mem {nb : Nat → List Int} : ∀ {n : Nat} {p : Int × Int}, p ∈ links nb n → ∃ a : Nat, a < n ∧ p.1 = (a : Int) ∧ p.2 ∈ nb a ∧ (a : Int) < p.2
  | 0, p, h => by simp [links] at h
  | n + 1, p, h => by
    rcases List.mem_append.1 h with h | h
    · obtain ⟨a, h1, h2⟩ := links_mem h
      exact ⟨a, by omega, h2⟩
    · obtain ⟨b, hb, rfl⟩ := List.mem_map.1 h
      have := List.mem_filter.1 hb
      exact ⟨n, by omega, rfl, this.1, by simpa using this.2⟩

/-- pairLess. -/
def pless (p q : Int × Int) : Prop := p.1 < q.1 ∨ (p.1 = q.1 ∧ p.2 < q.2)

theorem links_inc {n : Nat} {nb : Nat → List Int} (h : ∀ a, a < n → (nb a).Pairwise (· < ·)) : (links nb n).Pairwise pless := by
  induction n with
  | zero => exact List.Pairwise.nil
  | succ n ih =>
    refine List.pairwise_append.2 ⟨ih fun a ha => h a (by omega), ?_, ?_⟩
    · rw [List.pairwise_map]
      exact List.pairwise_iff_getElem.2 fun i j hi hj hij => Or.inr ⟨rfl, List.pairwise_iff_getElem.1 ((h n (by omega)).filter _) i j hi hj hij⟩
    · intro p hp q hq
      obtain ⟨a, ha, e, _⟩ := links_mem hp
      obtain ⟨b, hb, rfl⟩ := List.mem_map.1 hq
      exact Or.inl (by rw [e]; show (a : Int) < (n : Int); omega)

/-- WHAT THE LAW ASKS OF EACH PAIR of the links. -/
theorem links_at {n : Nat} {nb : Nat → List Int} (h : WF n nb) (i : Nat) (hi : i < (links nb n).length) :
    ∃ a : Nat, a < n ∧ ((links nb n)[i]).1 = (a : Int) ∧ (a : Int) < ((links nb n)[i]).2 ∧ ((links nb n)[i]).2 < (n : Int) ∧ ((links nb n)[i]).2 ∈ nb a := by
  obtain ⟨a, h1, h2, h3, h4⟩ := links_mem (List.getElem_mem hi)
  exact ⟨a, h1, h2, h4, (h.bd a h1 _ h3).2, h3⟩

theorem links_next {n : Nat} {nb : Nat → List Int} (h : WF n nb) (i : Nat) (hi : i + 1 < (links nb n).length) :
    pless ((links nb n)[i]) ((links nb n)[i + 1]) :=
  List.pairwise_iff_getElem.1 (links_inc h.inc) i (i + 1) (by omega) hi (by omega)

/-! ### What the two nests of wellFormed have found out so far -/
/-- The first j entries of l are nodes, and increase. -/
def GoodTo (n : Nat) (l : List Int) (j : Nat) : Prop := ∀ i, i < j → 0 ≤ l[i]?.getD 0 ∧ l[i]?.getD 0 < (n : Int) ∧ (0 < i → l[i - 1]?.getD 0 < l[i]?.getD 0)

theorem goodTo_zero (n : Nat) (l : List Int) : GoodTo n l 0 := fun i h => by omega

theorem goodTo_succ {n : Nat} {l : List Int} {j : Nat} (h : GoodTo n l j) (h0 : 0 ≤ l[j]?.getD 0) (h1 : l[j]?.getD 0 < (n : Int)) (h2 : 0 < j → l[j - 1]?.getD 0 < l[j]?.getD 0) : GoodTo n l (j + 1) := fun i hi => by
  by_cases e : i = j
  · subst e; exact ⟨h0, h1, h2⟩
  · exact h i (by omega)

theorem goodTo_lt {n : Nat} {l : List Int} {m : Nat} (h : GoodTo n l m) (i : Nat) : ∀ d, i + d + 1 < m → l[i]?.getD 0 < l[i + d + 1]?.getD 0
  | 0, hd => by have := (h (i + 1) (by omega)).2.2 (by omega); simpa using this
  | d + 1, hd => by
    have h1 := goodTo_lt h i d (by omega)
    have h2 := (h (i + (d + 1) + 1) (by omega)).2.2 (by omega)
    have e : i + (d + 1) + 1 - 1 = i + d + 1 := by omega
    rw [e] at h2
    omega

theorem good_row {n : Nat} {l : List Int} (h : GoodTo n l l.length) : l.Pairwise (· < ·) ∧ ∀ b ∈ l, 0 ≤ b ∧ b < (n : Int) := by
  constructor
  · refine List.pairwise_iff_getElem.2 fun i j hi hj hij => ?_
    have := goodTo_lt h i (j - i - 1) (by omega)
    have e : i + (j - i - 1) + 1 = j := by omega
    rw [e] at this
    simpa [hi, hj] using this
  · intro b hb
    obtain ⟨i, hi, rfl⟩ := List.mem_iff_getElem.1 hb
    have := h i hi
    simp [hi] at this
    exact ⟨this.1, this.2.1⟩

/-- All rows below k are good. -/
def GoodRows (n : Nat) (nb : Nat → List Int) (k : Nat) : Prop := ∀ a, a < k → (nb a).Pairwise (· < ·) ∧ ∀ b ∈ nb a, 0 ≤ b ∧ b < (n : Int)

theorem goodRows_zero (n : Nat) (nb : Nat → List Int) : GoodRows n nb 0 := fun a h => by omega
theorem goodRows_succ {n : Nat} {nb : Nat → List Int} {k : Nat} (h : GoodRows n nb k) (hk : GoodTo n (nb k) (nb k).length) : GoodRows n nb (k + 1) := fun a ha => by
  by_cases e : a = k
  · subst e; exact good_row hk
  · exact h a (by omega)

/-- The first j entries of l list a. -/
def SymTo (nb : Nat → List Int) (a : Nat) (l : List Int) (j : Nat) : Prop := ∀ i, i < j → (a : Int) ∈ nb (l[i]?.getD 0).toNat
theorem symTo_zero (nb : Nat → List Int) (a : Nat) (l : List Int) : SymTo nb a l 0 := fun i h => by omega
theorem symTo_succ {nb : Nat → List Int} {a : Nat} {l : List Int} {j : Nat} (h : SymTo nb a l j) (hj : (a : Int) ∈ nb (l[j]?.getD 0).toNat) : SymTo nb a l (j + 1) := fun i hi => by
  by_cases e : i = j
  · subst e; exact hj
  · exact h i (by omega)
def SymRows (nb : Nat → List Int) (k : Nat) : Prop := ∀ a, a < k → ∀ b ∈ nb a, (a : Int) ∈ nb b.toNat
theorem symRows_zero (nb : Nat → List Int) : SymRows nb 0 := fun a h => by omega
theorem symRows_succ {nb : Nat → List Int} {k : Nat} (h : SymRows nb k) (hk : SymTo nb k (nb k) (nb k).length) : SymRows nb (k + 1) := fun a ha b hb => by
  by_cases e : a = k
  · subst e
    obtain ⟨i, hi, rfl⟩ := List.mem_iff_getElem.1 hb
    have := hk i hi
    simpa [hi] using this
  · exact h a (by omega) b hb
theorem wf_of {n : Nat} {nb : Nat → List Int} (h1 : GoodRows n nb n) (h2 : SymRows nb n) : WF n nb :=
  ⟨fun a ha => (h1 a ha).1, fun a ha => (h1 a ha).2, h2⟩
theorem getD_mem {l : List Int} {j : Nat} (h : j < l.length) : l[j]?.getD 0 ∈ l := by simp [h]

/-! ### Links, as far as row k and its first j entries -/
def part (nb : Nat → List Int) (k j : Nat) : List (Int × Int) := links nb k ++ (((nb k).take j).filter (fun b => decide ((k : Int) < b))).map (fun b => ((k : Int), b))
theorem part_zero (nb : Nat → List Int) (k : Nat) : part nb k 0 = links nb k := by simp [part]
theorem part_all (nb : Nat → List Int) (k : Nat) : part nb k (nb k).length = links nb (k + 1) := by simp [part, links, up]
theorem part_hit {nb : Nat → List Int} {k j : Nat} (hj : j < (nb k).length) (h : (k : Int) < (nb k)[j]?.getD 0) : part nb k (j + 1) = part nb k j ++ [((k : Int), (nb k)[j]?.getD 0)] := by
  have e : (nb k)[j]?.getD 0 = (nb k)[j] := by simp [hj]
  rw [e] at h ⊢
  unfold part
  rw [List.take_succ_eq_append_getElem hj, List.filter_append, List.map_append, ← List.append_assoc]
  congr 1
  simp [h]
theorem part_miss {nb : Nat → List Int} {k j : Nat} (hj : j < (nb k).length) (h : ¬ (k : Int) < (nb k)[j]?.getD 0) : part nb k (j + 1) = part nb k j := by
  have e : (nb k)[j]?.getD 0 = (nb k)[j] := by simp [hj]
  rw [e] at h
  unfold part
  rw [List.take_succ_eq_append_getElem hj, List.filter_append, List.map_append]
  simp [h]
theorem part_len (nb : Nat → List Int) (k j : Nat) : (part nb k j).length ≤ sumTo (fun a => (nb a).length) k + j := by
  unfold part
  rw [List.length_append, List.length_map, links_len]
  have h1 := sumTo_le (f := fun a => (up nb a).length) (g := fun a => (nb a).length) k (fun a _ => up_le nb a)
  have h2 := List.length_filter_le (fun b => decide ((k : Int) < b)) ((nb k).take j)
  have h3 := List.length_take_le j (nb k)
  omega

/-! ### The ends, as far as row k and its first j entries -/
def offTo (nb : Nat → List Int) (k j : Nat) : Nat := sumTo (fun a => (off nb a).length) k + (((nb k).take j).filter (fun b => b != (k : Int))).length
theorem offTo_zero (nb : Nat → List Int) (k : Nat) : offTo nb k 0 = sumTo (fun a => (off nb a).length) k := by simp [offTo]
theorem offTo_all (nb : Nat → List Int) (k : Nat) : offTo nb k (nb k).length = sumTo (fun a => (off nb a).length) (k + 1) := by simp [offTo, sumTo, off]
theorem offTo_next {nb : Nat → List Int} {k j : Nat} (h : (nb k).length = j) : offTo nb k j = offTo nb (k + 1) 0 := by rw [← h, offTo_all, offTo_zero]
theorem offTo_end {n : Nat} {nb : Nat → List Int} (h : WF n nb) : offTo nb n 0 = 2 * (links nb n).length := by rw [offTo_zero, ends_half h, links_len]
theorem offTo_hit {nb : Nat → List Int} {k j : Nat} (hj : j < (nb k).length) (h : ((nb k)[j]?.getD 0 != (k : Int)) = true) : offTo nb k (j + 1) = offTo nb k j + 1 := by
  have e : (nb k)[j]?.getD 0 = (nb k)[j] := by simp [hj]
  rw [e] at h
  unfold offTo
  rw [List.take_succ_eq_append_getElem hj, List.filter_append, List.length_append, List.filter_cons, if_pos h]
  simp; omega
theorem offTo_miss {nb : Nat → List Int} {k j : Nat} (hj : j < (nb k).length) (h : ((nb k)[j]?.getD 0 != (k : Int)) = false) : offTo nb k (j + 1) = offTo nb k j := by
  have e : (nb k)[j]?.getD 0 = (nb k)[j] := by simp [hj]
  rw [e] at h
  unfold offTo
  rw [List.take_succ_eq_append_getElem hj, List.filter_append, List.length_append, List.filter_cons, if_neg (by rw [h]; simp)]
  simp
theorem offTo_le (nb : Nat → List Int) (k j : Nat) : offTo nb k j ≤ sumTo (fun a => (nb a).length) k + j := by
  unfold offTo
  have h1 := sumTo_le (f := fun a => (off nb a).length) (g := fun a => (nb a).length) k (fun a _ => off_le nb a)
  have h2 := List.length_filter_le (fun b => b != (k : Int)) ((nb k).take j)
  have h3 := List.length_take_le j (nb k)
  omega

end Go.Proofs.Qxb6603196a.Pl
