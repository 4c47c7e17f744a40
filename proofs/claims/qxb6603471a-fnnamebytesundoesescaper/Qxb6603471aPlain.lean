/-
  The escaper and what the reader does with it: plain lists of bytes, no Go in sight.
-/
namespace Go.Proofs.Qxb6603471a.Pl

/-- k backslashes. -/
def bs (k : Nat) : List Int := List.replicate k 92
theorem bs_len (k : Nat) : (bs k).length = k := by simp [bs]
theorem bs_succ (k : Nat) : bs (k + 1) = bs k ++ [92] := by simp [bs, List.replicate_succ']
theorem bs_cons (k : Nat) : bs (k + 1) = 92 :: bs k := rfl
theorem bs_add (j k : Nat) : bs (j + k) = bs j ++ bs k := by simp [bs, List.replicate_append_replicate]
theorem bs_take {j k : Nat} (h : j ≤ k) : (bs k).take j = bs j := by simp [bs, List.take_replicate, Nat.min_eq_left h]

/-- What is still to be written, k backslashes of the name being held back. -/
def esc (E : Int → Bool) : List Int → Nat → List Int
  | [], k => bs (2 * k)
  | c :: l, k => if c = 92 then esc E l (k + 1) else bs (if E c then 2 * k + 1 else k) ++ c :: esc E l 0

theorem esc_bs (E : Int → Bool) (l : List Int) : ∀ j k, esc E (bs j ++ l) k = esc E l (j + k)
  | 0, k => by simp [bs]
  | j + 1, k => by
    rw [bs_cons, List.cons_append, esc, if_pos rfl, esc_bs E l j (k + 1)]
    congr 1; omega

theorem esc_len (E : Int → Bool) : ∀ l k, (esc E l k).length ≤ 2 * l.length + 2 * k
  | [], k => by simp [esc, bs_len]
  | c :: l, k => by
    rw [esc]
    split
    · have := esc_len E l (k + 1); simp; omega
    · have := esc_len E l 0
      rw [List.length_append, bs_len]
      simp
      split <;> omega

/-- A list is a run of backslashes, and then nothing, or a byte that is none. -/
theorem run_split : ∀ l : List Int, ∃ k, l = bs k ∨ ∃ c t, c ≠ 92 ∧ l = bs k ++ c :: t
  | [] => ⟨0, .inl rfl⟩
  | c :: l => by
    by_cases hc : c = 92
    · subst hc
      obtain ⟨k, h | ⟨d, t, hd, h⟩⟩ := run_split l
      · exact ⟨k + 1, .inl (by rw [h, bs_cons])⟩
      · exact ⟨k + 1, .inr ⟨d, t, hd, by rw [h, bs_cons, List.cons_append]⟩⟩
    · exact ⟨0, .inr ⟨c, l, hc, by simp [bs]⟩⟩

/-- What the reader stands before, at a name of which 'todo' is still to be read. -/
theorem esc_shape (E : Int → Bool) (todo : List Int) :
    (∃ k, todo = bs k ∧ esc E todo 0 = bs (2 * k)) ∨
    ∃ k c t, c ≠ 92 ∧ todo = bs k ++ c :: t ∧ esc E todo 0 = bs (if E c then 2 * k + 1 else k) ++ c :: esc E t 0 := by
  obtain ⟨k, h | ⟨c, t, hc, h⟩⟩ := run_split todo
  · left
    refine ⟨k, h, ?_⟩
    have := esc_bs E [] k 0
    rw [List.append_nil] at this
    rw [h, this]
    simp [esc]
  · right
    refine ⟨k, c, t, hc, h, ?_⟩
    rw [h, esc_bs, esc, if_neg hc]
    simp

theorem drop_at {l : List Int} {i : Nat} (h : i < l.length) : l.drop i = l[i]?.getD 0 :: l.drop (i + 1) := by
  rw [List.drop_eq_getElem_cons h]; simp [h]

theorem esc_hold {E : Int → Bool} {l : List Int} {i k : Nat} (h : i < l.length) (hc : l[i]?.getD 0 = 92) : esc E (l.drop i) k = esc E (l.drop (i + 1)) (k + 1) := by
  rw [drop_at h, esc, if_pos hc]
theorem esc_put {E : Int → Bool} {l : List Int} {i k : Nat} (h : i < l.length) (hc : l[i]?.getD 0 ≠ 92) :
    esc E (l.drop i) k = bs (if E (l[i]?.getD 0) then 2 * k + 1 else k) ++ l[i]?.getD 0 :: esc E (l.drop (i + 1)) 0 := by
  rw [drop_at h, esc, if_neg hc]

/-! ### The reader -/
/-- It has read R; I lies before it; what is still to come of the name, escaped, then the ending byte and the rest. -/
def Rd (E : Int → Bool) (term : Int) (rest name R I : List Int) : Prop := ∃ todo, I = esc E todo 0 ++ term :: rest ∧ R ++ todo = name

theorem rd_start (E : Int → Bool) (term : Int) (rest name : List Int) : Rd E term rest name [] (esc E name 0 ++ term :: rest) := ⟨name, rfl, rfl⟩

theorem esc_nil (E : Int → Bool) : esc E [] 0 = [] := rfl
theorem esc_plain {E : Int → Bool} {c : Int} {t : List Int} (hc : c ≠ 92) (hE : E c = false) : esc E (c :: t) 0 = c :: esc E t 0 := by
  rw [esc, if_neg hc, hE]; rfl

/-- WHAT THE READER MEETS. -/
theorem rd_shape {E : Int → Bool} {term : Int} {rest name R I : List Int} (ht : term ≠ 92) (hE : E term = true) (h : Rd E term rest name R I) :
    (I = term :: rest ∧ R = name) ∨
    (∃ c I', c ≠ 92 ∧ E c = false ∧ I = c :: I' ∧ Rd E term rest name (R ++ [c]) I') ∨
    ∃ n d I2, 1 ≤ n ∧ d ≠ 92 ∧ I = bs n ++ d :: I2 ∧ (E d = false → Rd E term rest name (R ++ bs n) (d :: I2)) ∧
      (E d = true → n % 2 = 0 → Rd E term rest name (R ++ bs (n / 2)) (d :: I2)) ∧ (E d = true → n % 2 = 1 → Rd E term rest name (R ++ bs (n / 2) ++ [d]) I2) := by
  obtain ⟨todo, hI, hR⟩ := h
  rcases esc_shape E todo with ⟨k, hk, he⟩ | ⟨k, c, t, hc, hk, he⟩
  · rw [he] at hI
    by_cases hk0 : k = 0
    · left
      subst hk0
      subst hk
      exact ⟨by simpa [bs] using hI, by simpa [bs] using hR⟩
    · right; right
      refine ⟨2 * k, term, rest, by omega, ht, hI, (fun h => by rw [hE] at h; cases h), (fun _ _ => ?_), (fun _ h => by omega)⟩
      have e : 2 * k / 2 = k := by omega
      rw [e]
      exact ⟨[], by simp [esc_nil], by rw [List.append_nil, ← hk]; exact hR⟩
  · rw [he] at hI
    by_cases hEc : E c = true
    · right; right
      rw [if_pos hEc] at hI
      refine ⟨2 * k + 1, c, esc E t 0 ++ term :: rest, by omega, hc, by rw [hI]; simp, (fun h => by rw [hEc] at h; cases h), (fun _ h => by omega), fun _ _ => ?_⟩
      have e : (2 * k + 1) / 2 = k := by omega
      rw [e]
      exact ⟨t, rfl, by rw [← hR, hk]; simp⟩
    · have hEc' : E c = false := by simpa using hEc
      rw [if_neg hEc] at hI
      by_cases hk0 : k = 0
      · right; left
        subst hk0
        exact ⟨c, esc E t 0 ++ term :: rest, hc, hEc', by simpa [bs] using hI, t, rfl, by rw [← hR, hk]; simp [bs]⟩
      · right; right
        refine ⟨k, c, esc E t 0 ++ term :: rest, by omega, hc, by rw [hI]; simp, fun _ => ?_, (fun h => by rw [hEc'] at h; cases h), fun h => by rw [hEc'] at h; cases h⟩
        exact ⟨c :: t, by rw [esc_plain hc hEc']; rfl, by rw [← hR, hk]; simp⟩

/-! ### Where it stands in the input -/
theorem at_run {l : List Int} {p n : Nat} {d : Int} {I2 : List Int} (h : l.drop p = bs n ++ d :: I2) :
    (∀ i, i < n → l[p + i]?.getD 0 = 92) ∧ l[p + n]?.getD 0 = d ∧ p + n < l.length ∧ l.drop (p + n) = d :: I2 ∧ l.drop (p + n + 1) = I2 := by
  have hlen := congrArg List.length h
  rw [List.length_append, bs_len, List.length_drop] at hlen
  simp at hlen
  have hget : ∀ i, l[p + i]? = (bs n ++ d :: I2)[i]? := fun i => by rw [← h, List.getElem?_drop]
  have hd : l.drop (p + n) = d :: I2 := by
    rw [← List.drop_drop, h, List.drop_append_of_le_length (by rw [bs_len]; omega), List.drop_of_length_le (by rw [bs_len]; omega), List.nil_append]
  refine ⟨fun i hi => ?_, ?_, by omega, hd, ?_⟩
  · rw [hget i, List.getElem?_append_left (by rw [bs_len]; exact hi)]
    simp [bs, hi]
  · rw [hget n, List.getElem?_append_right (by rw [bs_len]; omega), bs_len]
    simp
  · rw [← List.drop_drop, hd]; rfl

theorem at_one {l : List Int} {p : Nat} {d : Int} {I2 : List Int} (h : l.drop p = d :: I2) : l[p]?.getD 0 = d ∧ p < l.length ∧ l.drop (p + 1) = I2 := by
  have := at_run (l := l) (p := p) (n := 0) (d := d) (I2 := I2) (by simpa [bs] using h)
  exact ⟨this.2.1, this.2.2.1, this.2.2.2.2⟩

/-- The piece of the input from p, n bytes long. -/
def piece (l : List Int) (p n : Nat) : List Int := (l.drop p).take n
theorem piece_run {l : List Int} {p n j : Nat} {d : Int} {I2 : List Int} (h : l.drop p = bs n ++ d :: I2) (hj : j ≤ n) : piece l p j = bs j := by
  unfold piece
  rw [h, List.take_append_of_le_length (by rw [bs_len]; exact hj), bs_take hj]
theorem piece_at {l : List Int} {p n i : Nat} (hi : i < n) : (piece l p n)[i]?.getD 0 = l[p + i]?.getD 0 := by
  unfold piece; rw [List.getElem?_take_of_lt hi, List.getElem?_drop]
theorem piece_len {l : List Int} {p n : Nat} (h : p + n ≤ l.length) : (piece l p n).length = n := by
  unfold piece; rw [List.length_take, List.length_drop]; omega
theorem piece_succ {l : List Int} {s p : Nat} (hs : s ≤ p) (h : p < l.length) : piece l s (p + 1 - s) = piece l s (p - s) ++ [l[p]?.getD 0] := by
  unfold piece
  have e : p + 1 - s = (p - s) + 1 := by omega
  rw [e, List.take_add_one, List.getElem?_drop, show s + (p - s) = p from by omega]
  simp [h]
theorem piece_more {l : List Int} {s p n : Nat} (hs : s ≤ p) : piece l s (p + n - s) = piece l s (p - s) ++ piece l p n := by
  unfold piece
  have e : p + n - s = (p - s) + n := by omega
  rw [e, List.take_add, List.drop_drop, show s + (p - s) = p from by omega]

end Go.Proofs.Qxb6603471a.Pl
