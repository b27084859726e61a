/-
  THE PLAIN MATHEMATICS OF LINE ENDS: no Go in sight. Bytes are a function 'd : Nat → Int' and a length 'n'.
-/
namespace Go.Proofs.Qxb6000578a.Le

/-- Position j (1..n) ends a line: the byte before it is a LF, or a CR that no LF follows. -/
def isEnd (d : Nat → Int) (n j : Nat) : Bool := decide (d (j - 1) = 10) || (decide (d (j - 1) = 13) && !(decide (j < n) && decide (d j = 10)))

/-- The line ends among the positions 1..k. -/
def K (d : Nat → Int) (n k : Nat) : List Nat := (List.range' 1 k).filter (isEnd d n)

/-- All line ends, the end of data among them. -/
def E (d : Nat → Int) (n : Nat) : List Nat := if K d n n = [] ∨ (K d n n).getLastD 0 < n then K d n n ++ [n] else K d n n

theorem K_zero (d : Nat → Int) (n : Nat) : K d n 0 = [] := rfl

theorem K_succ (d : Nat → Int) (n k : Nat) : K d n (k + 1) = K d n k ++ (if isEnd d n (k + 1) = true then [k + 1] else []) := by
  unfold K
  rw [List.range'_concat, List.filter_append]
  congr 1
  have e : 1 + 1 * k = k + 1 := by omega
  rw [e]
  by_cases h : isEnd d n (k + 1) = true
  · simp [h]
  · simp [h]

theorem K_hit {d : Nat → Int} {n k : Nat} (h : isEnd d n (k + 1) = true) : K d n (k + 1) = K d n k ++ [k + 1] := by rw [K_succ, if_pos h]
theorem K_miss {d : Nat → Int} {n k : Nat} (h : isEnd d n (k + 1) = false) : K d n (k + 1) = K d n k := by rw [K_succ, if_neg (by simp [h])]; simp

theorem K_len (d : Nat → Int) (n k : Nat) : (K d n k).length ≤ k := by
  unfold K
  have := List.length_filter_le (isEnd d n) (List.range' 1 k)
  simpa using this

theorem K_mem {d : Nat → Int} {n k j : Nat} : j ∈ K d n k ↔ (1 ≤ j ∧ j ≤ k) ∧ isEnd d n j = true := by
  unfold K
  rw [List.mem_filter, List.mem_range'_1]
  constructor
  · rintro ⟨h1, h2⟩; exact ⟨by omega, h2⟩
  · rintro ⟨h1, h2⟩; exact ⟨by omega, h2⟩

/-! the four ways of a round -/
theorem end_lf {d : Nat → Int} {n k : Nat} (h : d k = 10) : isEnd d n (k + 1) = true := by simp [isEnd, h]
theorem end_cr_last {d : Nat → Int} {n k : Nat} (h : d k = 13) (hn : ¬ k + 1 < n) : isEnd d n (k + 1) = true := by simp [isEnd, h, hn]
theorem end_cr {d : Nat → Int} {n k : Nat} (h : d k = 13) (hn : ¬ d (k + 1) = 10) : isEnd d n (k + 1) = true := by simp [isEnd, h, hn]
theorem end_no {d : Nat → Int} {n k : Nat} (h : ¬ d k = 13) (hn : ¬ d k = 10) : isEnd d n (k + 1) = false := by simp [isEnd, h, hn]
theorem K_crlf {d : Nat → Int} {n k : Nat} (h : d k = 13) (hn : k + 1 < n) (hl : d (k + 1) = 10) : K d n (k + 2) = K d n k ++ [k + 2] := by
  have h1 : isEnd d n (k + 1) = false := by simp [isEnd, h, hn, hl]
  have h2 : isEnd d n (k + 1 + 1) = true := end_lf hl
  rw [K_hit h2, K_miss h1]

/-! what E is -/
theorem E_len (d : Nat → Int) (n : Nat) : (E d n).length ≤ n + 1 := by
  have := K_len d n n
  unfold E
  split
  · simp; omega
  · omega

theorem K_sorted (d : Nat → Int) (n k : Nat) : (K d n k).Pairwise (· < ·) := by
  unfold K
  exact List.Pairwise.filter _ (List.pairwise_lt_range' (s := 1) (n := k) 1)

theorem E_mem {d : Nat → Int} {n j : Nat} : j ∈ E d n ↔ ((1 ≤ j ∧ j ≤ n) ∧ isEnd d n j = true) ∨ j = n := by
  unfold E
  split
  · rw [List.mem_append, K_mem]; simp
  · rename_i h
    rw [K_mem]
    constructor
    · exact Or.inl
    · rintro (h1 | h1)
      · exact h1
      · subst h1
        have h3 : K d j j ≠ [] := fun e => h (.inl e)
        have h2 : ¬ (K d j j).getLastD 0 < j := fun e => h (.inr e)
        have h4 : (K d j j).getLast h3 ∈ K d j j := List.getLast_mem h3
        rw [List.getLastD_eq_getLast?, List.getLast?_eq_some_getLast h3] at h2
        simp at h2
        have h5 := K_mem.1 h4
        have h6 : (K d j j).getLast h3 = j := by omega
        rw [h6] at h5
        exact h5

theorem E_sorted (d : Nat → Int) (n : Nat) : (E d n).Pairwise (· < ·) := by
  unfold E
  split
  · rename_i h
    rw [List.pairwise_append]
    refine ⟨K_sorted d n n, by simp, ?_⟩
    intro a ha b hb
    simp at hb
    subst hb
    rcases h with h | h
    · rw [h] at ha; simp at ha
    · have h3 : K d b b ≠ [] := fun e => by rw [e] at ha; simp at ha
      rw [List.getLastD_eq_getLast?, List.getLast?_eq_some_getLast h3] at h
      simp at h
      have hs := K_sorted d b b
      rw [List.getLast_eq_getElem] at h
      obtain ⟨i, hi, rfl⟩ := List.getElem_of_mem ha
      by_cases e : i = (K d b b).length - 1
      · subst e; exact h
      · have := List.pairwise_iff_getElem.1 hs i ((K d b b).length - 1) hi (by omega) (by omega)
        omega
  · exact K_sorted d n n

theorem E_ne (d : Nat → Int) (n : Nat) : 0 < (E d n).length := by
  have : n ∈ E d n := E_mem.2 (.inr rfl)
  exact List.length_pos_of_mem this

theorem E_zero (d : Nat → Int) : E d 0 = [0] := by simp [E, K_zero]

/-- the k-th end as a number (0 beyond) -/
def at_ (d : Nat → Int) (n k : Nat) : Nat := (E d n).getD k 0
/-- the end before the k-th (0 ahead of the first) -/
def prev (d : Nat → Int) (n k : Nat) : Nat := if k = 0 then 0 else at_ d n (k - 1)

theorem prev_zero (d : Nat → Int) (n : Nat) : prev d n 0 = 0 := rfl
theorem prev_succ (d : Nat → Int) (n k : Nat) : prev d n (k + 1) = at_ d n k := by simp [prev]

theorem at_mem {d : Nat → Int} {n k : Nat} (hk : k < (E d n).length) : at_ d n k ∈ E d n := by
  unfold at_
  rw [List.getD_eq_getElem?_getD, List.getElem?_eq_getElem hk]
  exact List.getElem_mem hk

theorem at_lt {d : Nat → Int} {n i j : Nat} (hij : i < j) (hj : j < (E d n).length) : at_ d n i < at_ d n j := by
  unfold at_
  rw [List.getD_eq_getElem?_getD, List.getD_eq_getElem?_getD, List.getElem?_eq_getElem hj, List.getElem?_eq_getElem (Nat.lt_trans hij hj)]
  exact List.pairwise_iff_getElem.1 (E_sorted d n) i j (by omega) hj hij

theorem at_of_mem {d : Nat → Int} {n x : Nat} (h : x ∈ E d n) : ∃ k, k < (E d n).length ∧ at_ d n k = x := by
  obtain ⟨i, hi, rfl⟩ := List.getElem_of_mem h
  refine ⟨i, hi, ?_⟩
  unfold at_
  rw [List.getD_eq_getElem?_getD, List.getElem?_eq_getElem hi]
  rfl

theorem at_le {d : Nat → Int} {n k : Nat} (hk : k < (E d n).length) : at_ d n k ≤ n := by
  rcases E_mem.1 (at_mem hk) with h | h <;> omega

theorem at_pos {d : Nat → Int} {n k : Nat} (hn : 0 < n) (hk : k < (E d n).length) : 0 < at_ d n k := by
  rcases E_mem.1 (at_mem hk) with h | h <;> omega

theorem prev_lt {d : Nat → Int} {n k : Nat} (hn : 0 < n) (hk : k < (E d n).length) : prev d n k < at_ d n k := by
  unfold prev
  split
  · exact at_pos hn hk
  · exact at_lt (by omega) hk

theorem at_last (d : Nat → Int) (n : Nat) : at_ d n ((E d n).length - 1) = n := by
  have h0 := E_ne d n
  obtain ⟨k, hk, e⟩ := at_of_mem (d := d) (n := n) (E_mem.2 (.inr rfl))
  have h1 : at_ d n ((E d n).length - 1) ≤ n := at_le (by omega)
  by_cases h : k = (E d n).length - 1
  · rw [← h]; exact e
  · have := at_lt (d := d) (n := n) (i := k) (j := (E d n).length - 1) (by omega) (by omega)
    omega

/-- no end lies strictly between two neighbours -/
theorem no_between {d : Nat → Int} {n k x : Nat} (hk : k < (E d n).length) (hx : x ∈ E d n) (h1 : prev d n k < x) (h2 : x < at_ d n k) : False := by
  obtain ⟨m, hm, rfl⟩ := at_of_mem hx
  by_cases h : m < k
  · have : prev d n k = at_ d n (k - 1) := by unfold prev; rw [if_neg (by omega)]
    by_cases e : m = k - 1
    · subst e; omega
    · have := at_lt (d := d) (n := n) (i := m) (j := k - 1) (by omega) (by omega)
      omega
  · by_cases e : m = k
    · subst e; omega
    · have := at_lt (d := d) (n := n) (i := k) (j := m) (by omega) hm
      omega

/-- an end that is no break is the last -/
theorem last_of_plain {d : Nat → Int} {n k : Nat} (hk : k < (E d n).length) (h1 : ¬ d (at_ d n k - 1) = 10) (h2 : ¬ d (at_ d n k - 1) = 13) : k = (E d n).length - 1 := by
  have hn : at_ d n k = n := by
    rcases E_mem.1 (at_mem hk) with h | h
    · have := h.2; simp [isEnd, h1, h2] at this
    · exact h
  by_cases h : k = (E d n).length - 1
  · exact h
  · have := at_lt (d := d) (n := n) (i := k) (j := (E d n).length - 1) (by omega) (by omega)
    have := at_last d n
    omega

/-- a CR end is not followed by a LF -/
theorem cr_free {d : Nat → Int} {n k : Nat} (hk : k < (E d n).length) (h1 : d (at_ d n k - 1) = 13) (h2 : at_ d n k < n) : ¬ d (at_ d n k) = 10 := by
  rcases E_mem.1 (at_mem hk) with h | h
  · intro h3
    have := h.2
    simp [isEnd, h1, h2, h3] at this
  · omega

/-- inside a line no LF -/
theorem in_lf {d : Nat → Int} {n k i : Nat} (hk : k < (E d n).length) (hp : prev d n k ≤ i) (hi : i + 1 < at_ d n k) : ¬ d i = 10 := by
  intro h
  have hle := at_le hk
  exact no_between hk (x := i + 1) (E_mem.2 (.inl ⟨by omega, end_lf h⟩)) (by omega) hi

/-- inside a line no CR, but the one ahead of the closing LF -/
theorem in_cr {d : Nat → Int} {n k i : Nat} (hk : k < (E d n).length) (hp : prev d n k ≤ i) (hi : i + 1 < at_ d n k) (h : d i = 13) : i + 2 = at_ d n k ∧ d (i + 1) = 10 := by
  have hle := at_le hk
  by_cases he : isEnd d n (i + 1) = true
  · exact (no_between hk (x := i + 1) (E_mem.2 (.inl ⟨by omega, he⟩)) (by omega) hi).elim
  · have h2 : i + 1 < n ∧ d (i + 1) = 10 := by
      simp [isEnd, h] at he
      exact he
    refine ⟨?_, h2.2⟩
    by_cases e : i + 2 = at_ d n k
    · exact e
    · exact (no_between hk (x := i + 2) (E_mem.2 (.inl ⟨by omega, end_lf h2.2⟩)) (by omega) (by omega)).elim

end Go.Proofs.Qxb6000578a.Le
