/-
  THE PLAIN LAW of reading alternatives back: what lies between the spaces of what 'alternatives' writes. No walk here.
-/
import Derived.Test.Qxb6000578aAlt
import Derived.Lib.Strings
namespace Go.Proofs.Qxb6000578a.St

/-- the bytes of a string -/
def L (b : ByteArray) : List UInt8 := b.data.toList
theorem L_append (a b : ByteArray) : L (a ++ b) = L a ++ L b := by simp [L]
theorem L_inj {a b : ByteArray} (h : L a = L b) : a = b := by
  cases a; cases b
  simp [L] at h
  subst h
  rfl
theorem L_size (a : ByteArray) : a.size = (L a).length := Lib.size_eq a

/-- a list of words, each closed by a space -/
def closed (ts : List (List UInt8)) : List UInt8 := (ts.map (· ++ [32])).flatten
theorem closed_snoc (ts : List (List UInt8)) (t : List UInt8) : closed (ts ++ [t]) = closed ts ++ (t ++ [32]) := by simp [closed]
theorem closed_cons (ts : List (List UInt8)) (t : List UInt8) : closed (t :: ts) = t ++ 32 :: closed ts := by simp [closed]

/-- the first space parts a text in one way alone -/
theorem head_unique : ∀ {x y r r' : List UInt8}, 32 ∉ x → 32 ∉ y → x ++ 32 :: r = y ++ 32 :: r' → x = y ∧ r = r'
  | [], [], _, _, _, _, h => by simp at h; exact ⟨rfl, h⟩
  | [], y :: ys, _, _, _, hy, h => by simp at h; simp [← h.1] at hy
  | x :: xs, [], _, _, hx, _, h => by simp at h; simp [h.1] at hx
  | x :: xs, y :: ys, r, r', hx, hy, h => by
    simp at h hx hy
    have := head_unique (x := xs) (y := ys) hx.2 hy.2 h.2
    exact ⟨by rw [h.1, this.1], this.2⟩

theorem head_none {x y r : List UInt8} (hy : 32 ∉ y) (h : x ++ 32 :: r = y) : False := by
  apply hy
  rw [← h]
  simp

/-- the words between the spaces are known by the text -/
theorem words_unique : ∀ {ts us : List (List UInt8)} {a b : List UInt8}, (∀ t ∈ ts, 32 ∉ t) → (∀ t ∈ us, 32 ∉ t) → 32 ∉ a → 32 ∉ b → closed ts ++ a = closed us ++ b → ts = us ∧ a = b
  | [], [], _, _, _, _, _, _, h => by simp [closed] at h; exact ⟨rfl, h⟩
  | [], u :: us, a, b, _, _, ha, _, h => by
    rw [closed_cons] at h
    simp only [closed, List.map_nil, List.flatten_nil, List.nil_append, List.append_assoc, List.cons_append] at h
    exact (head_none ha h.symm).elim
  | t :: ts, [], a, b, _, _, _, hb, h => by
    rw [closed_cons] at h
    simp only [closed, List.map_nil, List.flatten_nil, List.nil_append, List.append_assoc, List.cons_append] at h
    exact (head_none hb h).elim
  | t :: ts, u :: us, a, b, hts, hus, ha, hb, h => by
    rw [closed_cons, closed_cons, List.append_assoc, List.append_assoc, List.cons_append, List.cons_append] at h
    have h1 := head_unique (hts t (by simp)) (hus u (by simp)) h
    have h2 := words_unique (fun x hx => hts x (by simp [hx])) (fun x hx => hus x (by simp [hx])) ha hb h1.2
    exact ⟨by rw [h1.1, h2.1], h2.2⟩

/-- how far a text has been read: the words closed so far, where the open word starts -/
structure Read (S : ByteArray) (ts : List ByteArray) (st k : Nat) : Prop where
  le : st ≤ k
  head : (L S).take st = closed (ts.map L)
  words : ∀ t ∈ ts, 32 ∉ L t
  open_ : 32 ∉ ((L S).take k).drop st

theorem Read.zero (S : ByteArray) : Read S [] 0 0 := ⟨Nat.le_refl _, by simp [closed], by simp, by simp⟩

theorem take_snoc {l : List UInt8} {k : Nat} (h : k < l.length) : l.take (k + 1) = l.take k ++ [l[k]] := by
  rw [List.take_succ_eq_append_getElem h]

/-- a byte that is no space -/
theorem Read.step {S : ByteArray} {ts : List ByteArray} {st k : Nat} (h : Read S ts st k) (hk : k < (L S).length) (hb : (L S)[k] ≠ 32) : Read S ts st (k + 1) := by
  refine ⟨by have := h.le; omega, h.head, h.words, ?_⟩
  rw [take_snoc hk, List.drop_append_of_le_length (by have := h.le; simp; omega)]
  simp only [List.mem_append, List.mem_singleton, not_or]
  exact ⟨h.open_, fun e => hb e.symm⟩

/-- a space closes the open word -/
theorem Read.close {S : ByteArray} {ts : List ByteArray} {st k : Nat} (h : Read S ts st k) (hk : k < (L S).length) (hb : (L S)[k] = 32) : Read S (ts ++ [S.extract st k]) (k + 1) (k + 1) := by
  have hle := h.le
  have e : L (S.extract st k) = ((L S).take k).drop st := by
    unfold L
    rw [Lib.extract_data, List.drop_take]
  refine ⟨Nat.le_refl _, ?_, ?_, ?_⟩
  · rw [List.map_append, List.map_cons, List.map_nil, closed_snoc, e, ← h.head, take_snoc hk, hb, ← List.append_assoc]
    congr 1
    have h2 : (L S).take st = ((L S).take k).take st := by rw [List.take_take, Nat.min_eq_left hle]
    rw [h2, List.take_append_drop]
  · intro t ht
    rw [List.mem_append, List.mem_singleton] at ht
    rcases ht with ht | ht
    · exact h.words t ht
    · rw [ht, e]; exact h.open_
  · have : ((L S).take (k + 1)).drop (k + 1) = [] := by simp
    rw [this]; simp

/-- the text read to its end: its words are the ones that it was made of -/
theorem Read.done {S : ByteArray} {ts us : List ByteArray} {st : Nat} {b : ByteArray} (h : Read S ts st S.size) (hS : L S = closed (us.map L) ++ L b) (hus : ∀ t ∈ us, 32 ∉ L t) (hb : 32 ∉ L b) :
    ts ++ [S.extract st S.size] = us ++ [b] := by
  have hle := h.le
  have e : L (S.extract st S.size) = (L S).drop st := by
    unfold L
    rw [Lib.extract_data, List.take_of_length_le]
    rw [Lib.size_eq]; simp
  have ho := h.open_
  rw [L_size, List.take_length] at ho
  have hfull : closed (ts.map L) ++ L (S.extract st S.size) = closed (us.map L) ++ L b := by
    rw [← h.head, e, List.take_append_drop, hS]
  have hu := words_unique (fun t ht => by
      obtain ⟨x, hx, rfl⟩ := List.mem_map.1 ht
      exact h.words x hx) (fun t ht => by
      obtain ⟨x, hx, rfl⟩ := List.mem_map.1 ht
      exact hus x hx) (by rw [e]; exact ho) hb hfull
  have h1 : ts = us := by
    apply List.ext_getElem
    · have := congrArg List.length hu.1; simpa using this
    · intro i h1 h2
      apply L_inj
      have := congrArg (fun l => l[i]?) hu.1
      simpa [h1, h2] using this
  rw [h1, L_inj hu.2]

/-! ### what 'alternatives' writes -/
/-- a fate that the law speaks of: not empty, no space, no comma -/
def Good (t : ByteArray) : Prop := 0 < t.size ∧ 32 ∉ L t ∧ 44 ∉ L t

theorem alt_head (s : Nat → ByteArray) (r : Nat) : ∀ k, k ≤ r → L (altB s (r + 2) (k + 1)) = ((List.range k).map fun j => L (s j) ++ [44, 32]).flatten ++ L (s k)
  | 0, _ => by
    rw [alt_first s (r + 2) 0 rfl, L_append]
    simp [altB, L]
  | k + 1, h => by
    rw [alt_mid s (r + 2) (k + 1) (by omega) (by omega), L_append, L_append, alt_head s r k (by omega)]
    simp [List.range_succ, L]

/-- the words of the text, but the last -/
def words (s : Nat → ByteArray) (r : Nat) : List ByteArray := ((List.range r).map fun j => s j ++ ⟨#[44]⟩) ++ [s r, ⟨#[111, 114]⟩]

theorem alt_words (s : Nat → ByteArray) (r : Nat) : L (altB s (r + 2) (r + 2)) = closed ((words s r).map L) ++ L (s (r + 1)) := by
  rw [alt_last s (r + 2) (r + 1) (by omega) rfl, L_append, L_append, alt_head s r r (Nat.le_refl _)]
  have e : closed (List.map L (words s r)) = ((List.range r).map fun j => L (s j) ++ [44, 32]).flatten ++ (L (s r) ++ [32]) ++ ([111, 114] ++ [32]) := by
    have e1 : (List.range r).map (fun j => L (s j ++ ⟨#[44]⟩) ++ [32]) = (List.range r).map fun j => L (s j) ++ [44, 32] := by
      apply List.map_congr_left
      intro j _
      simp [L]
    have e2 : L ⟨#[111, 114]⟩ = [111, 114] := rfl
    unfold words closed
    rw [← e1]
    simp only [List.map_append, List.map_map, List.flatten_append, List.map_cons, List.map_nil, List.flatten_cons, List.flatten_nil, List.append_nil, e2, List.append_assoc]
    rfl
  rw [e]
  simp [L]

theorem words_free {s : Nat → ByteArray} {r : Nat} (h : ∀ j, j < r + 2 → Good (s j)) : ∀ t ∈ words s r, 32 ∉ L t := by
  intro t ht
  unfold words at ht
  rw [List.mem_append] at ht
  rcases ht with ht | ht
  · obtain ⟨j, hj, rfl⟩ := List.mem_map.1 ht
    have := (h j (by simp at hj; omega)).2.1
    rw [L_append, List.mem_append, not_or]
    exact ⟨this, by simp [L]⟩
  · simp at ht
    rcases ht with rfl | rfl
    · exact (h r (by omega)).2.1
    · simp [L]

theorem words_len (s : Nat → ByteArray) (r : Nat) : (words s r).length = r + 2 := by simp [words]

/-- one fate alone -/
theorem alt_one (s : Nat → ByteArray) : altB s 1 1 = s 0 := by
  apply L_inj
  rw [alt_first s 1 0 rfl, L_append]
  simp [altB, L]

end Go.Proofs.Qxb6000578a.St
