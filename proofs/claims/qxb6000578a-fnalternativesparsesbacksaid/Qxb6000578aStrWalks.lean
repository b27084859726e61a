/-
  THE WALKS over slices of strings: 'zzStringsBytes', 'zzToFates', 'isOneOf'.
-/
import Derived.Test.Qxb6000578aRows
import Derived.WalkKit
import Derived.ProofKit
import Derived.WalkSpells
import Derived.Lib.SliceRun
import Derived.Below
import Derived.Outline
namespace Go.Proofs.Qxb6000578a.St
open Go.RowKit

theorem hide {p : Prop} (h : p) : Hid p := h

theorem info32 : (Try.prog.info? 32).map (fun i => (i.zero, i.size, i.bytes)) = some (some (.string ByteArray.empty), 1, 16) := by kernel_rfl

/-- a slice whose elements are the strings s 0, .., s (n-1), in blocks below B -/
def Sees (w : World) (a : Option Addr) (n : Nat) (s : Nat → ByteArray) (B : Nat) : Prop :=
  0 < n → ∃ b off, a = some ⟨b, off, none⟩ ∧ b < B ∧ ∀ j, j < n → w.cell? ⟨b, off + j, none⟩ = some (.string (s j))

theorem Sees.below {w w' : World} {a : Option Addr} {n : Nat} {s : Nat → ByteArray} {B B' : Nat} (h : Sees w a n s B) (hb : Below B w w') (hB : B ≤ B') : Sees w' a n s B' := by
  intro hn
  obtain ⟨b, off, h1, h2, h3⟩ := h hn
  exact ⟨b, off, h1, by omega, fun j hj => (hb.cell (by exact h2)).trans (h3 j hj)⟩

/-- the bytes of the first k strings together -/
def tot (s : Nat → ByteArray) (k : Nat) : Nat := ((List.range k).map fun j => (s j).size).sum
theorem tot_zero (s : Nat → ByteArray) : tot s 0 = 0 := rfl
theorem tot_succ (s : Nat → ByteArray) (k : Nat) : tot s (k + 1) = tot s k + (s k).size := by simp [tot, List.range_succ]
theorem tot_mono (s : Nat → ByteArray) {k n : Nat} (h : k ≤ n) : tot s k ≤ tot s n := by
  induction n with
  | zero => obtain rfl : k = 0 := by omega
            exact Nat.le_refl _
  | succ n ih =>
    by_cases e : k = n + 1
    · subst e; exact Nat.le_refl _
    · have := ih (by omega)
      rw [tot_succ]; omega

/-- f is one of the first n -/
def memB (f : ByteArray) (s : Nat → ByteArray) (n : Nat) : Bool := (List.range n).any fun j => decide (f = s j)
theorem memB_true {f : ByteArray} {s : Nat → ByteArray} {n k : Nat} (hk : k < n) (h : f = s k) : memB f s n = true := by
  unfold memB
  rw [List.any_eq_true]
  exact ⟨k, by simpa using hk, by simpa using h⟩
theorem memB_false {f : ByteArray} {s : Nat → ByteArray} {n : Nat} (h : ∀ j, j < n → ¬ f = s j) : memB f s n = false := by
  unfold memB
  rw [List.any_eq_false]
  intro j hj
  have := h j (by simpa using hj)
  simpa using this

theorem str_eq {a b : ByteArray} (h : a = b) : (a.toList == b.toList) = true := by subst h; simp
theorem str_ne {a b : ByteArray} (h : ¬ a = b) : (a.toList == b.toList) = false := by
  rw [beq_eq_false_iff_ne]
  intro e
  apply h
  rw [ByteArray.toList_eq, ByteArray.toList_eq] at e
  cases a; cases b
  simp at e
  subst e
  rfl

set_option maxHeartbeats 400000 in
theorem sb_any (a : Option Addr) (n cap : Nat) (s : Nat → ByteArray) (w : World) (hs : Sees w a n s w.heap.size) (hn : n ≤ 1048576) (ht : tot s n ≤ 1048576) :
    Calls Try.prog 18 #[.slice a n cap] w fun e w' => e = .returned (.int .i64 ((16 * n + tot s n : Nat) : Int)) ∧ w = w' := by
  have HS := hide hs
  clear hs
  go_enter Try.func18, Try.ntmps18
  go_wp2
  go_loop [3, 4] (fun t i => ∃ k : Nat, k ≤ n ∧ i = .int .i64 k ∧ t = .int .i64 ((16 * n + tot s k : Nat) : Int)) (fun _ i => n - (intOf i).toNat)
  case atStart => exact ⟨0, Nat.zero_le _, rfl, by rw [tot_zero]; go_num⟩
  case round =>
    obtain ⟨k, hk, rfl, rfl⟩ := hrel
    have hm := tot_mono s hk
    by_cases hkn : k < n
    · obtain ⟨b, off, rfl, hb, hc⟩ := HS.out (by omega)
      have hck := hc k hkn
      have hm2 := tot_mono s (show k + 1 ≤ n by omega)
      have HT := hide (tot_succ s k)
      rw [tot_succ] at hm2
      clear hc
      go_wp2
      go_round
      case rel => exact ⟨k + 1, by omega, by go_num, by rw [HT.out]; go_num⟩
      case measure => simp [intOf]; omega
    · obtain rfl : k = n := by omega
      go_wp2
      go_ret
      exact ⟨rfl, rfl⟩

set_option maxHeartbeats 400000 in
theorem one_any (f : ByteArray) (a : Option Addr) (n cap : Nat) (s : Nat → ByteArray) (w : World) (hs : Sees w a n s w.heap.size) (hn : n ≤ 1048576) :
    Calls Try.prog 27 #[.string f, .slice a n cap] w fun e w' => e = .returned (.bool (memB f s n)) ∧ w = w' := by
  have HS := hide hs
  clear hs
  go_enter Try.func27, Try.ntmps27
  go_wp2
  go_loop [9] (fun i => ∃ k : Nat, k ≤ n ∧ i = .int .i64 k ∧ ∀ j, j < k → ¬ f = s j) (fun i => n - (intOf i).toNat)
  case atStart => exact ⟨0, Nat.zero_le _, rfl, by omega⟩
  case round =>
    obtain ⟨k, hk, rfl, hno⟩ := hrel
    have HNO := hide hno
    clear hno
    by_cases hkn : k < n
    · obtain ⟨b, off, rfl, hb, hc⟩ := HS.out (by omega)
      have hck := hc k hkn
      clear hc
      by_cases hf : f = s k
      · have HM := hide (memB_true hkn hf)
        have hb1 := str_eq hf
        clear hf
        go_wp2
        go_ret
        exact ⟨by rw [HM.out]; rfl, rfl⟩
      · have HF := hide hf
        have hb1 := str_ne hf
        clear hf
        go_wp2
        go_round
        case rel =>
          refine ⟨k + 1, by omega, by go_num, fun j hj => ?_⟩
          by_cases e : j = k
          · subst e; exact HF.out
          · exact HNO.out j (by omega)
        case measure => simp [intOf]; omega
    · obtain rfl : k = n := by omega
      go_wp2
      go_ret
      exact ⟨by rw [memB_false HNO.out]; rfl, rfl⟩

set_option maxHeartbeats 400000 in
theorem zone_any (f : ByteArray) (a : Option Addr) (n cap : Nat) (s : Nat → ByteArray) (w : World) (hs : Sees w a n s w.heap.size) (hn : n ≤ 1048576) :
    Calls Try.prog 20 #[.string f, .slice a n cap] w fun e w' => e = .returned (.bool (memB f s n)) ∧ w = w' := by
  have HS := hide hs
  clear hs
  go_enter Try.func20, Try.ntmps20
  go_wp2_with fail
  refine (one_any f a n cap s _ HS.out hn).mono ?_
  rintro e w' ⟨rfl, rfl⟩
  go_wp2
  go_ret
  exact ⟨rfl, rfl⟩

/-! ### zzToFates -/
/-- n cells: the first k of them 'f', the rest 'z' -/
def part (f : Nat → Value) (z : Value) (n k : Nat) : List Value := (List.range n).map fun j => if j < k then f j else z
theorem part_zero (f : Nat → Value) (z : Value) (n : Nat) : part f z n 0 = List.replicate n z := by
  unfold part
  apply List.ext_getElem <;> simp
theorem part_full (f : Nat → Value) (z : Value) (n : Nat) : part f z n n = (List.range n).map f := by
  unfold part
  apply List.map_congr_left
  intro j hj
  simp at hj
  simp [hj]
theorem part_set (f : Nat → Value) (z : Value) (n k : Nat) : part f z n (k + 1) = (part f z n k).set k (f k) := by
  unfold part
  apply List.ext_getElem
  · simp
  · intro i h1 h2
    simp only [List.getElem_set, List.getElem_map, List.getElem_range]
    by_cases e : k = i
    · subst e; simp
    · rw [if_neg e]
      by_cases e2 : i < k
      · rw [if_pos e2, if_pos (by omega)]
      · rw [if_neg e2, if_neg (by omega)]
theorem part_get (f : Nat → Value) (z : Value) (n k : Nat) (h : k < n) : (part f z n k)[k]? = some z := by
  unfold part
  simp [h]

/-- a list of strings as the cells of a []Fate -/
def svals (l : List ByteArray) : List Value := l.map Value.string
theorem svals_snoc (l : List ByteArray) (t : ByteArray) : svals (l ++ [t]) = svals l ++ [Value.string t] := by simp [svals]

/-- an owned row of strings is seen -/
theorem own_sees {B : Nat} {wr : World} {v : Value} {l : List ByteArray} {n : Nat} (hl : l.length = n) (hown : wr.ownsRow B 32 1 v n (svals l)) :
    ∃ a cap, v = .slice a n cap ∧ Sees wr a n (fun j => l.getD j ByteArray.empty) wr.heap.size := by
  subst hl
  rcases hown.2 with ⟨h1, h2⟩ | ⟨g, cap, cur, h1, h2, h3, _⟩
  · exact ⟨none, 0, by rw [h2]; exact h1, fun h => by omega⟩
  · refine ⟨some ⟨g, 0, none⟩, cap, h1, fun _ => ⟨g, 0, rfl, ?_, ?_⟩⟩
    · subst h1; exact (hown.lt g rfl).2
    · intro j hj
      rw [h1] at hown
      rw [Nat.zero_add, hown.cellAt j (by omega)]
      simp [svals, hj]

set_option maxHeartbeats 1600000 in
set_option maxRecDepth 1000000 in
theorem tf_any (a : Option Addr) (n cap : Nat) (s : Nat → ByteArray) (w : World) (hs : Sees w a n s w.heap.size) (hnil : a = none → n = 0 ∧ cap = 0) (hn : n ≤ 1048576) :
    Calls Try.prog 19 #[.slice a n cap] w fun e w' => ∃ a' c', e = .returned (.slice a' n c') ∧ Sees w' a' n s w'.heap.size ∧ Below w.heap.size w w' := by
  have q : ∀ (w : World) (a : Option Addr) (n c n' c' : Nat), (binOp .eql 29 (.slice a n c) (.slice none n' c')).run Try.prog w = .ok (.bool a.isNone) w := fun w a n c n' c' => Lib.run_eql_slice_nil w _ _ a n c n' c' Try.underlying29
  cases a with
  | none =>
    obtain ⟨rfl, rfl⟩ := hnil rfl
    clear hs
    go_enter Try.func19, Try.ntmps19
    go_wp2
    go_ret
    exact ⟨none, ⟨0, rfl⟩, fun h => by omega, Below.refl _ _⟩
  | some x =>
    clear hnil
    obtain ⟨b, off, spot⟩ := x
    have hsp : 0 < n → spot = none := fun h => by
      obtain ⟨_, _, h1, _⟩ := hs h
      simp at h1
      exact h1.2.2
    obtain ⟨i0, hi, hz0, hz1, hz2⟩ := info_parts info32
    have HS := hide hs
    have HSP := hide hsp
    clear hs hsp
    go_enter Try.func19, Try.ntmps19
    go_wp2_with (at_make; refine wpList_make_full _ rfl _ _ 33 rfl w.heap.size 32 i0 (.string ByteArray.empty) 1 Try.underlying33 hi hz0 hz1 _ _ _ _ n rfl rfl rfl rfl (by rw [hz2]; omega) (by unfold maxLen; omega) (Nat.le_refl _) ?_)
    intro w1 hown1 hgrow1
    have hst : w1.ownsRow w.heap.size 32 1 (.slice (some ⟨w.heap.size, 0, none⟩) n n) n (part (fun j => .string (s j)) (.string ByteArray.empty) n 0) := by
      rw [part_zero, ← toList_madeCells_one]; simpa [Value.cells] using hown1
    have hb1 : Below w.heap.size w w1 := (Below.refl _ _).grown hgrow1 (Nat.le_refl _) (fun k hk => by cases hk)
    clear hown1 hgrow1
    go_wp2
    go_loopw [4] (fun i wr => ∃ k : Nat, k ≤ n ∧ i = .int .i64 k ∧ wr.ownsRow w.heap.size 32 1 (.slice (some ⟨w.heap.size, 0, none⟩) n n) n (part (fun j => .string (s j)) (.string ByteArray.empty) n k) ∧ Below w.heap.size w wr) (fun i _ => n - (intOf i).toNat)
    case atStart => exact ⟨0, Nat.zero_le _, rfl, hst, hb1⟩
    case round =>
      clear hst hb1
      obtain ⟨k, hk, rfl, hown, hb⟩ := hrel
      by_cases hkn : k < n
      · obtain rfl := HSP.out (by omega)
        obtain ⟨b', off', he, hbl, hc⟩ := HS.out (by omega)
        simp at he
        obtain ⟨rfl, rfl⟩ := he
        have hck : wr.cell? ⟨b, off + k, none⟩ = some (.string (s k)) := (hb.cell (by exact hbl)).trans (hc k hkn)
        have hco : wr.cell? ⟨w.heap.size, k, none⟩ = some (.string ByteArray.empty) := by rw [hown.cellAt k (by omega)]; exact part_get _ _ _ _ hkn
        have hfr := hown.frozenAt k
        have hst := (hown.stored k (.string (s k))).1
        rw [← part_set (fun j => .string (s j))] at hst
        have HST := hide hst
        clear hst hc
        go_wp2
        go_roundw
        case rel => exact ⟨k + 1, by omega, by go_num, HST.out, hb.setCell (Nat.le_refl _) _⟩
        case measure => simp [intOf]; omega
      · obtain rfl : k = n := by omega
        have hlt := (hown.lt w.heap.size rfl).2
        have hc : ∀ j, j < k → wr.cell? ⟨w.heap.size, 0 + j, none⟩ = some (.string (s j)) := fun j hj => by
          rw [Nat.zero_add, hown.cellAt j (by omega), part_full]
          simp [hj]
        have HC := hide hc
        clear hc
        go_wp2
        go_ret
        exact ⟨_, _, rfl, fun _ => ⟨_, _, rfl, hlt, HC.out⟩, hb⟩

end Go.Proofs.Qxb6000578a.St
