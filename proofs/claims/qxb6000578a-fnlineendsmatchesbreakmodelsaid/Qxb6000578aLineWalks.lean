/-
  THE WALKS of 'lineEnds', 'ZZlineEnds', 'zzCloneBytes'.
-/
import Derived.Test.Qxb6000578aRows
import Derived.Test.Qxb6000578aLines
import Derived.WalkKit
import Derived.ProofKit
import Derived.WalkSpells
import Derived.Lib.SliceRun
import Derived.Below
import Derived.Outline
namespace Go.Proofs.Qxb6000578a
open Go.RowKit

theorem Hid.intro {p : Prop} (h : p) : Hid p := h

theorem Try.info3 : (Try.prog.info? 3).map (fun i => (i.zero, i.size, i.bytes)) = some (some (.int .i64 0), 1, 8) := by kernel_rfl
theorem Try.info5 : (Try.prog.info? 5).map (fun i => (i.zero, i.size, i.bytes)) = some (some (.int .u8 0), 1, 1) := by kernel_rfl

/-- a list of positions as the cells of an []int -/
def vals (l : List Nat) : List Value := l.map fun j : Nat => Value.int .i64 (j : Int)
theorem vals_snoc (l : List Nat) (j : Nat) : vals (l ++ [j]) = vals l ++ [Value.int .i64 (j : Int)] := by simp [vals]

/-- what an append of one number does to the relation -/
theorem rel_app {B : Nat} {w wr w1 : World} {v v' : Value} {l l' : List Nat} {j : Nat} {x : Int} {o : Obj} (hown : wr.ownsRow B 3 1 v l.length (vals l)) (hb : Below B w wr) (hB : B ≤ wr.heap.size)
    (hown' : w1.ownsRow B 3 1 v' (l.length + 1) (vals l ++ [Value.int .i64 x])) (hgrow : (wr.alloc o).grownBy w1 v.ownBlock) (hx : x = (j : Int)) (hl : l' = l ++ [j]) :
    w1.ownsRow B 3 1 v' l'.length (vals l') ∧ Below B w w1 := by
  subst hx; subst hl
  refine ⟨by rw [vals_snoc]; simpa using hown', ?_⟩
  exact (hb.alloc hB o).grown hgrow (by simp; omega) (fun k hk => (hown.lt k hk).1)

/-- the form of an owned row of numbers -/
theorem own_form {B : Nat} {wr : World} {v : Value} {l : List Nat} (hown : wr.ownsRow B 3 1 v l.length (vals l)) :
    ∃ a cap, v = .slice a l.length cap ∧ (0 < l.length → ∃ g, a = some ⟨g, 0, none⟩ ∧ B ≤ g ∧ g < wr.heap.size ∧ ∀ j, j < l.length → wr.cell? ⟨g, j, none⟩ = some (.int .i64 (l.getD j 0 : Nat))) := by
  rcases hown.2 with ⟨h1, h2⟩ | ⟨g, cap, cur, h1, h2, h3, _⟩
  · exact ⟨none, 0, by rw [h2]; exact h1, fun h => by omega⟩
  · refine ⟨some ⟨g, 0, none⟩, cap, h1, fun _ => ⟨g, rfl, h2, ?_, ?_⟩⟩
    · subst h1; exact (hown.lt g rfl).2
    · intro j hj
      rw [h1] at hown
      rw [hown.cellAt j (by omega)]
      simp [vals, hj]

set_option maxHeartbeats 1600000 in
set_option maxRecDepth 1000000 in
theorem lineEnds_any (g n cap : Nat) (d : Nat → Int) (w : World) (hn : n ≤ 1048576) (hB : g < w.heap.size)
    (hc : ∀ j, j < n → w.cell? ⟨g, j, none⟩ = some (.int .u8 (d j))) :
    Calls Try.prog 26 #[.slice (some ⟨g, 0, none⟩) n cap] w fun e w' => ∃ v, e = .returned v ∧ w'.ownsRow w.heap.size 3 1 v (Le.E d n).length (vals (Le.E d n)) ∧ Below w.heap.size w w' := by
  obtain ⟨i0, hi, hz0, hz1, hz2⟩ := info_parts Try.info3
  go_enter Try.func26, Try.ntmps26
  go_wp2
  go_loopw [3, 4] (fun v i wr => ∃ k : Nat, k ≤ n ∧ i = .int .i64 k ∧ wr.ownsRow w.heap.size 3 1 v (Le.K d n k).length (vals (Le.K d n k)) ∧ Below w.heap.size w wr) (fun _ i _ => n - (intOf i).toNat)
  case atStart => exact ⟨0, Nat.zero_le _, rfl, World.ownsRow_nil _ _ _ _, Below.refl _ _⟩
  case round =>
    obtain ⟨k, hk, rfl, hown, hb⟩ := hrel
    have hsz := hb.size
    have hlen := Le.K_len d n k
    have AP : ∀ (m : Nat) (x : Int) (v' : Value) (w1 : World), x = (m : Int) → Le.K d n m = Le.K d n k ++ [m] → w1.ownsRow w.heap.size 3 1 v' ((Le.K d n k).length + 1) (vals (Le.K d n k) ++ [Value.int .i64 x]) → (wr.alloc (.cells #[.int .i64 x] 3)).grownBy w1 u3.ownBlock → w1.ownsRow w.heap.size 3 1 v' (Le.K d n m).length (vals (Le.K d n m)) ∧ Below w.heap.size w w1 :=
      fun m x v' w1 hx hl ho hg => rel_app hown hb hsz ho hg hx hl
    have HAP := Hid.intro AP
    clear AP
    by_cases hkn : k < n
    · have hck : wr.cell? ⟨g, k, none⟩ = some (.int .u8 (d k)) := (hb.cell (by exact hB)).trans (hc k hkn)
      by_cases h13 : d k = 13
      · by_cases hk1 : k + 1 < n
        · have hck1 : wr.cell? ⟨g, k + 1, none⟩ = some (.int .u8 (d (k + 1))) := (hb.cell (by exact hB)).trans (hc (k + 1) hk1)
          by_cases h10 : d (k + 1) = 10
          · have HK : Hid (Le.K d n (k + 2) = Le.K d n k ++ [k + 2]) := Le.K_crlf h13 hk1 h10
            go_wp2_with (at_builtin; refine wpList_append_own _ rfl _ _ 26 rfl w.heap.size 3 i0 (.int .i64 0) 1 8 Try.underlying26 hi hz0 hz1 hz2 rfl (by decide) _ _ _ rfl (hown.alloc _) ⟨wr.heap.size, 0, none⟩ 1 1 [.int .i64 ((k : Int) + 1 + 1)] rfl rfl (cell_one_new _ _ _) (by intro u hu; simp at hu; subst hu; rfl) (by unfold maxLen; omega) (by omega) (by simp; omega) ?_)
            intro v' w1 hown' hgrow _
            have R := HAP.out (k + 2) _ v' w1 (by omega) HK.out hown' hgrow
            clear hown' hgrow hown
            go_wp2
            go_roundw
            case rel => exact ⟨k + 2, by omega, by go_num, R.1, R.2⟩
            case measure => simp [intOf]; omega
          · have h10b : (d (k + 1) == 10) = false := by simpa using h10
            have HK : Hid (Le.K d n (k + 1) = Le.K d n k ++ [k + 1]) := Le.K_hit (Le.end_cr h13 h10)
            go_wp2_with (at_builtin; refine wpList_append_own _ rfl _ _ 26 rfl w.heap.size 3 i0 (.int .i64 0) 1 8 Try.underlying26 hi hz0 hz1 hz2 rfl (by decide) _ _ _ rfl (hown.alloc _) ⟨wr.heap.size, 0, none⟩ 1 1 [.int .i64 ((k : Int) + 1)] rfl rfl (cell_one_new _ _ _) (by intro u hu; simp at hu; subst hu; rfl) (by unfold maxLen; omega) (by omega) (by simp; omega) ?_)
            intro v' w1 hown' hgrow _
            have R := HAP.out (k + 1) _ v' w1 (by omega) HK.out hown' hgrow
            clear hown' hgrow hown
            go_wp2
            go_roundw
            case rel => exact ⟨k + 1, by omega, by go_num, R.1, R.2⟩
            case measure => simp [intOf]; omega
        · have HK : Hid (Le.K d n (k + 1) = Le.K d n k ++ [k + 1]) := Le.K_hit (Le.end_cr_last h13 hk1)
          go_wp2_with (at_builtin; refine wpList_append_own _ rfl _ _ 26 rfl w.heap.size 3 i0 (.int .i64 0) 1 8 Try.underlying26 hi hz0 hz1 hz2 rfl (by decide) _ _ _ rfl (hown.alloc _) ⟨wr.heap.size, 0, none⟩ 1 1 [.int .i64 ((k : Int) + 1)] rfl rfl (cell_one_new _ _ _) (by intro u hu; simp at hu; subst hu; rfl) (by unfold maxLen; omega) (by omega) (by simp; omega) ?_)
          intro v' w1 hown' hgrow _
          have R := HAP.out (k + 1) _ v' w1 (by omega) HK.out hown' hgrow
          clear hown' hgrow hown
          go_wp2
          go_roundw
          case rel => exact ⟨k + 1, by omega, by go_num, R.1, R.2⟩
          case measure => simp [intOf]; omega
      · have h13b : (d k == 13) = false := by simpa using h13
        by_cases h10 : d k = 10
        · have HK : Hid (Le.K d n (k + 1) = Le.K d n k ++ [k + 1]) := Le.K_hit (Le.end_lf h10)
          go_wp2_with (at_builtin; refine wpList_append_own _ rfl _ _ 26 rfl w.heap.size 3 i0 (.int .i64 0) 1 8 Try.underlying26 hi hz0 hz1 hz2 rfl (by decide) _ _ _ rfl (hown.alloc _) ⟨wr.heap.size, 0, none⟩ 1 1 [.int .i64 ((k : Int) + 1)] rfl rfl (cell_one_new _ _ _) (by intro u hu; simp at hu; subst hu; rfl) (by unfold maxLen; omega) (by omega) (by simp; omega) ?_)
          intro v' w1 hown' hgrow _
          have R := HAP.out (k + 1) _ v' w1 (by omega) HK.out hown' hgrow
          clear hown' hgrow hown
          go_wp2
          go_roundw
          case rel => exact ⟨k + 1, by omega, by go_num, R.1, R.2⟩
          case measure => simp [intOf]; omega
        · have h10b : (d k == 10) = false := by simpa using h10
          have HK : Hid (Le.K d n (k + 1) = Le.K d n k) := Le.K_miss (Le.end_no h13 h10)
          go_wp2
          go_roundw
          case rel => exact ⟨k + 1, by omega, by go_num, by rw [HK.out]; exact hown, hb⟩
          case measure => simp [intOf]; omega
    · have hkn' : k = n := by omega
      subst hkn'
      obtain ⟨a3, c3, hv, hcells⟩ := own_form hown
      have hAE : ∀ (x : Int) (v' : Value) (w1 : World), x = (k : Int) → (Le.K d k k = [] ∨ (Le.K d k k).getLastD 0 < k) → w1.ownsRow w.heap.size 3 1 v' ((Le.K d k k).length + 1) (vals (Le.K d k k) ++ [Value.int .i64 x]) → (wr.alloc (.cells #[.int .i64 x] 3)).grownBy w1 u3.ownBlock → w1.ownsRow w.heap.size 3 1 v' (Le.E d k).length (vals (Le.E d k)) ∧ Below w.heap.size w w1 :=
        fun x v' w1 hx hl ho hg => rel_app hown hb hsz ho hg hx (by unfold Le.E; rw [if_pos hl])
      have HAE := Hid.intro hAE
      clear hAE HAP
      subst hv
      by_cases hK : Le.K d k k = []
      · have hl0 : (Le.K d k k).length = 0 := by rw [hK]; rfl
        have HK := Hid.intro hK
        clear hK hcells
        have hl0' : (((Le.K d k k).length : Int) == 0) = true := by rw [hl0]; rfl
        have HL := Hid.intro hl0
        clear hl0
        go_wp2_with (at_builtin; refine wpList_append_own _ rfl _ _ 26 rfl w.heap.size 3 i0 (.int .i64 0) 1 8 Try.underlying26 hi hz0 hz1 hz2 rfl (by decide) _ _ _ rfl (hown.alloc _) ⟨wr.heap.size, 0, none⟩ 1 1 [.int .i64 (k : Int)] rfl rfl (cell_one_new _ _ _) (by intro u hu; simp at hu; subst hu; rfl) (by unfold maxLen; omega) (by omega) (by simp; omega) ?_)
        intro v' w1 hown' hgrow _
        have R := HAE.out _ v' w1 rfl (.inl HK.out) hown' hgrow
        clear hown' hgrow hown
        go_wp2
        go_ret
        exact ⟨_, rfl, R.1, R.2⟩
      · have hl0 : 0 < (Le.K d k k).length := List.length_pos_iff.2 hK
        obtain ⟨g3, hg3, hBg, hgl, hcs⟩ := hcells hl0
        subst hg3
        have hlast : wr.cell? ⟨g3, (Le.K d k k).length - 1, none⟩ = some (.int .i64 ((Le.K d k k).getLastD 0 : Nat)) := by
          rw [hcs _ (by omega)]
          congr 3
          rw [List.getLastD_eq_getLast?, List.getLast?_eq_getElem?, List.getD_eq_getElem?_getD]
        clear hcs hK hcells
        have hl0' : (((Le.K d k k).length : Int) == 0) = false := by rw [beq_eq_false_iff_ne]; omega
        generalize hL : (Le.K d k k).getLastD 0 = L at *
        have HL := Hid.intro hL
        clear hL
        by_cases hlt : L < k
        · go_wp2_with (at_builtin; refine wpList_append_own _ rfl _ _ 26 rfl w.heap.size 3 i0 (.int .i64 0) 1 8 Try.underlying26 hi hz0 hz1 hz2 rfl (by decide) _ _ _ rfl (hown.alloc _) ⟨wr.heap.size, 0, none⟩ 1 1 [.int .i64 (k : Int)] rfl rfl (cell_one_new _ _ _) (by intro u hu; simp at hu; subst hu; rfl) (by unfold maxLen; omega) (by omega) (by simp; omega) ?_)
          intro v' w1 hown' hgrow _
          have R := HAE.out _ v' w1 rfl (.inr hlt) hown' hgrow
          clear hown' hgrow hown
          go_wp2
          go_ret
          exact ⟨_, rfl, R.1, R.2⟩
        · go_wp2
          have hE : Le.E d k = Le.K d k k := by
            unfold Le.E
            rw [if_neg]
            rintro (h | h)
            · rw [h] at hl0; simp at hl0
            · rw [HL.out] at h; exact hlt h
          go_ret
          exact ⟨_, rfl, by rw [hE]; exact hown, hb⟩

set_option maxHeartbeats 400000 in
theorem lineEnds_nil (d : Nat → Int) (w : World) :
    Calls Try.prog 26 #[.slice none 0 0] w fun e w' => ∃ v, e = .returned v ∧ w'.ownsRow w.heap.size 3 1 v (Le.E d 0).length (vals (Le.E d 0)) ∧ Below w.heap.size w w' := by
  obtain ⟨i0, hi, hz0, hz1, hz2⟩ := info_parts Try.info3
  rw [Le.E_zero]
  go_enter Try.func26, Try.ntmps26
  go_wp2
  refine wp_loop_rounds 1 ?_
  rw [rounds_succ]
  go_wp2_with (at_builtin; refine wpList_append_own _ rfl _ _ 26 rfl w.heap.size 3 i0 (.int .i64 0) 1 8 Try.underlying26 hi hz0 hz1 hz2 rfl (by decide) _ _ _ rfl ((World.ownsRow_nil w _ _ _).alloc _) ⟨w.heap.size, 0, none⟩ 1 1 [.int .i64 0] rfl rfl (cell_one_new _ _ _) (by intro u hu; simp at hu; subst hu; rfl) (by unfold maxLen; omega) (by omega) (by simp) ?_)
  intro v' w1 hown' hgrow _
  have R := rel_app (l := []) (l' := [0]) (j := 0) (w := w) (World.ownsRow_nil w _ _ _) (Below.refl _ _) (Nat.le_refl _) hown' hgrow rfl rfl
  clear hown' hgrow
  go_wp2
  go_ret
  exact ⟨_, rfl, R.1, R.2⟩

/-! ### zzCloneBytes -/
/-- n cells: the first k of them 'f', the rest 'z' -/
def part (f : Nat → Value) (z : Value) (n k : Nat) : List Value := (List.range n).map fun j => if j < k then f j else z
theorem part_zero (f : Nat → Value) (z : Value) (n : Nat) : part f z n 0 = List.replicate n z := by
  unfold part
  apply List.ext_getElem <;> simp
theorem part_full (f : Nat → Value) (z : Value) (n : Nat) : part f z n n = (List.range n).map f := by
  unfold part
  apply List.map_congr_left
  intro j hj
  simp at hj
  simp [hj]
theorem part_set (f : Nat → Value) (z : Value) (n k : Nat) : part f z n (k + 1) = (part f z n k).set k (f k) := by
  unfold part
  apply List.ext_getElem
  · simp
  · intro i h1 h2
    simp only [List.getElem_set, List.getElem_map, List.getElem_range]
    by_cases e : k = i
    · subst e; simp
    · rw [if_neg e]
      by_cases e2 : i < k
      · rw [if_pos e2, if_pos (by omega)]
      · rw [if_neg e2, if_neg (by omega)]
theorem part_get (f : Nat → Value) (z : Value) (n k : Nat) (h : k < n) : (part f z n k)[k]? = some z := by
  unfold part
  simp [h]

set_option maxHeartbeats 1600000 in
set_option maxRecDepth 1000000 in
theorem clone_nil (w : World) : Calls Try.prog 11 #[.slice none 0 0] w fun e w' => e = .returned (.slice none 0 0) ∧ w' = w := by
  have q : ∀ (w : World) (a : Option Addr) (n c n' c' : Nat), (binOp .eql 22 (.slice a n c) (.slice none n' c')).run Try.prog w = .ok (.bool a.isNone) w := fun w a n c n' c' => Lib.run_eql_slice_nil w _ _ a n c n' c' Try.underlying22
  go_enter Try.func11, Try.ntmps11
  go_wp2
  go_ret
  exact ⟨rfl, rfl⟩

set_option maxHeartbeats 1600000 in
set_option maxRecDepth 1000000 in
theorem clone_any (b off n cap : Nat) (spot : Option Nat) (d : Nat → Int) (w : World) (hn : n ≤ 1048576) (hs : 0 < n → spot = none)
    (hc : ∀ j, j < n → w.cell? ⟨b, off + j, none⟩ = some (.int .u8 (d j))) :
    Calls Try.prog 11 #[.slice (some ⟨b, off, spot⟩) n cap] w fun e w' => e = .returned (.slice (some ⟨w.heap.size, 0, none⟩) n n) ∧ w'.ownsRow w.heap.size 5 1 (.slice (some ⟨w.heap.size, 0, none⟩) n n) n ((List.range n).map fun j => .int .u8 (d j)) ∧ Below w.heap.size w w' := by
  obtain ⟨i0, hi, hz0, hz1, hz2⟩ := info_parts Try.info5
  have q : ∀ (w : World) (a : Option Addr) (n c n' c' : Nat), (binOp .eql 22 (.slice a n c) (.slice none n' c')).run Try.prog w = .ok (.bool a.isNone) w := fun w a n c n' c' => Lib.run_eql_slice_nil w _ _ a n c n' c' Try.underlying22
  go_enter Try.func11, Try.ntmps11
  go_wp2_with (at_make; refine wpList_make_full _ rfl _ _ 22 rfl w.heap.size 5 i0 (.int .u8 0) 1 Try.underlying22 hi hz0 hz1 _ _ _ _ n rfl rfl rfl rfl (by rw [hz2]; omega) (by unfold maxLen; omega) (Nat.le_refl _) ?_)
  intro w1 hown1 hgrow1
  have hst : w1.ownsRow w.heap.size 5 1 (.slice (some ⟨w.heap.size, 0, none⟩) n n) n (part (fun j => .int .u8 (d j)) (.int .u8 0) n 0) := by
    rw [part_zero, ← toList_madeCells_one]; simpa [Value.cells] using hown1
  have hb1 : Below w.heap.size w w1 := (Below.refl _ _).grown hgrow1 (Nat.le_refl _) (fun k hk => by cases hk)
  clear hown1 hgrow1
  go_wp2
  go_loopw [4] (fun i wr => ∃ k : Nat, k ≤ n ∧ i = .int .i64 k ∧ wr.ownsRow w.heap.size 5 1 (.slice (some ⟨w.heap.size, 0, none⟩) n n) n (part (fun j => .int .u8 (d j)) (.int .u8 0) n k) ∧ Below w.heap.size w wr) (fun i _ => n - (intOf i).toNat)
  case atStart => exact ⟨0, Nat.zero_le _, rfl, hst, hb1⟩
  case round =>
    clear hst hb1
    obtain ⟨k, hk, rfl, hown, hb⟩ := hrel
    by_cases hkn : k < n
    · obtain rfl := hs (by omega)
      have hbl : b < w.heap.size := World.block_lt_of_cell? w _ (hc k hkn)
      have hck : wr.cell? ⟨b, off + k, none⟩ = some (.int .u8 (d k)) := (hb.cell (by exact hbl)).trans (hc k hkn)
      have hco : wr.cell? ⟨w.heap.size, k, none⟩ = some (.int .u8 0) := by rw [hown.cellAt k (by omega)]; exact part_get _ _ _ _ hkn
      have hfr := hown.frozenAt k
      have hst := (hown.stored k (.int .u8 (d k))).1
      rw [← part_set (fun j => .int .u8 (d j))] at hst
      have HST := Hid.intro hst
      clear hst
      go_wp2
      go_roundw
      case rel => exact ⟨k + 1, by omega, by go_num, HST.out, hb.setCell (Nat.le_refl _) _⟩
      case measure => simp [intOf]; omega
    · obtain rfl : k = n := by omega
      go_wp2
      go_ret
      exact ⟨rfl, by rw [← part_full (fun j => .int .u8 (d j)) (.int .u8 0)]; exact hown, hb⟩

end Go.Proofs.Qxb6000578a
