/-
  THE WALKS of 'zzLineEndsModel', 'zzSameInts'; the law FnLineEndsMatchesBreakModel.
-/
import Derived.Test.Qxb6000578aCut
import Derived.WalkSmall
namespace Go.Proofs.Qxb6000578a
open Go.RowKit

theorem Le.K_last {d : Nat → Int} {n : Nat} (h : 0 < (Le.K d n n).length) : (Le.K d n n).getLastD 0 ≤ n := by
  have h3 : Le.K d n n ≠ [] := fun e => by rw [e] at h; simp at h
  have h4 : (Le.K d n n).getLast h3 ∈ Le.K d n n := List.getLast_mem h3
  rw [List.getLastD_eq_getLast?, List.getLast?_eq_some_getLast h3]
  exact (Le.K_mem.1 h4).1.2

theorem Le.end_crlf {d : Nat → Int} {n k : Nat} (h : d k = 13) (hn : k + 1 < n) (hl : d (k + 1) = 10) : Le.isEnd d n (k + 1) = false := by simp [Le.isEnd, h, hn, hl]

set_option maxHeartbeats 1600000 in
set_option maxRecDepth 1000000 in
theorem model_any (g n cap : Nat) (d : Nat → Int) (w : World) (hn : n ≤ 1048576) (hB : g < w.heap.size)
    (hc : ∀ j, j < n → w.cell? ⟨g, j, none⟩ = some (.int .u8 (d j))) :
    Calls Try.prog 14 #[.slice (some ⟨g, 0, none⟩) n cap] w fun e w' => ∃ v, e = .returned v ∧ w'.ownsRow w.heap.size 3 1 v (Le.E d n).length (vals (Le.E d n)) ∧ Below w.heap.size w w' := by
  obtain ⟨i0, hi, hz0, hz1, hz2⟩ := info_parts Try.info3
  go_enter Try.func14, Try.ntmps14
  go_wp2
  go_loopw [3, 4] (fun v i wr => ∃ k : Nat, k ≤ n ∧ i = .int .i64 ((k : Int) + 1) ∧ wr.ownsRow w.heap.size 3 1 v (Le.K d n k).length (vals (Le.K d n k)) ∧ Below w.heap.size w wr) (fun _ i _ => n + 1 - (intOf i).toNat)
  case atStart => exact ⟨0, Nat.zero_le _, rfl, World.ownsRow_nil _ _ _ _, Below.refl _ _⟩
  case round =>
    obtain ⟨k, hk, rfl, hown, hb⟩ := hrel
    have hsz := hb.size
    have hlen := Le.K_len d n k
    have AP : ∀ (m : Nat) (x : Int) (v' : Value) (w1 : World), x = (m : Int) → Le.K d n m = Le.K d n k ++ [m] → w1.ownsRow w.heap.size 3 1 v' ((Le.K d n k).length + 1) (vals (Le.K d n k) ++ [Value.int .i64 x]) → (wr.alloc (.cells #[.int .i64 x] 3)).grownBy w1 u3.ownBlock → w1.ownsRow w.heap.size 3 1 v' (Le.K d n m).length (vals (Le.K d n m)) ∧ Below w.heap.size w w1 :=
      fun m x v' w1 hx hl ho hg => rel_app hown hb hsz ho hg hx hl
    have HAP := Hid.intro AP
    clear AP
    by_cases hkn : k < n
    · have hck : wr.cell? ⟨g, k, none⟩ = some (.int .u8 (d k)) := (hb.cell (by exact hB)).trans (hc k hkn)
      by_cases h10 : d k = 10
      · have HK : Hid (Le.K d n (k + 1) = Le.K d n k ++ [k + 1]) := Le.K_hit (Le.end_lf h10)
        go_wp2_with (at_builtin; refine wpList_append_own _ rfl _ _ 26 rfl w.heap.size 3 i0 (.int .i64 0) 1 8 Try.underlying26 hi hz0 hz1 hz2 rfl (by decide) _ _ _ rfl (hown.alloc _) ⟨wr.heap.size, 0, none⟩ 1 1 [.int .i64 ((k : Int) + 1)] rfl rfl (cell_one_new _ _ _) (by intro u hu; simp at hu; subst hu; rfl) (by unfold maxLen; omega) (by omega) (by simp; omega) ?_)
        intro v' w1 hown' hgrow _
        have R := HAP.out (k + 1) _ v' w1 (by omega) HK.out hown' hgrow
        clear hown' hgrow hown
        go_wp2
        go_roundw
        case rel => exact ⟨k + 1, by omega, by go_num, R.1, R.2⟩
        case measure => simp [intOf]; omega
      · have h10b : (d k == 10) = false := by simpa using h10
        by_cases h13 : d k = 13
        · by_cases hk1 : k + 1 < n
          · have hck1 : wr.cell? ⟨g, k + 1, none⟩ = some (.int .u8 (d (k + 1))) := (hb.cell (by exact hB)).trans (hc (k + 1) hk1)
            have hneb : ((k : Int) + 1 == (n : Int)) = false := by rw [beq_eq_false_iff_ne]; omega
            by_cases h10' : d (k + 1) = 10
            · have HK : Hid (Le.K d n (k + 1) = Le.K d n k) := Le.K_miss (Le.end_crlf h13 hk1 h10')
              go_wp2
              go_roundw
              case rel => exact ⟨k + 1, by omega, by go_num, by rw [HK.out]; exact hown, hb⟩
              case measure => simp [intOf]; omega
            · have h10c : (d (k + 1) == 10) = false := by simpa using h10'
              have HK : Hid (Le.K d n (k + 1) = Le.K d n k ++ [k + 1]) := Le.K_hit (Le.end_cr h13 h10')
              go_wp2_with (at_builtin; refine wpList_append_own _ rfl _ _ 26 rfl w.heap.size 3 i0 (.int .i64 0) 1 8 Try.underlying26 hi hz0 hz1 hz2 rfl (by decide) _ _ _ rfl (hown.alloc _) ⟨wr.heap.size, 0, none⟩ 1 1 [.int .i64 ((k : Int) + 1)] rfl rfl (cell_one_new _ _ _) (by intro u hu; simp at hu; subst hu; rfl) (by unfold maxLen; omega) (by omega) (by simp; omega) ?_)
              intro v' w1 hown' hgrow _
              have R := HAP.out (k + 1) _ v' w1 (by omega) HK.out hown' hgrow
              clear hown' hgrow hown
              go_wp2
              go_roundw
              case rel => exact ⟨k + 1, by omega, by go_num, R.1, R.2⟩
              case measure => simp [intOf]; omega
          · have hneb : ((k : Int) + 1 == (n : Int)) = true := by rw [beq_iff_eq]; omega
            have HK : Hid (Le.K d n (k + 1) = Le.K d n k ++ [k + 1]) := Le.K_hit (Le.end_cr_last h13 hk1)
            go_wp2_with (at_builtin; refine wpList_append_own _ rfl _ _ 26 rfl w.heap.size 3 i0 (.int .i64 0) 1 8 Try.underlying26 hi hz0 hz1 hz2 rfl (by decide) _ _ _ rfl (hown.alloc _) ⟨wr.heap.size, 0, none⟩ 1 1 [.int .i64 ((k : Int) + 1)] rfl rfl (cell_one_new _ _ _) (by intro u hu; simp at hu; subst hu; rfl) (by unfold maxLen; omega) (by omega) (by simp; omega) ?_)
            intro v' w1 hown' hgrow _
            have R := HAP.out (k + 1) _ v' w1 (by omega) HK.out hown' hgrow
            clear hown' hgrow hown
            go_wp2
            go_roundw
            case rel => exact ⟨k + 1, by omega, by go_num, R.1, R.2⟩
            case measure => simp [intOf]; omega
        · have h13b : (d k == 13) = false := by simpa using h13
          have HK : Hid (Le.K d n (k + 1) = Le.K d n k) := Le.K_miss (Le.end_no h13 h10)
          go_wp2
          go_roundw
          case rel => exact ⟨k + 1, by omega, by go_num, by rw [HK.out]; exact hown, hb⟩
          case measure => simp [intOf]; omega
    · have hkn' : k = n := by omega
      subst hkn'
      obtain ⟨a3, c3, hv, hcells⟩ := own_form hown
      have hAE : ∀ (x : Int) (v' : Value) (w1 : World), x = (k : Int) → (Le.K d k k = [] ∨ (Le.K d k k).getLastD 0 < k) → w1.ownsRow w.heap.size 3 1 v' ((Le.K d k k).length + 1) (vals (Le.K d k k) ++ [Value.int .i64 x]) → (wr.alloc (.cells #[.int .i64 x] 3)).grownBy w1 u3.ownBlock → w1.ownsRow w.heap.size 3 1 v' (Le.E d k).length (vals (Le.E d k)) ∧ Below w.heap.size w w1 :=
        fun x v' w1 hx hl ho hg => rel_app hown hb hsz ho hg hx (by unfold Le.E; rw [if_pos hl])
      have HAE := Hid.intro hAE
      clear hAE HAP
      subst hv
      by_cases hK : Le.K d k k = []
      · have hl0 : (Le.K d k k).length = 0 := by rw [hK]; rfl
        have HK := Hid.intro hK
        clear hK hcells
        have hl0' : (((Le.K d k k).length : Int) == 0) = true := by rw [hl0]; rfl
        have HL := Hid.intro hl0
        clear hl0
        go_wp2_with (at_builtin; refine wpList_append_own _ rfl _ _ 26 rfl w.heap.size 3 i0 (.int .i64 0) 1 8 Try.underlying26 hi hz0 hz1 hz2 rfl (by decide) _ _ _ rfl (hown.alloc _) ⟨wr.heap.size, 0, none⟩ 1 1 [.int .i64 (k : Int)] rfl rfl (cell_one_new _ _ _) (by intro u hu; simp at hu; subst hu; rfl) (by unfold maxLen; omega) (by omega) (by simp; omega) ?_)
        intro v' w1 hown' hgrow _
        have R := HAE.out _ v' w1 rfl (.inl HK.out) hown' hgrow
        clear hown' hgrow hown
        go_wp2
        go_ret
        exact ⟨_, rfl, R.1, R.2⟩
      · have hl0 : 0 < (Le.K d k k).length := List.length_pos_iff.2 hK
        obtain ⟨g3, hg3, hBg, hgl, hcs⟩ := hcells hl0
        subst hg3
        have hlast : wr.cell? ⟨g3, (Le.K d k k).length - 1, none⟩ = some (.int .i64 ((Le.K d k k).getLastD 0 : Nat)) := by
          rw [hcs _ (by omega)]
          congr 3
          rw [List.getLastD_eq_getLast?, List.getLast?_eq_getElem?, List.getD_eq_getElem?_getD]
        clear hcs hK hcells
        have hl0' : (((Le.K d k k).length : Int) == 0) = false := by rw [beq_eq_false_iff_ne]; omega
        have hLle := Le.K_last hl0
        generalize hL : (Le.K d k k).getLastD 0 = L at *
        have HL := Hid.intro hL
        clear hL
        by_cases hlt : L < k
        · have hltb : ((L : Int) == (k : Int)) = false := by rw [beq_eq_false_iff_ne]; omega
          go_wp2_with (at_builtin; refine wpList_append_own _ rfl _ _ 26 rfl w.heap.size 3 i0 (.int .i64 0) 1 8 Try.underlying26 hi hz0 hz1 hz2 rfl (by decide) _ _ _ rfl (hown.alloc _) ⟨wr.heap.size, 0, none⟩ 1 1 [.int .i64 (k : Int)] rfl rfl (cell_one_new _ _ _) (by intro u hu; simp at hu; subst hu; rfl) (by unfold maxLen; omega) (by omega) (by simp; omega) ?_)
          intro v' w1 hown' hgrow _
          have R := HAE.out _ v' w1 rfl (.inr hlt) hown' hgrow
          clear hown' hgrow hown
          go_wp2
          go_ret
          exact ⟨_, rfl, R.1, R.2⟩
        · have hltb : ((L : Int) == (k : Int)) = true := by rw [beq_iff_eq]; omega
          go_wp2
          have hE : Le.E d k = Le.K d k k := by
            unfold Le.E
            rw [if_neg]
            rintro (h | h)
            · rw [h] at hl0; simp at hl0
            · rw [HL.out] at h; exact hlt h
          go_ret
          exact ⟨_, rfl, by rw [hE]; exact hown, hb⟩

set_option maxHeartbeats 400000 in
theorem model_nil (d : Nat → Int) (w : World) :
    Calls Try.prog 14 #[.slice none 0 0] w fun e w' => ∃ v, e = .returned v ∧ w'.ownsRow w.heap.size 3 1 v (Le.E d 0).length (vals (Le.E d 0)) ∧ Below w.heap.size w w' := by
  obtain ⟨i0, hi, hz0, hz1, hz2⟩ := info_parts Try.info3
  rw [Le.E_zero]
  go_enter Try.func14, Try.ntmps14
  go_wp2
  refine wp_loop_rounds 1 ?_
  rw [rounds_succ]
  go_wp2_with (at_builtin; refine wpList_append_own _ rfl _ _ 26 rfl w.heap.size 3 i0 (.int .i64 0) 1 8 Try.underlying26 hi hz0 hz1 hz2 rfl (by decide) _ _ _ rfl ((World.ownsRow_nil w _ _ _).alloc _) ⟨w.heap.size, 0, none⟩ 1 1 [.int .i64 0] rfl rfl (cell_one_new _ _ _) (by intro u hu; simp at hu; subst hu; rfl) (by unfold maxLen; omega) (by omega) (by simp) ?_)
  intro v' w1 hown' hgrow _
  have R := rel_app (l := []) (l' := [0]) (j := 0) (w := w) (World.ownsRow_nil w _ _ _) (Below.refl _ _) (Nat.le_refl _) hown' hgrow rfl rfl
  clear hown' hgrow
  go_wp2
  go_ret
  exact ⟨_, rfl, R.1, R.2⟩

set_option maxHeartbeats 400000 in
theorem same_any (g1 g2 m c1 c2 : Nat) (f : Nat → Int) (w : World) (hm : m ≤ 1048577) (hb1 : g1 < w.heap.size) (hb2 : g2 < w.heap.size)
    (h1 : ∀ j, j < m → w.cell? ⟨g1, j, none⟩ = some (.int .i64 (f j))) (h2 : ∀ j, j < m → w.cell? ⟨g2, j, none⟩ = some (.int .i64 (f j))) :
    Calls Try.prog 12 #[.slice (some ⟨g1, 0, none⟩) m c1, .slice (some ⟨g2, 0, none⟩) m c2] w fun e w' => e = .returned (.bool true) ∧ Below w.heap.size w w' := by
  have H1 := Hid.intro h1
  have H2 := Hid.intro h2
  clear h1 h2
  go_enter Try.func12, Try.ntmps12
  go_wp2
  go_loopw [5] (fun i wr => ∃ k : Nat, k ≤ m ∧ i = .int .i64 k ∧ Below w.heap.size w wr) (fun i _ => m - (intOf i).toNat)
  case atStart => exact ⟨0, Nat.zero_le _, rfl, Below.refl _ _⟩
  case round =>
    obtain ⟨k, hk, rfl, hb⟩ := hrel
    by_cases hkm : k < m
    · have e1 : wr.cell? ⟨g1, k, none⟩ = some (.int .i64 (f k)) := (hb.cell (by exact hb1)).trans (H1.out k hkm)
      have e2 : wr.cell? ⟨g2, k, none⟩ = some (.int .i64 (f k)) := (hb.cell (by exact hb2)).trans (H2.out k hkm)
      have p0 : (0 : Int) ≤ (k : Int) := by omega
      have p1 : (k : Int) < (m : Int) := by omega
      go_wp2
      go_quiet (fail)
      go_wp2
      go_roundw
      case rel => exact ⟨k + 1, by omega, by go_num, below_drewN hb _⟩
      case measure => simp [intOf]; omega
    · go_wp2
      go_ret
      exact ⟨rfl, hb⟩

theorem bytes10 (a : Option Addr) (n cap : Nat) (w : World) (hn : n ≤ 1048576) : Calls Try.prog 10 #[.slice a n cap] w fun e w' => e = .returned (.bool true) ∧ w = w' := by
  go_enter Try.func10, Try.ntmps10
  go_wp2
  go_ret
  exact ⟨rfl, rfl⟩

theorem model_long (a : Option Addr) (n cap : Nat) (w : World) (hn : 1048576 < n) (hm : n ≤ maxLen) :
    Calls Try.prog 3 #[.slice a n cap] w fun e w' => e = .returned (.bool true) ∧ Below w.heap.size w w' := by
  unfold maxLen at hm
  go_enter Try.func3, Try.ntmps3
  go_wp2
  go_ret
  exact ⟨rfl, Below.refl _ _⟩

/-- the two rows of ends, compared -/
theorem same_ends {d : Nat → Int} {n : Nat} {w1 w2 : World} {v1 v2 : Value} {B : Nat} (hn : n ≤ 1048576) (h1 : w1.ownsRow B 3 1 v1 (Le.E d n).length (vals (Le.E d n)))
    (h2 : w2.ownsRow w1.heap.size 3 1 v2 (Le.E d n).length (vals (Le.E d n))) (hb : Below w1.heap.size w1 w2) :
    Calls Try.prog 12 #[v1, v2] w2 fun e w' => e = .returned (.bool true) ∧ Below w2.heap.size w2 w' := by
  obtain ⟨g1, c1, rfl, _, e1⟩ := ends_form h1
  obtain ⟨g2, c2, rfl, _, e2⟩ := ends_form h2
  have l1 := (h1.lt g1 rfl).2
  have l2 := (h2.lt g2 rfl).2
  have hl := Le.E_len d n
  have hsz := hb.size
  exact same_any g1 g2 (Le.E d n).length c1 c2 (fun j => (Le.at_ d n j : Nat)) w2 (by omega) (by omega) l2 (fun j hj => (hb.cell (by exact l1)).trans (e1 j hj)) e2

set_option maxHeartbeats 400000 in
theorem model_law_nil (w : World) :
    Calls Try.prog 3 #[.slice none 0 0] w fun e w' => e = .returned (.bool true) ∧ Below w.heap.size w w' := by
  go_enter Try.func3, Try.ntmps3
  go_wp2_with (first | (go_at_call 11; refine (clone_nil _).mono ?_; rintro e w' ⟨rfl, rfl⟩) | (go_at_call 10; refine (bytes10 _ _ _ _ (by omega)).mono ?_; rintro e w' ⟨rfl, rfl⟩))
  refine (zz_nil (fun _ => 0) _).mono ?_
  rintro e w1 ⟨v1, rfl, h1, hb1⟩
  go_wp2_with fail
  refine (model_nil (fun _ => 0) _).mono ?_
  rintro e w2 ⟨v2, rfl, h2, hb2⟩
  have C := Hid.intro (same_ends (by omega) h1 h2 hb2)
  have hb := hb1.trans (hb2.mono hb1.size)
  clear h1 h2 hb1 hb2
  go_wp2_with fail
  refine C.out.mono ?_
  rintro e w3 ⟨rfl, hb3⟩
  go_wp2
  go_ret
  exact ⟨rfl, hb.trans (hb3.mono hb.size)⟩

set_option maxHeartbeats 400000 in
theorem model_law (b off n cap : Nat) (spot : Option Nat) (d : Nat → Int) (w : World) (hn : n ≤ 1048576) (hs : 0 < n → spot = none)
    (hc : ∀ j, j < n → w.cell? ⟨b, off + j, none⟩ = some (.int .u8 (d j))) :
    Calls Try.prog 3 #[.slice (some ⟨b, off, spot⟩) n cap] w fun e w' => e = .returned (.bool true) ∧ Below w.heap.size w w' := by
  have CL := Hid.intro (clone_any b off n cap spot d w hn hs hc)
  clear hs hc
  go_enter Try.func3, Try.ntmps3
  go_wp2_with (first | (go_at_call 10; refine (bytes10 _ _ _ _ (by omega)).mono ?_; rintro e w' ⟨rfl, rfl⟩))
  refine CL.out.mono ?_
  rintro e w0 ⟨rfl, h0, hb0⟩
  have hlt := (h0.lt w.heap.size rfl).2
  have hc0 : ∀ j, j < n → w0.cell? ⟨w.heap.size, j, none⟩ = some (.int .u8 (d j)) := fun j hj => by rw [h0.cellAt j (by omega)]; simp [hj]
  have HC := Hid.intro hc0
  clear h0 hc0 CL
  go_wp2_with fail
  refine (zz_any w.heap.size n n d _ hn hlt HC.out).mono ?_
  rintro e w1 ⟨v1, rfl, h1, hb1⟩
  have hsz1 := hb1.size
  have HC1 : Hid (∀ j, j < n → w1.cell? ⟨w.heap.size, j, none⟩ = some (.int .u8 (d j))) := fun j hj => (hb1.cell (by exact hlt)).trans (HC.out j hj)
  go_wp2_with fail
  refine (model_any w.heap.size n n d _ hn (by omega) HC1.out).mono ?_
  rintro e w2 ⟨v2, rfl, h2, hb2⟩
  have C := Hid.intro (same_ends hn h1 h2 hb2)
  have hbb := hb0.trans (hb1.mono hb0.size)
  have hb := hbb.trans (hb2.mono hbb.size)
  clear h1 h2 hb1 hb2 HC HC1 hbb hb0
  go_wp2_with fail
  refine C.out.mono ?_
  rintro e w3 ⟨rfl, hb3⟩
  go_wp2
  go_ret
  exact ⟨rfl, hb.trans (hb3.mono hb.size)⟩

end Go.Proofs.Qxb6000578a
