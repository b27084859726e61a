/-
  THE WALK of FnLuhnCompletesValidUnique.
-/
import Derived.Test.Qxb6000387aLuhnWalks
import Derived.Deep.QuietTactic
import Derived.BigQuiet
import Derived.WalkSmall
namespace Go.Proofs.Qxb6000387a.Lu
open Go.RowKit

theorem bytes8 (a : Option Addr) (n cap : Nat) (w : World) (hn : n ≤ 1048576) : Calls Try.prog 8 #[.slice a n cap] w fun e w' => e = .returned (.bool true) ∧ w = w' := by
  go_enter Try.func8, Try.ntmps8
  go_wp2
  go_ret
  exact ⟨rfl, rfl⟩

theorem law_long (a : Option Addr) (n cap : Nat) (w : World) (hn : 65536 < n) (hm : n ≤ maxLen) :
    Calls Try.prog 3 #[.slice a n cap] w fun e w' => e = .returned (.bool true) ∧ Below w.heap.size w w' := by
  unfold maxLen at hm
  by_cases h : 1048576 < n
  · go_enter Try.func3, Try.ntmps3
    go_wp2
    go_ret
    exact ⟨rfl, Below.refl _ _⟩
  · go_enter Try.func3, Try.ntmps3
    go_wp2
    go_ret
    exact ⟨rfl, Below.refl _ _⟩

theorem law_bad (a : Option Addr) (n cap : Nat) (d : Nat → Int) (w : World) (hs : Sees w a n d w.heap.size) (hn : n ≤ 65536) (hd : ¬ Digits d n) :
    Calls Try.prog 3 #[.slice a n cap] w fun e w' => e = .returned (.bool true) ∧ Below w.heap.size w w' := by
  have C := hide (all_no a n cap d w hs (by omega) hd)
  clear hs hd
  go_enter Try.func3, Try.ntmps3
  go_wp2_with fail
  refine (bytes8 _ _ _ _ (by omega)).mono ?_
  rintro e w' ⟨rfl, rfl⟩
  go_wp2_with fail
  refine C.out.mono ?_
  rintro e w' ⟨rfl, rfl⟩
  go_wp2
  go_ret
  exact ⟨rfl, Below.refl _ _⟩

theorem Sees.drewN {w : World} {a : Option Addr} {n : Nat} {d : Nat → Int} {B : Nat} (h : Sees w a n d B) (k : Nat) : Sees (w.drewN k) a n d B := h

/-- the row with one more digit at its end is seen -/
theorem own_sees {B g n : Nat} {w : World} {d : Nat → Int} {y : Int} (h : w.ownsRow B 5 1 (.slice (some ⟨g, 0, none⟩) (n + 1) (n + 1)) (n + 1) (cells d n ++ [.int .u8 y])) :
    Sees w (some ⟨g, 0, none⟩) (n + 1) (snoc d n y) w.heap.size := by
  intro _
  refine ⟨g, 0, rfl, (h.lt g rfl).2, fun j hj => ?_⟩
  rw [Nat.zero_add, h.cellAt j (by omega)]
  unfold snoc
  by_cases e : j < n
  · rw [if_pos e, List.getElem?_append_left (by rw [cells_len]; exact e), cells_get d n j e]
  · rw [if_neg e, List.getElem?_append_right (by rw [cells_len]; omega), cells_len]
    obtain rfl : j = n := by omega
    simp

/-- the row behind the copy -/
theorem copied {B n : Nat} {w : World} {zs cs : List Value} (hB : B ≤ n) (h : w.heap[n]? = some (.cells (splice zs 0 cs).toArray 5 (0, 0))) (m : Nat) (hm : m ≤ 65536) (hz : zs = List.replicate (m + 1) (.int .u8 0)) (hc : cs.length = m) :
    w.ownsRow B 5 1 (.slice (some ⟨n, 0, none⟩) (m + 1) (m + 1)) (m + 1) (cs ++ [.int .u8 0]) := by
  have e : splice zs 0 cs = cs ++ [.int .u8 0] := by
    unfold splice
    rw [hz, hc]
    simp
  rw [e] at h
  refine ⟨by simp [hc], .inr ⟨n, m + 1, _, rfl, hB, h, Nat.le_refl _, by unfold maxLen; omega, by simp [hc], ?_⟩⟩
  rw [List.take_of_length_le]
  simp [hc]

set_option maxHeartbeats 1600000 in
set_option maxRecDepth 100000 in
theorem law_main (a : Option Addr) (n cap : Nat) (d : Nat → Int) (w : World) (hs : Sees w a n d w.heap.size) (hnil : a = none → n = 0 ∧ cap = 0) (hn : n ≤ 65536) (hd : Digits d n) :
    Calls Try.prog 3 #[.slice a n cap] w fun e w' => e = .returned (.bool true) ∧ Below w.heap.size w w' := by
  obtain ⟨i0, hi, hz0, hz1, hz2⟩ := info_parts info5
  have C9 := hide (all_yes a n cap d w hs (by omega) hd)
  have C10 := hide (clone_u a n cap d w hs hnil hn)
  have HD := hide hd
  obtain ⟨c, hcc⟩ : ∃ c, check d n = c := ⟨_, rfl⟩
  have hc1 : 48 ≤ c := by rw [← hcc]; exact (check_bd d n).1
  have hc2 : c ≤ 57 := by rw [← hcc]; exact (check_bd d n).2
  have HCC := hide hcc
  obtain ⟨cs, hcs⟩ : ∃ cs, cells d n = cs := ⟨_, rfl⟩
  have hcl : cs.length = n := by rw [← hcs]; exact cells_len d n
  have HCL := hide hcl
  have HCS := hide hcs
  clear hs hnil hd hcc hcs hcl
  go_enter Try.func3, Try.ntmps3
  go_wp2_with fail
  refine (bytes8 _ _ _ _ (by omega)).mono ?_
  rintro e w' ⟨rfl, rfl⟩
  go_wp2_with fail
  refine C9.out.mono ?_
  rintro e w' ⟨rfl, rfl⟩
  go_wp2_with fail
  refine C10.out.mono ?_
  rintro e w1 ⟨a1, c1, rfl, hS1, hb1⟩
  have HS1 := hide hS1
  have C11 := zluhn_any a1 n c1 d w1 hS1 hn HD.out
  rw [HCC.out] at C11
  have HC11 := hide C11
  clear hS1 C11 C9 C10
  go_wp2_with fail
  refine HC11.out.mono ?_
  rintro e w' ⟨rfl, rfl⟩
  clear HC11
  go_wp2_with (at_make; refine wpList_make_full _ rfl _ _ 22 rfl w1.heap.size 5 i0 (.int .u8 0) 1 Try.underlying22 hi hz0 hz1 _ _ _ _ (n + 1) rfl rfl (by omega) (by omega) (by rw [hz2]; omega) (by unfold maxLen; omega) (Nat.le_refl _) ?_)
  intro w2 hown2 hgrow2
  have hb2 : Below w1.heap.size w1 w2 := (Below.refl _ _).grown hgrow2 (Nat.le_refl _) (fun k hk => by cases hk)
  obtain ⟨zs, hrow, hrl⟩ : ∃ zs : List Value, w2.heap[w1.heap.size]? = some (.cells zs.toArray 5 (0, 0)) ∧ zs = List.replicate (n + 1) (.int .u8 0) := by
    refine ⟨_, (made_row hown2).1, ?_⟩
    rw [← toList_madeCells_one]
  have HROW := hide hrow
  have HRL := hide hrl
  have hpos : 0 < cs.length → (some (⟨w1.heap.size, 0, none⟩ : Addr)) = some ⟨w1.heap.size, 0, none⟩ ∧ ∃ ad, a1 = some ad ∧ ∀ j v, cs[j]? = some v → w2.cell? (ad.add j) = some v := by
    intro h0
    rw [HCL.out] at h0
    obtain ⟨b, off, hx, hb, hc⟩ := HS1.out h0
    refine ⟨rfl, _, hx, fun j v hj => ?_⟩
    have hjn : j < n := by have := (List.getElem?_eq_some_iff.1 hj).1; rw [HCL.out] at this; exact this
    rw [← HCS.out, cells_get d n j hjn] at hj
    obtain rfl : Value.int .u8 (d j) = v := by simpa using hj
    rw [Go.WideShapes.add_plain]
    exact (hb2.cell (by exact hb)).trans (hc j hjn)
  have HPOS := hide hpos
  clear hpos hrow hrl hown2 hgrow2
  go_wp2_with (refine wpList_copy_splice rfl (.tmp 31) (.tmp 32) 22 22 rfl 5 Try.underlying22 hsz5 _ _ _ _ _ _ rfl rfl w1.heap.size 0 zs 5 HROW.out cs (by rw [HCL.out]; simp) HPOS.out (by rw [HCL.out, HRL.out]; simp) (by rw [← HCS.out]; exact cells_one d n) w1.heap.size w1 hb2 (Nat.le_refl _) ?_)
  intro w3 HG3 hb3
  have hown3 := copied (Nat.le_refl _) HG3.out n hn HRL.out HCL.out
  have HO3 := hide hown3
  have hbw : Below w.heap.size w w3 := hb1.trans (hb3.mono hb1.size)
  have hws : w.heap.size ≤ w1.heap.size := hb1.size
  clear HG3 hown3 HPOS HROW HRL hb1 hb2 hb3
  go_wp2
  go_loopw [6] (fun i wr => ∃ x : Nat, x ≤ 10 ∧ i = .int .i64 x ∧ ∃ y : Int, wr.ownsRow w1.heap.size 5 1 (.slice (some ⟨w1.heap.size, 0, none⟩) (n + 1) (n + 1)) (n + 1) (cs ++ [.int .u8 y]) ∧ Below w.heap.size w wr) (fun i _ => 10 - (intOf i).toNat)
  case atStart => exact ⟨0, by omega, rfl, 0, HO3.out, hbw⟩
  case round =>
    clear HO3 hbw
    obtain ⟨x, hx, rfl, y, hown, hb⟩ := hrel
    by_cases hx10 : x < 10
    · have hcn : wr.cell? ⟨w1.heap.size, n, none⟩ = some (.int .u8 y) := by
        rw [hown.cellAt n (by omega), List.getElem?_append_right (by rw [HCL.out]; exact Nat.le_refl _), HCL.out]
        simp
      have hfr := hown.frozenAt n
      have hst := (hown.stored n (.int .u8 (48 + (x : Int)))).1
      rw [List.set_append_right _ _ (by rw [HCL.out]; exact Nat.le_refl _), HCL.out, Nat.sub_self, List.set_cons_zero] at hst
      have hst2 := hst
      rw [← HCS.out] at hst2
      have hsee := own_sees hst2
      have hcell : (wr.setCell ⟨w1.heap.size, n, none⟩ (.int .u8 (48 + (x : Int)))).cell? ⟨w1.heap.size, n, none⟩ = some (.int .u8 (48 + (x : Int))) := by
        rw [hst.cellAt n (by omega), List.getElem?_append_right (by rw [HCL.out]; exact Nat.le_refl _), HCL.out]
        simp
      have HST := hide hst
      have HSEE := hide hsee
      have HCE := hide hcell
      have hbs : Below w.heap.size w (wr.setCell ⟨w1.heap.size, n, none⟩ (.int .u8 (48 + (x : Int)))) := hb.setCell (by exact hws) _
      have HBS := hide hbs
      have HDS := hide (snoc_digits HD.out (show (48 : Int) ≤ 48 + (x : Int) by omega) (show 48 + (x : Int) ≤ 57 by omega))
      have hcomp := completes d n (48 + (x : Int)) (by omega) (by omega)
      rw [HCC.out] at hcomp
      have HCOMP := hide hcomp
      clear hst hst2 hsee hcell hbs hcomp
      go_wp2
      clear hcn hfr hown hb
      generalize wr.setCell ⟨w1.heap.size, n, none⟩ (.int .u8 (48 + (x : Int))) = ws at *
      have hce := HCE.out
      have hbs := HBS.out
      have p0 : (0 : Int) ≤ (n : Int) := by omega
      have p1 : (n : Int) < (n : Int) + 1 := by omega
      by_cases hy : 48 + (x : Int) = c
      · have hyb : (48 + (x : Int) == c) = true := by rw [beq_iff_eq]; exact hy
        have HV : Hid ((sumV (snoc d n (48 + (x : Int))) (n + 1) (n + 1) % 10 == 0) = true) := by
          show _ = _
          rw [beq_iff_eq]; exact HCOMP.out.2 hy
        clear hy
        go_quiet ((go_at_call 12; exact Calls.quiet_of_same (valid_any _ _ _ (snoc d n (48 + (x : Int))) true _ (HSEE.out.drewN _) (by omega) HDS.out HV.out)))
        go_wp2
        go_roundw
        case rel => exact ⟨x + 1, by omega, by go_num, _, HST.out, below_drewN hbs _⟩
        case measure => simp [intOf]; omega
      · have hyb : (48 + (x : Int) == c) = false := by rw [beq_eq_false_iff_ne]; exact hy
        have HV : Hid ((sumV (snoc d n (48 + (x : Int))) (n + 1) (n + 1) % 10 == 0) = false) := by
          show _ = _
          rw [beq_eq_false_iff_ne]; exact fun h => hy (HCOMP.out.1 h)
        clear hy
        go_quiet ((go_at_call 12; exact Calls.quiet_of_same (valid_any _ _ _ (snoc d n (48 + (x : Int))) false _ (HSEE.out.drewN _) (by omega) HDS.out HV.out)))
        go_wp2
        go_roundw
        case rel => exact ⟨x + 1, by omega, by go_num, _, HST.out, below_drewN hbs _⟩
        case measure => simp [intOf]; omega
    · go_wp2
      go_ret
      exact ⟨rfl, hb⟩

end Go.Proofs.Qxb6000387a.Lu
