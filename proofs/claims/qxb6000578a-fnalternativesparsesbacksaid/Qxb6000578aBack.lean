/-
  THE WALK of FnAlternativesParsesBack.
-/
import Derived.Test.Qxb6000578aParse
import Derived.WalkSmall
namespace Go.Proofs.Qxb6000578a.St
open Go.RowKit

theorem back_no (a : Option Addr) (n cap : Nat) (s : Nat → ByteArray) (w : World) (hs : Sees w a n s w.heap.size) (hn : n ≤ maxLen) (hz : ∀ j, j < n → (s j).size ≤ maxLen) (hT : ¬ n + tot s n ≤ 1048576) :
    Calls Try.prog 9 #[.slice a n cap] w fun e w' => e = .returned (.bool true) ∧ Below w.heap.size w w' := by
  have C := hide (b24_no a n cap s w hs hn hz hT)
  clear hs hz
  go_enter Try.func9, Try.ntmps9
  go_wp2_with fail
  refine C.out.mono ?_
  rintro e w' ⟨rfl, rfl⟩
  go_wp2
  go_ret
  exact ⟨rfl, Below.refl _ _⟩

/-- the bytes looked at so far are neither space nor comma -/
def Clean (t : ByteArray) (q : Nat) : Prop := ∀ x (h : x < (L t).length), x < q → (L t)[x] ≠ 32 ∧ (L t)[x] ≠ 44
theorem Clean.step {t : ByteArray} {q : Nat} (h : Clean t q) (hq : q < (L t).length) (h1 : (L t)[q] ≠ 32) (h2 : (L t)[q] ≠ 44) : Clean t (q + 1) := by
  intro x hx hxq
  by_cases e : x = q
  · subst e; exact ⟨h1, h2⟩
  · exact h x hx (by omega)
theorem Clean.good {t : ByteArray} (h : Clean t t.size) (h0 : 0 < t.size) : Good t := by
  refine ⟨h0, ?_, ?_⟩
  · intro hm
    obtain ⟨x, hx, e⟩ := List.getElem_of_mem hm
    exact (h x hx (by rw [L_size]; exact hx)).1 e
  · intro hm
    obtain ⟨x, hx, e⟩ := List.getElem_of_mem hm
    exact (h x hx (by rw [L_size]; exact hx)).2 e

set_option maxHeartbeats 1600000 in
set_option maxRecDepth 100000 in
theorem back_yes (a : Option Addr) (n cap : Nat) (s : Nat → ByteArray) (w : World) (hs : Sees w a n s w.heap.size) (h0 : a = none → n = 0 ∧ cap = 0) (hT : n + tot s n ≤ 1048576) :
    Calls Try.prog 9 #[.slice a n cap] w fun e w' => e = .returned (.bool true) ∧ Below w.heap.size w w' := by
  have C := hide (b24_yes a n cap s w hs hT)
  by_cases t1 : 1024 < n
  · clear hs h0
    go_enter Try.func9, Try.ntmps9
    go_wp2_with fail
    refine C.out.mono ?_
    rintro e w' ⟨rfl, rfl⟩
    go_wp2
    go_ret
    exact ⟨rfl, Below.refl _ _⟩
  have C1 := hide (sb_any a n cap s w hs (by omega) (by omega))
  by_cases t3 : 65536 < 16 * n + tot s n
  · clear hs h0
    go_enter Try.func9, Try.ntmps9
    go_wp2_with fail
    refine C.out.mono ?_
    rintro e w' ⟨rfl, rfl⟩
    go_wp2_with fail
    refine C1.out.mono ?_
    rintro e w' ⟨rfl, rfl⟩
    go_wp2
    go_ret
    exact ⟨rfl, Below.refl _ _⟩
  have CA := hide (tf_any a n cap s w hs h0 (by omega))
  have HS := hide hs
  clear hs h0
  go_enter Try.func9, Try.ntmps9
  go_wp2_with fail
  refine C.out.mono ?_
  rintro e w' ⟨rfl, rfl⟩
  go_wp2_with fail
  refine C1.out.mono ?_
  rintro e w' ⟨rfl, rfl⟩
  clear C C1
  go_wp2
  go_loop [3] (fun i => ∃ k : Nat, k ≤ n ∧ i = .int .i64 k ∧ Hid (∀ j, j < k → Good (s j))) (fun i => n - (intOf i).toNat)
  case atStart => exact ⟨0, Nat.zero_le _, rfl, fun j hj => by omega⟩
  case round =>
    obtain ⟨k, hk, rfl, HG⟩ := hrel
    by_cases hkn : k < n
    · obtain ⟨b, off, ha, hb, hc⟩ := HS.out (by omega)
      have hck := hc k hkn
      have hkz := tot_ge s hkn
      have HT : Hid (∀ t, s k = t → Good t → ∀ j, j < k + 1 → Good (s j)) := fun t e hg j hj => by
        by_cases e2 : j = k
        · subst e2; rw [e]; exact hg
        · exact HG.out j (by omega)
      subst ha
      generalize hst : s k = t at *
      clear hst hc
      by_cases ht0 : t.size = 0
      · have ht0b : ((t.size : Int) == 0) = true := by rw [beq_iff_eq]; omega
        clear ht0
        go_wp2
        go_ret
        exact ⟨rfl, Below.refl _ _⟩
      · have ht0b : ((t.size : Int) == 0) = false := by rw [beq_eq_false_iff_ne]; omega
        go_wp2
        go_loop [5] (fun i => ∃ q : Nat, q ≤ t.size ∧ i = .int .i64 q ∧ Clean t q) (fun i => t.size - (intOf i).toNat)
        case atStart => exact ⟨0, Nat.zero_le _, rfl, fun x hx h => by omega⟩
        case round =>
          obtain ⟨q, hq, rfl, hcl⟩ := hrel
          have HCL := hide hcl
          clear hcl
          by_cases hqt : q < t.size
          · have hqL : q < (L t).length := by rw [← L_size]; exact hqt
            by_cases h32 : (L t)[q] = 32
            · have hbb : (((t[q]'hqt).toNat : Int) == 32) = true := (byte_eq _ 32 (by omega)).2 h32
              clear h32 hqL
              go_wp2
              go_ret
              exact ⟨rfl, Below.refl _ _⟩
            · have hbb : (((t[q]'hqt).toNat : Int) == 32) = false := by rw [← Bool.not_eq_true]; exact fun h => h32 ((byte_eq _ 32 (by omega)).1 h)
              by_cases h44 : (L t)[q] = 44
              · have hbc : (((t[q]'hqt).toNat : Int) == 44) = true := (byte_eq _ 44 (by omega)).2 h44
                clear h32 h44 hqL
                go_wp2
                go_ret
                exact ⟨rfl, Below.refl _ _⟩
              · have hbc : (((t[q]'hqt).toNat : Int) == 44) = false := by rw [← Bool.not_eq_true]; exact fun h => h44 ((byte_eq _ 44 (by omega)).1 h)
                have HCL2 := hide (HCL.out.step hqL h32 h44)
                clear h32 h44 hqL
                go_wp2
                go_round
                case rel => exact ⟨q + 1, by omega, by go_num, HCL2.out⟩
                case measure => simp [intOf]; omega
          · obtain rfl : q = t.size := by omega
            go_wp2
            go_round
            case rel => exact ⟨k + 1, by omega, by go_num, HT.out t rfl (HCL.out.good (by omega))⟩
            case measure => simp [intOf]; omega
    · obtain rfl : k = n := by omega
      go_wp2_with fail
      refine CA.out.mono ?_
      rintro e w1 ⟨a1, c1, rfl, hA1, hb1⟩
      have HA1 := hide hA1
      have CB := hide (zalt_any a1 k c1 s w1 hA1 (by omega) (by omega))
      have CP := hide (parse_any s k w1 HG.out (by omega) (by omega))
      clear hA1
      go_wp2_with fail
      refine CB.out.mono ?_
      rintro e w' ⟨rfl, rfl⟩
      go_wp2_with fail
      refine CP.out.mono ?_
      rintro e w2 ⟨a2, c2, rfl, hA2, hb2⟩
      have HP := hide hA2
      have HF := hide (HA1.out.below hb2 hb2.size)
      have hbw : Below w.heap.size w w2 := hb1.trans (hb2.mono hb1.size)
      clear hA2 HA1 CA CB CP hb1 hb2
      go_wp2
      go_loopw [10] (fun i wr => ∃ q : Nat, q ≤ k ∧ i = .int .i64 q ∧ Below w2.heap.size w2 wr) (fun i _ => k - (intOf i).toNat)
      case atStart => exact ⟨0, Nat.zero_le _, rfl, Below.refl _ _⟩
      case round =>
        obtain ⟨q, hq, rfl, hb⟩ := hrel
        by_cases hqk : q < k
        · obtain ⟨x1, o1, rfl, _, e1⟩ := (HP.out.below hb (Nat.le_refl _)) (by omega)
          obtain ⟨x2, o2, rfl, _, e2⟩ := (HF.out.below hb (Nat.le_refl _)) (by omega)
          have f1 := e1 q hqk
          have f2 := e2 q hqk
          have p0 : (0 : Int) ≤ (q : Int) := by omega
          have p1 : (q : Int) < (k : Int) := by omega
          have hq2 : ((s q).toList == (s q).toList) = true := by simp
          clear e1 e2
          go_wp2
          go_quiet (fail)
          go_wp2
          go_roundw
          case rel => exact ⟨q + 1, by omega, by go_num, below_drewN hb _⟩
          case measure => simp [intOf]; omega
        · go_wp2
          go_ret
          exact ⟨rfl, hbw.trans (hb.mono hbw.size)⟩

end Go.Proofs.Qxb6000578a.St
