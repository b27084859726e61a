/-
  THE WALK of FnLineEndsCutWellFormedLines.
-/
import Derived.Test.Qxb6000578aLineWalks
import Derived.Deep.QuietTactic
import Derived.BigQuiet
namespace Go.Proofs.Qxb6000578a
open Go.RowKit

set_option maxHeartbeats 400000 in
theorem zz_any (g n cap : Nat) (d : Nat → Int) (w : World) (hn : n ≤ 1048576) (hB : g < w.heap.size)
    (hc : ∀ j, j < n → w.cell? ⟨g, j, none⟩ = some (.int .u8 (d j))) :
    Calls Try.prog 13 #[.slice (some ⟨g, 0, none⟩) n cap] w fun e w' => ∃ v, e = .returned v ∧ w'.ownsRow w.heap.size 3 1 v (Le.E d n).length (vals (Le.E d n)) ∧ Below w.heap.size w w' := by
  go_enter Try.func13, Try.ntmps13
  go_wp2_with fail
  refine (lineEnds_any g n cap d _ hn hB hc).mono ?_
  rintro e w' ⟨v, rfl, h1, h2⟩
  go_wp2
  go_ret
  exact ⟨_, rfl, h1, h2⟩

set_option maxHeartbeats 400000 in
theorem zz_nil (d : Nat → Int) (w : World) :
    Calls Try.prog 13 #[.slice none 0 0] w fun e w' => ∃ v, e = .returned v ∧ w'.ownsRow w.heap.size 3 1 v (Le.E d 0).length (vals (Le.E d 0)) ∧ Below w.heap.size w w' := by
  go_enter Try.func13, Try.ntmps13
  go_wp2_with fail
  refine (lineEnds_nil d _).mono ?_
  rintro e w' ⟨v, rfl, h1, h2⟩
  go_wp2
  go_ret
  exact ⟨_, rfl, h1, h2⟩

/-- too long: true at once -/
theorem cut_long (a : Option Addr) (n cap : Nat) (w : World) (hn : 1048576 < n) (hm : n ≤ maxLen) :
    Calls Try.prog 4 #[.slice a n cap] w fun e w' => e = .returned (.bool true) ∧ Below w.heap.size w w' := by
  unfold maxLen at hm
  go_enter Try.func4, Try.ntmps4
  go_wp2
  go_ret
  exact ⟨rfl, Below.refl _ _⟩

/-- the form of the ends -/
theorem ends_form {B : Nat} {wr : World} {v : Value} {d : Nat → Int} {n : Nat} (hown : wr.ownsRow B 3 1 v (Le.E d n).length (vals (Le.E d n))) :
    ∃ g cap, v = .slice (some ⟨g, 0, none⟩) (Le.E d n).length cap ∧ B ≤ g ∧ ∀ j, j < (Le.E d n).length → wr.cell? ⟨g, j, none⟩ = some (.int .i64 (Le.at_ d n j : Nat)) := by
  obtain ⟨a, cap, rfl, h⟩ := own_form hown
  obtain ⟨g, rfl, h1, _, h3⟩ := h (Le.E_ne d n)
  exact ⟨g, cap, rfl, h1, h3⟩

theorem bytes15 (a : Option Addr) (n cap : Nat) (w : World) (hn : n ≤ 1048576) : Calls Try.prog 15 #[.slice a n cap] w fun e w' => e = .returned (.bool true) ∧ w = w' := by
  go_enter Try.func15, Try.ntmps15
  go_wp2
  go_ret
  exact ⟨rfl, rfl⟩

/-- the ends of no data: [0] -/
theorem ends_zero {B : Nat} {wr : World} {v : Value} {d : Nat → Int} (hown : wr.ownsRow B 3 1 v (Le.E d 0).length (vals (Le.E d 0))) :
    ∃ g cap, v = .slice (some ⟨g, 0, none⟩) 1 cap ∧ wr.cell? ⟨g, 0, none⟩ = some (.int .i64 0) := by
  obtain ⟨g, cap, rfl, _, h⟩ := ends_form hown
  rw [Le.E_zero] at h
  have := h 0 (by simp)
  exact ⟨g, cap, by rw [Le.E_zero]; rfl, by simpa [Le.at_, Le.E_zero] using this⟩

set_option maxHeartbeats 400000 in
theorem cut_nil (w : World) :
    Calls Try.prog 4 #[.slice none 0 0] w fun e w' => e = .returned (.bool true) ∧ Below w.heap.size w w' := by
  go_enter Try.func4, Try.ntmps4
  go_wp2_with (first | (go_at_call 11; refine (clone_nil _).mono ?_; rintro e w' ⟨rfl, rfl⟩) | (go_at_call 15; refine (bytes15 _ _ _ _ (by omega)).mono ?_; rintro e w' ⟨rfl, rfl⟩))
  refine (zz_nil (fun _ => 0) _).mono ?_
  rintro e w' ⟨v, rfl, h1, hb⟩
  obtain ⟨g, cap, hv, hc⟩ := ends_zero h1
  clear h1
  rw [hv]
  go_wp2
  go_ret
  exact ⟨rfl, hb⟩

set_option maxHeartbeats 400000 in
theorem cut_empty (x : Addr) (cap : Nat) (w : World) :
    Calls Try.prog 4 #[.slice (some x) 0 cap] w fun e w' => e = .returned (.bool true) ∧ Below w.heap.size w w' := by
  obtain ⟨b, off, spot⟩ := x
  go_enter Try.func4, Try.ntmps4
  go_wp2_with (first | (go_at_call 15; refine (bytes15 _ _ _ _ (by omega)).mono ?_; rintro e w' ⟨rfl, rfl⟩))
  refine (clone_any b off 0 cap spot (fun _ => 0) _ (by omega) (by omega) (by omega)).mono ?_
  rintro e w1 ⟨rfl, h1, hb1⟩
  have hlt := (h1.lt w.heap.size rfl).2
  clear h1
  go_wp2_with fail
  refine (zz_any w.heap.size 0 0 (fun _ => 0) _ (by omega) hlt (by omega)).mono ?_
  rintro e w2 ⟨v, rfl, h1, hb⟩
  obtain ⟨g, cap, hv, hc⟩ := ends_zero h1
  clear h1
  rw [hv]
  go_wp2
  go_ret
  exact ⟨rfl, hb1.trans (hb.mono hb1.size)⟩

theorem zz_m (g n cap m : Nat) (d : Nat → Int) (w : World) (hn : n ≤ 1048576) (hB : g < w.heap.size)
    (hc : ∀ j, j < n → w.cell? ⟨g, j, none⟩ = some (.int .u8 (d j))) (hm : Hid ((Le.E d n).length = m)) :
    Calls Try.prog 13 #[.slice (some ⟨g, 0, none⟩) n cap] w fun e w' => ∃ g2 cap2, e = .returned (.slice (some ⟨g2, 0, none⟩) m cap2) ∧
      (∀ j, j < m → w'.cell? ⟨g2, j, none⟩ = some (.int .i64 (Le.at_ d n j : Nat))) ∧ (∀ j, j < n → w'.cell? ⟨g, j, none⟩ = some (.int .u8 (d j))) ∧ Below w.heap.size w w' := by
  refine (zz_any g n cap d w hn hB hc).mono ?_
  rintro e w' ⟨v, rfl, h1, hb⟩
  obtain ⟨g2, c2, rfl, _, h2⟩ := ends_form h1
  rw [hm.out] at h2
  exact ⟨g2, c2, by rw [hm.out], h2, fun j hj => (hb.cell (by exact hB)).trans (hc j hj), hb⟩

set_option maxHeartbeats 4000000 in
set_option maxRecDepth 1000000 in
theorem cut_main (b off n cap : Nat) (d : Nat → Int) (w : World) (hn0 : 0 < n) (hn : n ≤ 1048576)
    (hc : ∀ j, j < n → w.cell? ⟨b, off + j, none⟩ = some (.int .u8 (d j))) :
    Calls Try.prog 4 #[.slice (some ⟨b, off, none⟩) n cap] w fun e w' => e = .returned (.bool true) ∧ Below w.heap.size w w' := by
  obtain ⟨m, hm⟩ : ∃ m, (Le.E d n).length = m := ⟨_, rfl⟩
  have hm0 : 0 < m := by have := Le.E_ne d n; omega
  have hmn : m ≤ n + 1 := by have := Le.E_len d n; omega
  have hlast := Le.at_last d n
  rw [hm] at hlast
  have HLAST := Hid.intro hlast
  have HM := Hid.intro hm
  clear hm hlast
  go_enter Try.func4, Try.ntmps4
  go_wp2_with (first | (go_at_call 15; refine (bytes15 _ _ _ _ (by omega)).mono ?_; rintro e w' ⟨rfl, rfl⟩))
  refine (clone_any b off n cap none d _ hn (fun _ => rfl) hc).mono ?_
  rintro e w1 ⟨rfl, h1, hb1⟩
  have hlt := (h1.lt w.heap.size rfl).2
  have hc1 : ∀ j, j < n → w1.cell? ⟨w.heap.size, j, none⟩ = some (.int .u8 (d j)) := fun j hj => by rw [h1.cellAt j (by omega)]; simp [hj]
  have HC1 := Hid.intro hc1
  clear h1 hc hc1
  go_wp2_with fail
  refine (zz_m w.heap.size n n m d _ hn hlt HC1.out HM).mono ?_
  rintro e w2 ⟨g2, cap2, rfl, hce, hcd, hb2⟩
  have hb : Below w.heap.size w w2 := hb1.trans (hb2.mono hb1.size)
  clear HC1 hb1 hb2
  have hl1 : w2.cell? ⟨g2, m - 1, none⟩ = some (.int .i64 (n : Int)) := by rw [hce _ (by omega), HLAST.out]
  have hm0b : ((m : Int) == 0) = false := by rw [beq_eq_false_iff_ne]; omega
  have hn0b : ((n : Int) == 0) = false := by rw [beq_eq_false_iff_ne]; omega
  have HCE := Hid.intro hce
  have HCD := Hid.intro hcd
  clear hce hcd
  go_wp2
  go_loop [4, 5] (fun pv kv => ∃ k : Nat, k ≤ m ∧ kv = .int .i64 k ∧ pv = .int .i64 (Le.prev d n k : Nat)) (fun _ kv => m - (intOf kv).toNat)
  case atStart => exact ⟨0, Nat.zero_le _, rfl, rfl⟩
  case round =>
    obtain ⟨k, hk, rfl, rfl⟩ := hrel
    by_cases hkm : k < m
    · have hkE : k < (Le.E d n).length := by rw [HM.out]; exact hkm
      have hpe := Le.prev_lt hn0 hkE
      have hen := Le.at_le hkE
      have hcek := HCE.out k hkm
      have F13 : ∀ i, Le.prev d n k ≤ i → i + 1 < Le.at_ d n k → d i = 13 → i + 2 = Le.at_ d n k ∧ d (i + 1) = 10 := fun i h1 h2 h3 => Le.in_cr hkE h1 h2 h3
      have F10 : ∀ i, Le.prev d n k ≤ i → i + 1 < Le.at_ d n k → ¬ d i = 10 := fun i h1 h2 => Le.in_lf hkE h1 h2
      have FL : ¬ d (Le.at_ d n k - 1) = 10 → ¬ d (Le.at_ d n k - 1) = 13 → k = m - 1 := fun h1 h2 => by have := Le.last_of_plain hkE h1 h2; rw [HM.out] at this; exact this
      have FC : d (Le.at_ d n k - 1) = 13 → Le.at_ d n k < n → ¬ d (Le.at_ d n k) = 10 := Le.cr_free hkE
      have PS : Le.prev d n (k + 1) = Le.at_ d n k := Le.prev_succ d n k
      generalize Le.prev d n k = p at *
      generalize Le.at_ d n k = e at *
      have HPS := Hid.intro PS
      have HF13 := Hid.intro F13
      have HF10 := Hid.intro F10
      have HFL := Hid.intro FL
      have HFC := Hid.intro FC
      clear PS F13 F10 FL FC hkE
      have hce1 := HCD.out (e - 1) (by omega)
      by_cases h10 : d (e - 1) = 10
      · by_cases hp2 : (p : Int) ≤ (e : Int) - 2
        · have hce2 := HCD.out (e - 2) (by omega)
          by_cases h13 : d (e - 2) = 13
          · have HI13 : Hid (∀ i, p ≤ i → (i : Int) < (e : Int) - 2 → ¬ d i = 13) := fun i h1 h2 h3 => by have := HF13.out i h1 (by omega) h3; omega
            have HI10 : Hid (∀ i, p ≤ i → (i : Int) < (e : Int) - 2 → ¬ d i = 10) := fun i h1 h2 => HF10.out i h1 (by omega)
            go_wp2
            go_loop [9] (fun t => ∃ i : Nat, p ≤ i ∧ i ≤ e ∧ t = .int .i64 i) (fun t => e - (intOf t).toNat)
            case atStart => exact ⟨p, Nat.le_refl _, by omega, rfl⟩
            case round =>
              obtain ⟨i, hpi, hie, rfl⟩ := hrel
              by_cases hib : (i : Int) < (e : Int) - 2
              · have hci := HCD.out i (by omega)
                have f13 : (d i == 13) = false := beq_eq_false_iff_ne.2 (HI13.out i hpi (by omega))
                have f10 : (d i == 10) = false := beq_eq_false_iff_ne.2 (HI10.out i hpi (by omega))
                go_wp2
                go_round
                case rel => exact ⟨i + 1, by omega, by omega, by go_num⟩
                case measure => simp [intOf]; omega
              · go_wp2
                go_round
                case rel => exact ⟨k + 1, by omega, by go_num, by rw [HPS.out]⟩
                case measure => simp [intOf]; omega
          · have h13b : (d (e - 2) == 13) = false := by simpa using h13
            have HI13 : Hid (∀ i, p ≤ i → (i : Int) < (e : Int) - 1 → ¬ d i = 13) := fun i h1 h2 h3 => by
              have h4 := HF13.out i h1 (by omega) h3
              have h5 : i = e - 2 := by omega
              rw [h5] at h3
              exact h13 h3
            have HI10 : Hid (∀ i, p ≤ i → (i : Int) < (e : Int) - 1 → ¬ d i = 10) := fun i h1 h2 => HF10.out i h1 (by omega)
            clear h13
            go_wp2
            go_loop [9] (fun t => ∃ i : Nat, p ≤ i ∧ i ≤ e ∧ t = .int .i64 i) (fun t => e - (intOf t).toNat)
            case atStart => exact ⟨p, Nat.le_refl _, by omega, rfl⟩
            case round =>
              obtain ⟨i, hpi, hie, rfl⟩ := hrel
              by_cases hib : (i : Int) < (e : Int) - 1
              · have hci := HCD.out i (by omega)
                have f13 : (d i == 13) = false := beq_eq_false_iff_ne.2 (HI13.out i hpi (by omega))
                have f10 : (d i == 10) = false := beq_eq_false_iff_ne.2 (HI10.out i hpi (by omega))
                go_wp2
                go_round
                case rel => exact ⟨i + 1, by omega, by omega, by go_num⟩
                case measure => simp [intOf]; omega
              · go_wp2
                go_round
                case rel => exact ⟨k + 1, by omega, by go_num, by rw [HPS.out]⟩
                case measure => simp [intOf]; omega
        · have HI13 : Hid (∀ i, p ≤ i → (i : Int) < (e : Int) - 1 → ¬ d i = 13) := fun i h1 h2 h3 => by omega
          have HI10 : Hid (∀ i, p ≤ i → (i : Int) < (e : Int) - 1 → ¬ d i = 10) := fun i h1 h2 => by omega
          go_wp2
          go_loop [9] (fun t => ∃ i : Nat, p ≤ i ∧ i ≤ e ∧ t = .int .i64 i) (fun t => e - (intOf t).toNat)
          case atStart => exact ⟨p, Nat.le_refl _, by omega, rfl⟩
          case round =>
            obtain ⟨i, hpi, hie, rfl⟩ := hrel
            by_cases hib : (i : Int) < (e : Int) - 1
            · have hci := HCD.out i (by omega)
              have f13 : (d i == 13) = false := beq_eq_false_iff_ne.2 (HI13.out i hpi (by omega))
              have f10 : (d i == 10) = false := beq_eq_false_iff_ne.2 (HI10.out i hpi (by omega))
              go_wp2
              go_round
              case rel => exact ⟨i + 1, by omega, by omega, by go_num⟩
              case measure => simp [intOf]; omega
            · go_wp2
              go_round
              case rel => exact ⟨k + 1, by omega, by go_num, by rw [HPS.out]⟩
              case measure => simp [intOf]; omega
      · have h10b : (d (e - 1) == 10) = false := by simpa using h10
        by_cases h13 : d (e - 1) = 13
        · have HI13 : Hid (∀ i, p ≤ i → (i : Int) < (e : Int) - 1 → ¬ d i = 13) := fun i h1 h2 h3 => by
            have h4 := HF13.out i h1 (by omega) h3
            have h5 : i + 1 = e - 1 := by omega
            rw [h5] at h4
            exact h10 h4.2
          have HI10 : Hid (∀ i, p ≤ i → (i : Int) < (e : Int) - 1 → ¬ d i = 10) := fun i h1 h2 => HF10.out i h1 (by omega)
          by_cases hlt2 : e < n
          · have hcee := HCD.out e hlt2
            have hneb : (d e == 10) = false := beq_eq_false_iff_ne.2 (HFC.out h13 hlt2)
            clear h10
            go_wp2
            go_loop [9] (fun t => ∃ i : Nat, p ≤ i ∧ i ≤ e ∧ t = .int .i64 i) (fun t => e - (intOf t).toNat)
            case atStart => exact ⟨p, Nat.le_refl _, by omega, rfl⟩
            case round =>
              obtain ⟨i, hpi, hie, rfl⟩ := hrel
              by_cases hib : (i : Int) < (e : Int) - 1
              · have hci := HCD.out i (by omega)
                have f13 : (d i == 13) = false := beq_eq_false_iff_ne.2 (HI13.out i hpi (by omega))
                have f10 : (d i == 10) = false := beq_eq_false_iff_ne.2 (HI10.out i hpi (by omega))
                go_wp2
                go_round
                case rel => exact ⟨i + 1, by omega, by omega, by go_num⟩
                case measure => simp [intOf]; omega
              · go_wp2
                go_round
                case rel => exact ⟨k + 1, by omega, by go_num, by rw [HPS.out]⟩
                case measure => simp [intOf]; omega
          · clear h10
            go_wp2
            go_loop [9] (fun t => ∃ i : Nat, p ≤ i ∧ i ≤ e ∧ t = .int .i64 i) (fun t => e - (intOf t).toNat)
            case atStart => exact ⟨p, Nat.le_refl _, by omega, rfl⟩
            case round =>
              obtain ⟨i, hpi, hie, rfl⟩ := hrel
              by_cases hib : (i : Int) < (e : Int) - 1
              · have hci := HCD.out i (by omega)
                have f13 : (d i == 13) = false := beq_eq_false_iff_ne.2 (HI13.out i hpi (by omega))
                have f10 : (d i == 10) = false := beq_eq_false_iff_ne.2 (HI10.out i hpi (by omega))
                go_wp2
                go_round
                case rel => exact ⟨i + 1, by omega, by omega, by go_num⟩
                case measure => simp [intOf]; omega
              · go_wp2
                go_round
                case rel => exact ⟨k + 1, by omega, by go_num, by rw [HPS.out]⟩
                case measure => simp [intOf]; omega
        · have h13b : (d (e - 1) == 13) = false := by simpa using h13
          have hkl : k = m - 1 := HFL.out h10 h13
          have hkl2 : ¬ (k : Int) < (m : Int) - 1 := by omega
          have HI13 : Hid (∀ i, p ≤ i → (i : Int) < (e : Int) - 0 → ¬ d i = 13) := fun i h1 h2 h3 => by
            by_cases h6 : i + 1 < e
            · have h4 := HF13.out i h1 h6 h3
              have h5 : i + 1 = e - 1 := by omega
              rw [h5] at h4
              exact h10 h4.2
            · have h5 : i = e - 1 := by omega
              rw [h5] at h3
              exact h13 h3
          have HI10 : Hid (∀ i, p ≤ i → (i : Int) < (e : Int) - 0 → ¬ d i = 10) := fun i h1 h2 h3 => by
            by_cases h6 : i + 1 < e
            · exact HF10.out i h1 h6 h3
            · have h5 : i = e - 1 := by omega
              rw [h5] at h3
              exact h10 h3
          clear h10 h13 hkl
          go_wp2
          go_loop [9] (fun t => ∃ i : Nat, p ≤ i ∧ i ≤ e ∧ t = .int .i64 i) (fun t => e - (intOf t).toNat)
          case atStart => exact ⟨p, Nat.le_refl _, by omega, rfl⟩
          case round =>
            obtain ⟨i, hpi, hie, rfl⟩ := hrel
            by_cases hib : (i : Int) < (e : Int) - 0
            · have hci := HCD.out i (by omega)
              have f13 : (d i == 13) = false := beq_eq_false_iff_ne.2 (HI13.out i hpi (by omega))
              have f10 : (d i == 10) = false := beq_eq_false_iff_ne.2 (HI10.out i hpi (by omega))
              go_wp2
              go_round
              case rel => exact ⟨i + 1, by omega, by omega, by go_num⟩
              case measure => simp [intOf]; omega
            · go_wp2
              go_round
              case rel => exact ⟨k + 1, by omega, by go_num, by rw [HPS.out]⟩
              case measure => simp [intOf]; omega
    · go_wp2
      go_ret
      exact ⟨rfl, hb⟩

end Go.Proofs.Qxb6000578a
