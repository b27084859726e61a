/-
  THE WALKS of 'luhn', 'luhnValid', 'allDigits', 'cloneBytes'.
-/
import Derived.Test.Qxb6000387aRows
import Derived.Test.Qxb6000387aLuhnMath
import Derived.WalkKit
import Derived.ProofKit
import Derived.WalkSpells
import Derived.Lib.SliceRun
import Derived.Laws.CopyOwn
import Derived.Below
import Derived.Outline
namespace Go.Proofs.Qxb6000387a.Lu
open Go.RowKit

theorem hide {p : Prop} (h : p) : Hid p := h

theorem info5 : (Try.prog.info? 5).map (fun i => (i.zero, i.size, i.bytes)) = some (some (.int .u8 0), 1, 1) := by kernel_rfl

/-- a slice whose elements are the bytes d 0, .., d (n-1), in blocks below B -/
def Sees (w : World) (a : Option Addr) (n : Nat) (d : Nat → Int) (B : Nat) : Prop :=
  0 < n → ∃ b off, a = some ⟨b, off, none⟩ ∧ b < B ∧ ∀ j, j < n → w.cell? ⟨b, off + j, none⟩ = some (.int .u8 (d j))

theorem Sees.below {w w' : World} {a : Option Addr} {n : Nat} {d : Nat → Int} {B B' : Nat} (h : Sees w a n d B) (hb : Below B w w') (hB : B ≤ B') : Sees w' a n d B' := by
  intro hn
  obtain ⟨b, off, h1, h2, h3⟩ := h hn
  exact ⟨b, off, h1, by omega, fun j hj => (hb.cell (by exact h2)).trans (h3 j hj)⟩

set_option maxHeartbeats 400000 in
theorem all_yes (a : Option Addr) (n cap : Nat) (d : Nat → Int) (w : World) (hs : Sees w a n d w.heap.size) (hn : n ≤ 1048576) (hd : Digits d n) :
    Calls Try.prog 9 #[.slice a n cap] w fun e w' => e = .returned (.bool true) ∧ w = w' := by
  have HS := hide hs
  have HD := hide hd
  clear hs hd
  go_enter Try.func9, Try.ntmps9
  go_wp2
  go_loop [3] (fun i => ∃ k : Nat, k ≤ n ∧ i = .int .i64 k) (fun i => n - (intOf i).toNat)
  case atStart => exact ⟨0, Nat.zero_le _, rfl⟩
  case round =>
    obtain ⟨k, hk, rfl⟩ := hrel
    by_cases hkn : k < n
    · obtain ⟨b, off, rfl, hb, hc⟩ := HS.out (by omega)
      have hck := hc k hkn
      obtain ⟨hd1, hd2⟩ := HD.out k hkn
      clear hc
      go_wp2
      go_round
      case rel => exact ⟨k + 1, by omega, by go_num⟩
      case measure => simp [intOf]; omega
    · go_wp2
      go_ret
      exact ⟨rfl, rfl⟩

set_option maxHeartbeats 400000 in
theorem all_no (a : Option Addr) (n cap : Nat) (d : Nat → Int) (w : World) (hs : Sees w a n d w.heap.size) (hn : n ≤ 1048576) (hd : ¬ Digits d n) :
    Calls Try.prog 9 #[.slice a n cap] w fun e w' => e = .returned (.bool false) ∧ w = w' := by
  have HS := hide hs
  have HD := hide hd
  clear hs hd
  go_enter Try.func9, Try.ntmps9
  go_wp2
  go_loop [3] (fun i => ∃ k : Nat, k ≤ n ∧ i = .int .i64 k ∧ Digits d k) (fun i => n - (intOf i).toNat)
  case atStart => exact ⟨0, Nat.zero_le _, rfl, fun j hj => by omega⟩
  case round =>
    obtain ⟨k, hk, rfl, hdk⟩ := hrel
    have HDK := hide hdk
    clear hdk
    by_cases hkn : k < n
    · obtain ⟨b, off, rfl, hb, hc⟩ := HS.out (by omega)
      have hck := hc k hkn
      clear hc
      by_cases h1 : d k < 48
      · go_wp2
        go_ret
        exact ⟨rfl, rfl⟩
      by_cases h2 : 57 < d k
      · go_wp2
        go_ret
        exact ⟨rfl, rfl⟩
      go_wp2
      go_round
      case rel =>
        refine ⟨k + 1, by omega, by go_num, fun j hj => ?_⟩
        by_cases e : j = k
        · subst e; omega
        · exact HDK.out j (by omega)
      case measure => simp [intOf]; omega
    · obtain rfl : k = n := by omega
      exact (HD.out HDK.out).elim

theorem ret_u8 {a b : Int} (h : a = b) : Ending.returned (.int .u8 a) = .returned (.int .u8 b) := by rw [h]

set_option maxHeartbeats 1600000 in
theorem luhn_any (a : Option Addr) (n cap : Nat) (d : Nat → Int) (w : World) (hs : Sees w a n d w.heap.size) (hn : n ≤ 65536) (hd : Digits d n) :
    Calls Try.prog 17 #[.slice a n cap] w fun e w' => e = .returned (.int .u8 (check d n)) ∧ w = w' := by
  have HS := hide hs
  have HD := hide hd
  clear hs hd
  go_enter Try.func17, Try.ntmps17
  go_wp2
  go_loop [3, 8] (fun t i => ∃ k : Nat, k ≤ n ∧ i = .int .i64 k ∧ t = .int .i64 (sumL d n k)) (fun _ i => n - (intOf i).toNat)
  case atStart => exact ⟨0, Nat.zero_le _, rfl, rfl⟩
  case round =>
    obtain ⟨k, hk, rfl, rfl⟩ := hrel
    obtain ⟨b1, b2⟩ := sumL_bd HD.out k hk
    by_cases hkn : k < n
    · obtain ⟨b, off, rfl, hb, hc⟩ := HS.out (by omega)
      have hck := hc (n - 1 - k) (by omega)
      obtain ⟨hd1, hd2⟩ := HD.out (n - 1 - k) (by omega)
      have hss : sumL d n (k + 1) = sumL d n k + tm (d (n - 1 - k) - 48) (k % 2 == 0) := rfl
      generalize sumL d n k = S at *
      generalize d (n - 1 - k) = x at *
      clear hc
      rcases Nat.mod_two_eq_zero_or_one k with hev | hev
      · have hevb : ((k : Int) % 2 == 0) = true := by rw [beq_iff_eq]; omega
        rw [(even_b hev).1] at hss
        clear hev
        by_cases h9 : 9 < (x - 48) * 2
        · have HT : Hid (sumL d n (k + 1) = S + ((x - 48) * 2 - 9)) := by rw [hss, tm, if_pos rfl, if_pos (by omega)]; show _ = _; omega
          clear hss
          go_wp2
          go_round
          case rel => exact ⟨k + 1, by omega, by go_num, by rw [HT.out]⟩
          case measure => simp [intOf]; omega
        · have HT : Hid (sumL d n (k + 1) = S + (x - 48) * 2) := by rw [hss, tm, if_pos rfl, if_neg (by omega)]; show _ = _; omega
          clear hss
          go_wp2
          go_round
          case rel => exact ⟨k + 1, by omega, by go_num, by rw [HT.out]⟩
          case measure => simp [intOf]; omega
      · have hevb : ((k : Int) % 2 == 0) = false := by rw [beq_eq_false_iff_ne]; omega
        rw [(odd_b hev).1] at hss
        clear hev
        have HT : Hid (sumL d n (k + 1) = S + (x - 48)) := by rw [hss, tm, if_neg (by simp)]; show _ = _; omega
        clear hss
        go_wp2
        go_round
        case rel => exact ⟨k + 1, by omega, by go_num, by rw [HT.out]⟩
        case measure => simp [intOf]; omega
    · obtain rfl : k = n := by omega
      go_wp2
      go_ret
      exact ⟨ret_u8 (show 48 + -(sumL d k k % 10) % 10 = check d k by unfold check; omega), rfl⟩

set_option maxHeartbeats 400000 in
theorem zluhn_any (a : Option Addr) (n cap : Nat) (d : Nat → Int) (w : World) (hs : Sees w a n d w.heap.size) (hn : n ≤ 65536) (hd : Digits d n) :
    Calls Try.prog 11 #[.slice a n cap] w fun e w' => e = .returned (.int .u8 (check d n)) ∧ w = w' := by
  have C := hide (luhn_any a n cap d w hs hn hd)
  clear hs hd
  go_enter Try.func11, Try.ntmps11
  go_wp2_with fail
  refine C.out.mono ?_
  rintro e w' ⟨rfl, rfl⟩
  go_wp2
  go_ret
  exact ⟨rfl, rfl⟩

set_option maxHeartbeats 1600000 in
theorem valid_any (a : Option Addr) (n cap : Nat) (d : Nat → Int) (r : Bool) (w : World) (hs : Sees w a n d w.heap.size) (hn : n ≤ 65537) (hd : Digits d n) (hr : (sumV d n n % 10 == 0) = r) :
    Calls Try.prog 12 #[.slice a n cap] w fun e w' => e = .returned (.bool r) ∧ w' = w := by
  have HS := hide hs
  have HD := hide hd
  have HR := hide hr
  clear hs hd hr
  go_enter Try.func12, Try.ntmps12
  go_wp2
  go_loop [3, 5] (fun t i => ∃ k : Nat, k ≤ n ∧ i = .int .i64 k ∧ t = .int .i64 (sumV d n k)) (fun _ i => n - (intOf i).toNat)
  case atStart => exact ⟨0, Nat.zero_le _, rfl, rfl⟩
  case round =>
    obtain ⟨k, hk, rfl, rfl⟩ := hrel
    obtain ⟨b1, b2⟩ := sumV_bd HD.out k hk
    by_cases hkn : k < n
    · obtain ⟨b, off, rfl, hb, hc⟩ := HS.out (by omega)
      have hck := hc (n - 1 - k) (by omega)
      obtain ⟨hd1, hd2⟩ := HD.out (n - 1 - k) (by omega)
      have hss : sumV d n (k + 1) = sumV d n k + tm (d (n - 1 - k) - 48) (k % 2 == 1) := rfl
      generalize sumV d n k = S at *
      generalize d (n - 1 - k) = x at *
      clear hc
      rcases Nat.mod_two_eq_zero_or_one k with hev | hev
      · have hevb : ((k : Int) % 2 == 1) = false := by rw [beq_eq_false_iff_ne]; omega
        rw [(even_b hev).2] at hss
        clear hev
        have HT : Hid (sumV d n (k + 1) = S + (x - 48)) := by rw [hss, tm, if_neg (by simp)]; show _ = _; omega
        clear hss
        go_wp2
        go_round
        case rel => exact ⟨k + 1, by omega, by go_num, by rw [HT.out]⟩
        case measure => simp [intOf]; omega
      · have hevb : ((k : Int) % 2 == 1) = true := by rw [beq_iff_eq]; omega
        rw [(odd_b hev).2] at hss
        clear hev
        by_cases h9 : 9 < 2 * (x - 48)
        · have HT : Hid (sumV d n (k + 1) = S + (2 * (x - 48) - 9)) := by rw [hss, tm, if_pos rfl, if_pos h9]; show _ = _; omega
          clear hss
          go_wp2
          go_round
          case rel => exact ⟨k + 1, by omega, by go_num, by rw [HT.out]⟩
          case measure => simp [intOf]; omega
        · have HT : Hid (sumV d n (k + 1) = S + 2 * (x - 48)) := by rw [hss, tm, if_pos rfl, if_neg h9]; show _ = _; omega
          clear hss
          go_wp2
          go_round
          case rel => exact ⟨k + 1, by omega, by go_num, by rw [HT.out]⟩
          case measure => simp [intOf]; omega
    · obtain rfl : k = n := by omega
      have hr := HR.out
      go_wp2
      go_ret
      exact ⟨rfl, rfl⟩

/-! ### the clone -/
/-- n bytes as cells -/
def cells (d : Nat → Int) (n : Nat) : List Value := (List.range n).map fun j => .int .u8 (d j)
theorem cells_len (d : Nat → Int) (n : Nat) : (cells d n).length = n := by simp [cells]
theorem cells_get (d : Nat → Int) (n j : Nat) (h : j < n) : (cells d n)[j]? = some (.int .u8 (d j)) := by simp [cells, h]
theorem cells_one (d : Nat → Int) (n : Nat) : ∀ v ∈ cells d n, v.oneCell' = true := by
  intro v hv
  obtain ⟨j, _, rfl⟩ := List.mem_map.1 hv
  rfl

/-- the row that a full make owns -/
theorem made_row {B g n : Nat} {w : World} {xs : List Value} (h : w.ownsRow B 5 1 (.slice (some ⟨g, 0, none⟩) n n) n xs) : w.heap[g]? = some (.cells xs.toArray 5 (0, 0)) ∧ xs.length = n := by
  rcases h.2 with ⟨h', _⟩ | ⟨g', cap', cur, h', _, hg, _, _, hsz, htake⟩
  · simp at h'
  · simp only [Value.slice.injEq, Option.some.injEq, Addr.mk.injEq, and_true, true_and] at h'
    obtain ⟨rfl, rfl⟩ := h'
    have e : xs = cur.toList := by rw [← htake, List.take_of_length_le]; rw [Array.length_toList, hsz]; exact Nat.le_refl _
    subst e
    exact ⟨by simpa using hg, by have := h.1; omega⟩

theorem splice_all (cur cs : List Value) (h : cs.length = cur.length) : splice cur 0 cs = cs := by
  unfold splice
  rw [List.take_zero, List.nil_append, Nat.zero_add, List.drop_eq_nil_of_le (by omega), List.append_nil]

theorem lt_of_row {w : World} {g : Nat} {o : Obj} (h : w.heap[g]? = some o) : g < w.heap.size := by
  have := (Array.getElem?_eq_some_iff.1 h).1
  exact this

theorem hsz5 : (Try.prog.info? 5).map (·.size) = some 1 := by kernel_rfl

theorem clone_nil (w : World) : Calls Try.prog 10 #[.slice none 0 0] w fun e w' => e = .returned (.slice none 0 0) ∧ w' = w := by
  have q : ∀ (w : World) (a : Option Addr) (n c n' c' : Nat), (binOp .eql 22 (.slice a n c) (.slice none n' c')).run Try.prog w = .ok (.bool a.isNone) w := fun w a n c n' c' => Lib.run_eql_slice_nil w _ _ a n c n' c' Try.underlying22
  go_enter Try.func10, Try.ntmps10
  go_wp2
  go_ret
  exact ⟨rfl, rfl⟩

set_option maxHeartbeats 1600000 in
theorem clone_any (x : Addr) (n cap : Nat) (d : Nat → Int) (w : World) (hs : Sees w (some x) n d w.heap.size) (hn : n ≤ 65536) :
    Calls Try.prog 10 #[.slice (some x) n cap] w fun e w' => e = .returned (.slice (some ⟨w.heap.size, 0, none⟩) n n) ∧ Sees w' (some ⟨w.heap.size, 0, none⟩) n d w'.heap.size ∧ Below w.heap.size w w' := by
  obtain ⟨i0, hi, hz0, hz1, hz2⟩ := info_parts info5
  have q : ∀ (w : World) (a : Option Addr) (n c n' c' : Nat), (binOp .eql 22 (.slice a n c) (.slice none n' c')).run Try.prog w = .ok (.bool a.isNone) w := fun w a n c n' c' => Lib.run_eql_slice_nil w _ _ a n c n' c' Try.underlying22
  have HS := hide hs
  obtain ⟨cs, hcs⟩ : ∃ cs, cells d n = cs := ⟨_, rfl⟩
  have hcl : cs.length = n := by rw [← hcs]; exact cells_len d n
  have HCL := hide hcl
  have HCS := hide hcs
  clear hs hcs hcl
  go_enter Try.func10, Try.ntmps10
  go_wp2_with (at_make; refine wpList_make_full _ rfl _ _ 22 rfl w.heap.size 5 i0 (.int .u8 0) 1 Try.underlying22 hi hz0 hz1 _ _ _ _ n rfl rfl rfl rfl (by rw [hz2]; omega) (by unfold maxLen; omega) (Nat.le_refl _) ?_)
  intro w1 hown1 hgrow1
  have hb1 : Below w.heap.size w w1 := (Below.refl _ _).grown hgrow1 (Nat.le_refl _) (fun k hk => by cases hk)
  obtain ⟨zs, hrow, hrl⟩ : ∃ zs : List Value, w1.heap[w.heap.size]? = some (.cells zs.toArray 5 (0, 0)) ∧ zs.length = n := ⟨_, made_row hown1⟩
  have HROW := hide hrow
  have HRL := hide hrl
  have hpos : 0 < cs.length → (some (⟨w.heap.size, 0, none⟩ : Addr)) = some ⟨w.heap.size, 0, none⟩ ∧ ∃ ad, some x = some ad ∧ ∀ j v, cs[j]? = some v → w1.cell? (ad.add j) = some v := by
    intro h0
    refine ⟨rfl, x, rfl, fun j v hj => ?_⟩
    rw [HCL.out] at h0
    have hjn : j < n := by have := (List.getElem?_eq_some_iff.1 hj).1; rw [HCL.out] at this; exact this
    obtain ⟨b, off, hx, hb, hc⟩ := HS.out h0
    obtain rfl : x = ⟨b, off, none⟩ := by simpa using hx
    rw [← HCS.out, cells_get d n j hjn] at hj
    obtain rfl : Value.int .u8 (d j) = v := by simpa using hj
    rw [Go.WideShapes.add_plain]
    exact (hb1.cell (by exact hb)).trans (hc j hjn)
  have HPOS := hide hpos
  clear hpos hrow hrl hown1 hgrow1
  go_wp2_with (refine wpList_copy_splice rfl (.tmp 9) (.tmp 10) 22 22 rfl 5 Try.underlying22 hsz5 _ _ _ _ _ _ rfl rfl w.heap.size 0 zs 5 HROW.out cs (by rw [HCL.out]; simp) HPOS.out (by rw [HCL.out, HRL.out]; omega) (by rw [← HCS.out]; exact cells_one d n) w.heap.size w hb1 (Nat.le_refl _) ?_)
  intro w2 HG2 hB2
  have hlt : w.heap.size < w2.heap.size := lt_of_row HG2.out
  have HSEE : Hid (Sees w2 (some ⟨w.heap.size, 0, none⟩) n d w2.heap.size) := fun _ => ⟨w.heap.size, 0, rfl, hlt, fun j hj => by
    have h := HG2.out
    rw [splice_all zs cs (by rw [HCL.out, HRL.out])] at h
    rw [Nat.zero_add, cell_of_row _ _ _ _ _ _ h, ← HCS.out]
    simpa using cells_get d n j hj⟩
  clear HG2
  go_wp2
  go_ret
  exact ⟨rfl, HSEE.out, hB2⟩

theorem clone_u (a : Option Addr) (n cap : Nat) (d : Nat → Int) (w : World) (hs : Sees w a n d w.heap.size) (hnil : a = none → n = 0 ∧ cap = 0) (hn : n ≤ 65536) :
    Calls Try.prog 10 #[.slice a n cap] w fun e w' => ∃ a' c', e = .returned (.slice a' n c') ∧ Sees w' a' n d w'.heap.size ∧ Below w.heap.size w w' := by
  cases a with
  | none =>
    obtain ⟨rfl, rfl⟩ := hnil rfl
    refine (clone_nil w).mono ?_
    rintro e w' ⟨rfl, rfl⟩
    exact ⟨none, 0, rfl, fun h => by omega, Below.refl _ _⟩
  | some x =>
    refine (clone_any x n cap d w hs hn).mono ?_
    rintro e w' ⟨rfl, h1, h2⟩
    exact ⟨_, _, rfl, h1, h2⟩

end Go.Proofs.Qxb6000387a.Lu
