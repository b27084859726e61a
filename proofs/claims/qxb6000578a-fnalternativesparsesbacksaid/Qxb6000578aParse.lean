/-
  THE WALK of 'zzParseAlternatives'.
-/
import Derived.Test.Qxb6000578aTokens
import Derived.Deep.QuietTactic
import Derived.BigQuiet
namespace Go.Proofs.Qxb6000578a.St
open Go.RowKit

theorem info9 : (Try.prog.info? 9).map (fun i => (i.zero, i.size, i.bytes)) = some (some (.string ByteArray.empty), 1, 16) := by kernel_rfl

/-- what an append of one string does to the relation -/
theorem rel_app9 {B n : Nat} {w wr w1 : World} {v v' : Value} {l l' : List ByteArray} {t : ByteArray} {o : Obj} (hown : wr.ownsRow B 9 1 v n (svals l)) (hb : Below B w wr) (hB : B ≤ wr.heap.size)
    (hown' : w1.ownsRow B 9 1 v' (n + 1) (svals l ++ [Value.string t])) (hgrow : (wr.alloc o).grownBy w1 v.ownBlock) (hl : l' = l ++ [t]) :
    w1.ownsRow B 9 1 v' (n + 1) (svals l') ∧ Below B w w1 := by
  subst hl
  refine ⟨by rw [svals_snoc]; exact hown', ?_⟩
  exact (hb.alloc hB o).grown hgrow (by simp; omega) (fun k hk => (hown.lt k hk).1)

/-- an owned row of strings is seen -/
theorem own_sees9 {B : Nat} {wr : World} {v : Value} {l : List ByteArray} {n : Nat} (hl : l.length = n) (hown : wr.ownsRow B 9 1 v n (svals l)) :
    ∃ a cap, v = .slice a n cap ∧ Sees wr a n (fun j => l.getD j ByteArray.empty) wr.heap.size := by
  subst hl
  rcases hown.2 with ⟨h1, h2⟩ | ⟨g, cap, cur, h1, h2, h3, _⟩
  · exact ⟨none, 0, by rw [h2]; exact h1, fun h => by omega⟩
  · refine ⟨some ⟨g, 0, none⟩, cap, h1, fun _ => ⟨g, 0, rfl, ?_, ?_⟩⟩
    · subst h1; exact (hown.lt g rfl).2
    · intro j hj
      rw [h1] at hown
      rw [Nat.zero_add, hown.cellAt j (by omega)]
      simp [svals, hj]

theorem L_at (S : ByteArray) (k : Nat) (h : k < S.size) : (L S)[k]'(by rw [← L_size]; exact h) = S[k] := rfl
theorem byte_eq (c : UInt8) (n : Nat) (hn : n < 256) : (((c.toNat : Int) == (n : Int)) = true) ↔ c = UInt8.ofNat n := by
  rw [beq_iff_eq]
  constructor
  · intro h
    have : c.toNat = n := by omega
    rw [← this]
    simp
  · intro h
    rw [h]
    simp
    omega

/-! the tokens one by one -/
theorem tok_i (s : Nat → ByteArray) (r i : Nat) (h : i < r) : (words s r ++ [s (r + 1)]).getD i ByteArray.empty = s i ++ ⟨#[44]⟩ := by
  unfold words
  rw [List.getD_eq_getElem?_getD, List.append_assoc, List.getElem?_append_left (by simpa using h)]
  simp [h]
theorem tok_r (s : Nat → ByteArray) (r i : Nat) (h : i = r) : (words s r ++ [s (r + 1)]).getD i ByteArray.empty = s r := by
  subst h
  unfold words
  rw [List.getD_eq_getElem?_getD, List.append_assoc, List.getElem?_append_right (by simp)]
  simp
theorem tok_or (s : Nat → ByteArray) (r i : Nat) (h : i = r + 1) : (words s r ++ [s (r + 1)]).getD i ByteArray.empty = ⟨#[111, 114]⟩ := by
  subst h
  unfold words
  rw [List.getD_eq_getElem?_getD, List.append_assoc, List.getElem?_append_right (by simp)]
  simp
theorem tok_l (s : Nat → ByteArray) (r i : Nat) (h : i = r + 2) : (words s r ++ [s (r + 1)]).getD i ByteArray.empty = s (r + 1) := by
  subst h
  unfold words
  rw [List.getD_eq_getElem?_getD, List.append_assoc, List.getElem?_append_right (by simp)]
  simp

theorem tokens_form {B m r : Nat} {w1 : World} {v : Value} {s : Nat → ByteArray} (hm : r + 3 = m) (hown : w1.ownsRow B 9 1 v m (svals (words s r ++ [s (r + 1)]))) :
    ∃ b4 off4 c4, v = .slice (some ⟨b4, off4, none⟩) m c4 ∧ b4 < w1.heap.size ∧ w1.cell? ⟨b4, off4 + (m - 2), none⟩ = some (.string ⟨#[111, 114]⟩) ∧ w1.cell? ⟨b4, off4 + (m - 3), none⟩ = some (.string (s r)) ∧
      w1.cell? ⟨b4, off4 + (m - 1), none⟩ = some (.string (s (r + 1))) ∧ ∀ i, i < m - 3 → w1.cell? ⟨b4, off4 + i, none⟩ = some (.string (s i ++ ⟨#[44]⟩)) := by
  obtain ⟨a4, c4, hv4, hsee⟩ := own_sees9 (by rw [List.length_append, words_len]; exact hm) hown
  obtain ⟨b4, off4, ha4, hlt4, hc4⟩ := hsee (by omega)
  refine ⟨b4, off4, c4, by rw [hv4, ha4], hlt4, ?_, ?_, ?_, fun i hi => ?_⟩
  · exact (hc4 _ (by omega)).trans (congrArg (fun t => some (Value.string t)) (tok_or s r (m - 2) (by omega)))
  · exact (hc4 _ (by omega)).trans (congrArg (fun t => some (Value.string t)) (tok_r s r (m - 3) (by omega)))
  · exact (hc4 _ (by omega)).trans (congrArg (fun t => some (Value.string t)) (tok_l s r (m - 1) (by omega)))
  · exact (hc4 _ (by omega)).trans (congrArg (fun t => some (Value.string t)) (tok_i s r i (by omega)))

/-- the first k strings -/
def firsts (s : Nat → ByteArray) (k : Nat) : List ByteArray := (List.range k).map s
theorem firsts_len (s : Nat → ByteArray) (k : Nat) : (firsts s k).length = k := by simp [firsts]
theorem firsts_succ (s : Nat → ByteArray) (k : Nat) : firsts s (k + 1) = firsts s k ++ [s k] := by simp [firsts, List.range_succ]
theorem firsts_get (s : Nat → ByteArray) (n j : Nat) (h : j < n) : (firsts s n).getD j ByteArray.empty = s j := by
  unfold firsts
  rw [List.getD_eq_getElem?_getD]
  simp [h]
theorem Sees.congr {w : World} {a : Option Addr} {n B : Nat} {f g : Nat → ByteArray} (h : Sees w a n f B) (e : ∀ j, j < n → f j = g j) : Sees w a n g B := by
  intro hn
  obtain ⟨b, off, h1, h2, h3⟩ := h hn
  exact ⟨b, off, h1, h2, fun j hj => by rw [h3 j hj, e j hj]⟩

/-- a word with its comma -/
theorem comma (t : ByteArray) : (t ++ ⟨#[44]⟩ : ByteArray).size = t.size + 1 ∧ (t ++ ⟨#[44]⟩ : ByteArray).extract 0 t.size = t ∧ ∀ h, (((t ++ ⟨#[44]⟩ : ByteArray)[t.size]'h).toNat : Int) = 44 := by
  refine ⟨by rw [ByteArray.size_append]; rfl, ?_, ?_⟩
  · apply L_inj
    unfold L
    rw [Lib.extract_data, L_size]
    simp [L]
  · intro h
    have e : (t ++ ⟨#[44]⟩ : ByteArray)[t.size]'h = 44 := by
      rw [← L_at]
      have e2 : L (t ++ ⟨#[44]⟩) = L t ++ [44] := L_append _ _
      have e3 : (L (t ++ ⟨#[44]⟩))[t.size]? = some 44 := by rw [e2, L_size, List.getElem?_append_right (Nat.le_refl _)]; simp
      exact (List.getElem?_eq_some_iff.1 e3).2
    rw [e]; rfl

set_option maxHeartbeats 1600000 in
set_option maxRecDepth 100000 in
theorem parse_many (s : Nat → ByteArray) (r : Nat) (S : ByteArray) (w : World) (hgood : ∀ j, j < r + 2 → Good (s j)) (hbd : ∀ j, j < r + 2 → (s j).size ≤ 1048576) (hS : L S = closed ((words s r).map L) ++ L (s (r + 1))) (hz : S.size ≤ 1048576) (hz0 : 0 < S.size) :
    Calls Try.prog 25 #[.string S] w fun e w' => ∃ a c, e = .returned (.tuple #[.slice a (r + 2) c, .bool true]) ∧ Sees w' a (r + 2) s w'.heap.size ∧ Below w.heap.size w w' := by
  obtain ⟨i0, hi, hz1, hz2, hz3⟩ := info_parts info9
  have HG := hide hgood
  have HBD := hide hbd
  have HS := hide hS
  clear hgood hS hbd
  have hzb : ((S.size : Int) == 0) = false := by rw [beq_eq_false_iff_ne]; omega
  go_enter Try.func25, Try.ntmps25
  go_wp2
  go_loopw [4, 5, 6] (fun v st i wr => ∃ (k sn : Nat) (ts : List ByteArray), k ≤ S.size ∧ i = .int .i64 k ∧ st = .int .i64 sn ∧ Read S ts sn k ∧ ts.length ≤ k ∧ wr.ownsRow w.heap.size 9 1 v ts.length (svals ts) ∧ Below w.heap.size w wr) (fun _ _ i _ => S.size - (intOf i).toNat)
  case atStart => exact ⟨0, 0, [], Nat.zero_le _, rfl, rfl, Read.zero S, Nat.le_refl _, World.ownsRow_nil _ _ _ _, Below.refl _ _⟩
  case round =>
    obtain ⟨k, sn, ts, hk, rfl, rfl, hread, htl, hown, hb⟩ := hrel
    have hsz := hb.size
    have hsk := hread.le
    have HR := hide hread
    clear hread
    by_cases hkn : k < S.size
    · have hkL : k < (L S).length := by rw [← L_size]; exact hkn
      by_cases h32 : (L S)[k] = 32
      · have hbb : (((S[k]'hkn).toNat : Int) == 32) = true := (byte_eq _ 32 (by omega)).2 h32
        have HRC := hide (HR.out.close hkL h32)
        clear h32 hkL
        go_wp2_with (at_builtin; refine wpList_append_own _ rfl _ _ 29 rfl w.heap.size 9 i0 (.string ByteArray.empty) 1 16 Try.underlying29 hi hz1 hz2 hz3 rfl (by decide) _ _ _ rfl (hown.alloc _) ⟨wr.heap.size, 0, none⟩ 1 1 [.string (S.extract sn k)] rfl rfl (cell_one_new _ _ _) (by intro u hu; simp at hu; subst hu; rfl) (by unfold maxLen; omega) (by omega) (by simp; omega) ?_)
        intro v' w1 hown' hgrow _
        have R := hide (rel_app9 hown hb hsz hown' hgrow rfl)
        clear hown' hgrow hown
        go_wp2
        go_roundw
        case rel => exact ⟨k + 1, k + 1, _, by omega, by go_num, by go_num, HRC.out, by simp; omega, by rw [List.length_append]; exact R.out.1, R.out.2⟩
        case measure => simp [intOf]; omega
      · have hbb : (((S[k]'hkn).toNat : Int) == 32) = false := by rw [← Bool.not_eq_true]; exact fun h => h32 ((byte_eq _ 32 (by omega)).1 h)
        have HRC := hide (HR.out.step hkL h32)
        clear h32 hkL
        go_wp2
        go_roundw
        case rel => exact ⟨k + 1, sn, ts, by omega, by go_num, rfl, HRC.out, by omega, hown, hb⟩
        case measure => simp [intOf]; omega
    · obtain rfl : k = S.size := by omega
      have htok := HR.out.done HS.out (words_free HG.out) (HG.out (r + 1) (by omega)).2.1
      have HTOK := hide htok
      have hlen : ts.length + 1 = r + 3 := by
        have := congrArg List.length htok
        simp [words_len] at this
        omega
      have HLEN := hide hlen
      clear htok HR hlen
      go_wp2_with (at_builtin; refine wpList_append_own _ rfl _ _ 29 rfl w.heap.size 9 i0 (.string ByteArray.empty) 1 16 Try.underlying29 hi hz1 hz2 hz3 rfl (by decide) _ _ _ rfl (hown.alloc _) ⟨wr.heap.size, 0, none⟩ 1 1 [.string (S.extract sn S.size)] rfl rfl (cell_one_new _ _ _) (by intro u hu; simp at hu; subst hu; rfl) (by unfold maxLen; omega) (by omega) (by simp; omega) ?_)
      intro v' w1 hown' hgrow _
      have R := rel_app9 hown hb hsz hown' hgrow HTOK.out.symm
      rw [HLEN.out] at R
      clear hown' hgrow hown
      obtain ⟨m, hm⟩ : ∃ m, r + 3 = m := ⟨_, rfl⟩
      rw [hm] at R
      have hm3 : 3 ≤ m := by omega
      have hmz : m ≤ 1048577 := by have := HLEN.out; omega
      obtain ⟨b4, off4, c4, hv4, hlt4, cOr, cR, cL, cI⟩ := tokens_form hm R.1
      have CR := hide cR
      have CL := hide cL
      have CI := hide cI
      have hbw := R.2
      have HMM := hide hm
      have hmr : (r : Int) = (m : Int) - 3 := by omega
      have HMR := hide hmr
      clear R cR cL cI hb hsz HTOK HLEN hm hmr
      subst hv4
      have hor : ((⟨#[111, 114]⟩ : ByteArray).toList == (⟨#[111, 114]⟩ : ByteArray).toList) = true := by simp
      have hm1b : ((m : Int) == 1) = false := by rw [beq_eq_false_iff_ne]; omega
      go_wp2
      go_loopw [8, 9] (fun v i wr => ∃ k : Nat, k ≤ m - 3 ∧ i = .int .i64 k ∧ wr.ownsRow w1.heap.size 9 1 v k (svals (firsts s k)) ∧ Below w1.heap.size w1 wr) (fun _ i _ => m - (intOf i).toNat)
      case atStart => exact ⟨0, Nat.zero_le _, rfl, World.ownsRow_nil _ _ _ _, Below.refl _ _⟩
      case round =>
        obtain ⟨k, hk, rfl, hown, hb⟩ := hrel
        have hsz := hb.size
        by_cases hkm : k < m - 3
        · have hkm' : (k : Int) < (m : Int) - 3 := by omega
          have hck : wr.cell? ⟨b4, off4 + k, none⟩ = some (.string (s k ++ ⟨#[44]⟩)) := (hb.cell (by exact hlt4)).trans (CI.out k hkm)
          obtain ⟨q1, q2, q3⟩ := comma (s k)
          generalize s k ++ ⟨#[44]⟩ = t at *
          have ht0 : ((t.size : Int) == 0) = false := by rw [beq_eq_false_iff_ne]; omega
          have ht1 : 0 < t.size := by omega
          have htl : t.size - 1 < t.size := by omega
          have ht2 : t.size - 1 = (s k).size := by omega
          have ht3 : ((((t[t.size - 1]'htl).toNat) : Int) == 44) = true := by
            rw [beq_iff_eq, ← q3 (by omega)]
            congr 3
          have ht4 : t.size ≤ 1048577 := by have := HBD.out k (by have := HMM.out; omega); omega
          have HX : Hid (t.extract 0 (t.size - 1) = s k) := by rw [ht2]; exact q2
          clear q1 q2 q3 ht2
          go_wp2_with (at_builtin; refine wpList_append_own _ rfl _ _ 29 rfl w1.heap.size 9 i0 (.string ByteArray.empty) 1 16 Try.underlying29 hi hz1 hz2 hz3 rfl (by decide) _ _ _ rfl (hown.alloc _) ⟨wr.heap.size, 0, none⟩ 1 1 [.string (t.extract 0 (t.size - 1))] rfl rfl (cell_one_new _ _ _) (by intro u hu; simp at hu; subst hu; rfl) (by unfold maxLen; omega) (by omega) (by simp; omega) ?_)
          intro v' w2 hown' hgrow _
          have R := hide (rel_app9 (l' := firsts s (k + 1)) hown hb hsz hown' hgrow (by rw [firsts_succ, HX.out]))
          clear hown' hgrow hown
          go_wp2
          go_roundw
          case rel => exact ⟨k + 1, by omega, by go_num, R.out.1, R.out.2⟩
          case measure => simp [intOf]; omega
        · have hkm' : ¬ (k : Int) < (m : Int) - 3 := by omega
          have cR' : wr.cell? ⟨b4, off4 + (m - 3), none⟩ = some (.string (s r)) := (hb.cell (by exact hlt4)).trans CR.out
          go_wp2_with (at_builtin; refine wpList_append_own _ rfl _ _ 29 rfl w1.heap.size 9 i0 (.string ByteArray.empty) 1 16 Try.underlying29 hi hz1 hz2 hz3 rfl (by decide) _ _ _ rfl (hown.alloc _) ⟨wr.heap.size, 0, none⟩ 1 1 [.string (s r)] rfl rfl (cell_one_new _ _ _) (by intro u hu; simp at hu; subst hu; rfl) (by unfold maxLen; omega) (by omega) (by simp; omega) ?_)
          intro v' w2 hown' hgrow _
          have hkr : r = k := by have := HMM.out; omega
          subst hkr
          have R := rel_app9 (l' := firsts s (r + 1)) hown hb hsz hown' hgrow (firsts_succ s r)
          have cL' : w2.cell? ⟨b4, off4 + (m - 1), none⟩ = some (.string (s (r + 1))) := (R.2.cell (by exact hlt4)).trans CL.out
          have hsz2 := R.2.size
          clear hown' hgrow hown
          obtain ⟨ho2, hb2⟩ := R
          go_wp2_with (at_builtin; refine wpList_append_own _ rfl _ _ 29 rfl w1.heap.size 9 i0 (.string ByteArray.empty) 1 16 Try.underlying29 hi hz1 hz2 hz3 rfl (by decide) _ _ _ rfl (ho2.alloc _) ⟨w2.heap.size, 0, none⟩ 1 1 [.string (s (r + 1))] rfl rfl (cell_one_new _ _ _) (by intro u hu; simp at hu; subst hu; rfl) (by unfold maxLen; omega) (by omega) (by simp; omega) ?_)
          intro v'' w3 hown' hgrow _
          have R3 := rel_app9 (l' := firsts s (r + 2)) ho2 hb2 hsz2 hown' hgrow (firsts_succ s (r + 1))
          clear hown' hgrow ho2
          obtain ⟨a5, c5, hv5, hsee5⟩ := own_sees9 (firsts_len s (r + 2)) R3.1
          have HSEE := hide (hsee5.congr (fun j hj => firsts_get s (r + 2) j hj))
          have hfin : Below w.heap.size w w3 := hbw.trans (R3.2.mono hbw.size)
          clear R3 hsee5
          subst hv5
          go_wp2
          go_ret2
          exact ⟨a5, c5, rfl, HSEE.out, hfin⟩

theorem parse_empty (S : ByteArray) (s : Nat → ByteArray) (w : World) (hz : S.size = 0) :
    Calls Try.prog 25 #[.string S] w fun e w' => ∃ a c, e = .returned (.tuple #[.slice a 0 c, .bool true]) ∧ Sees w' a 0 s w'.heap.size ∧ Below w.heap.size w w' := by
  have hzb : ((S.size : Int) == 0) = true := by rw [beq_iff_eq]; omega
  clear hz
  go_enter Try.func25, Try.ntmps25
  go_wp2
  go_ret2
  exact ⟨none, 0, rfl, fun h => by omega, Below.refl _ _⟩

set_option maxHeartbeats 1600000 in
set_option maxRecDepth 100000 in
theorem parse_one (s : Nat → ByteArray) (S : ByteArray) (w : World) (hs0 : S = s 0) (hfree : 32 ∉ L S) (hz : S.size ≤ 1048576) (hz0 : 0 < S.size) :
    Calls Try.prog 25 #[.string S] w fun e w' => ∃ a c, e = .returned (.tuple #[.slice a 1 c, .bool true]) ∧ Sees w' a 1 s w'.heap.size ∧ Below w.heap.size w w' := by
  obtain ⟨i0, hi, hz1, hz2, hz3⟩ := info_parts info9
  have HF := hide hfree
  have HS0 := hide hs0
  clear hfree hs0
  have hzb : ((S.size : Int) == 0) = false := by rw [beq_eq_false_iff_ne]; omega
  go_enter Try.func25, Try.ntmps25
  go_wp2
  go_loopw [4, 5, 6] (fun v st i wr => ∃ (k sn : Nat) (ts : List ByteArray), k ≤ S.size ∧ i = .int .i64 k ∧ st = .int .i64 sn ∧ Read S ts sn k ∧ ts.length ≤ k ∧ wr.ownsRow w.heap.size 9 1 v ts.length (svals ts) ∧ Below w.heap.size w wr) (fun _ _ i _ => S.size - (intOf i).toNat)
  case atStart => exact ⟨0, 0, [], Nat.zero_le _, rfl, rfl, Read.zero S, Nat.le_refl _, World.ownsRow_nil _ _ _ _, Below.refl _ _⟩
  case round =>
    obtain ⟨k, sn, ts, hk, rfl, rfl, hread, htl, hown, hb⟩ := hrel
    have hsz := hb.size
    have hsk := hread.le
    have HR := hide hread
    clear hread
    by_cases hkn : k < S.size
    · have hkL : k < (L S).length := by rw [← L_size]; exact hkn
      by_cases h32 : (L S)[k] = 32
      · have hbb : (((S[k]'hkn).toNat : Int) == 32) = true := (byte_eq _ 32 (by omega)).2 h32
        have HRC := hide (HR.out.close hkL h32)
        clear h32 hkL
        go_wp2_with (at_builtin; refine wpList_append_own _ rfl _ _ 29 rfl w.heap.size 9 i0 (.string ByteArray.empty) 1 16 Try.underlying29 hi hz1 hz2 hz3 rfl (by decide) _ _ _ rfl (hown.alloc _) ⟨wr.heap.size, 0, none⟩ 1 1 [.string (S.extract sn k)] rfl rfl (cell_one_new _ _ _) (by intro u hu; simp at hu; subst hu; rfl) (by unfold maxLen; omega) (by omega) (by simp; omega) ?_)
        intro v' w1 hown' hgrow _
        have R := hide (rel_app9 hown hb hsz hown' hgrow rfl)
        clear hown' hgrow hown
        go_wp2
        go_roundw
        case rel => exact ⟨k + 1, k + 1, _, by omega, by go_num, by go_num, HRC.out, by simp; omega, by rw [List.length_append]; exact R.out.1, R.out.2⟩
        case measure => simp [intOf]; omega
      · have hbb : (((S[k]'hkn).toNat : Int) == 32) = false := by rw [← Bool.not_eq_true]; exact fun h => h32 ((byte_eq _ 32 (by omega)).1 h)
        have HRC := hide (HR.out.step hkL h32)
        clear h32 hkL
        go_wp2
        go_roundw
        case rel => exact ⟨k + 1, sn, ts, by omega, by go_num, rfl, HRC.out, by omega, hown, hb⟩
        case measure => simp [intOf]; omega
    · obtain rfl : k = S.size := by omega
      have htok := HR.out.done (us := []) (b := S) (by simp [closed]) (by simp) HF.out
      have hlen : ts.length = 0 := by
        have := congrArg List.length htok
        simpa using this
      obtain rfl : ts = [] := List.length_eq_zero_iff.1 hlen
      have HTOK := hide htok
      clear htok HR hlen
      go_wp2_with (at_builtin; refine wpList_append_own _ rfl _ _ 29 rfl w.heap.size 9 i0 (.string ByteArray.empty) 1 16 Try.underlying29 hi hz1 hz2 hz3 rfl (by decide) _ _ _ rfl (hown.alloc _) ⟨wr.heap.size, 0, none⟩ 1 1 [.string (S.extract sn S.size)] rfl rfl (cell_one_new _ _ _) (by intro u hu; simp at hu; subst hu; rfl) (by unfold maxLen; simp) (by simp) (by simp; omega) ?_)
      intro v' w1 hown' hgrow _
      have R := rel_app9 (l' := [S]) hown hb hsz hown' hgrow HTOK.out.symm
      clear hown' hgrow hown
      obtain ⟨a5, c5, hv5, hsee5⟩ := own_sees9 (n := 1) rfl R.1
      have HSEE := hide (hsee5.congr (g := s) (fun j hj => by
        obtain rfl : j = 0 := by omega
        exact HS0.out))
      have hfin := R.2
      clear R hsee5
      subst hv5
      go_wp2
      go_ret2
      exact ⟨a5, c5, rfl, HSEE.out, hfin⟩

theorem tot_ge (s : Nat → ByteArray) {n j : Nat} (h : j < n) : (s j).size ≤ tot s n := by
  have := tot_mono s (show j + 1 ≤ n by omega)
  rw [tot_succ] at this
  omega

/-- what 'alternatives' writes reads back -/
theorem parse_any (s : Nat → ByteArray) (n : Nat) (w : World) (hgood : ∀ j, j < n → Good (s j)) (hn : n ≤ 1024) (ht : tot s n ≤ 65536) :
    Calls Try.prog 25 #[.string (altB s n n)] w fun e w' => ∃ a c, e = .returned (.tuple #[.slice a n c, .bool true]) ∧ Sees w' a n s w'.heap.size ∧ Below w.heap.size w w' := by
  match n, hgood, hn, ht with
  | 0, _, _, _ => exact parse_empty _ s w rfl
  | 1, hgood, _, ht =>
    have hg := hgood 0 (by omega)
    have hz := tot_ge s (show 0 < 1 by omega)
    rw [alt_one]
    exact parse_one s (s 0) w rfl hg.2.1 (by omega) hg.1
  | r + 2, hgood, hn, ht =>
    have hb := alt_bound s (r + 2) (r + 2) (Nat.le_refl _)
    have hz := alt_size s (r + 2) (r + 2) (Nat.le_refl _)
    rw [if_neg (by omega), if_pos rfl] at hz
    exact parse_many s r _ w hgood (fun j hj => by have := tot_ge s hj; omega) (alt_words s r) (by omega) (by omega)

end Go.Proofs.Qxb6000578a.St
