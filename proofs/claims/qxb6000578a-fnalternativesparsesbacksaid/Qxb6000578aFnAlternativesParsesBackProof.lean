/-
  THE PROOF OF 'Rows.FnAlternativesParsesBackSaid': the frame is the kit's shell's, turned to a slice of strings; the walk is ours.
-/
import Derived.Test.Qxb6000578aBack
import Derived.Test.Qxb6000578aStrView
import Derived.Below
namespace Go.Proofs.Qxb6000578a.fnAlternativesParsesBack
open Go.ChangeShapes Go.WideShapes Go.ChangeAt Go.RowKit

theorem own : ownKnob Try.prog.godebug = none := by kernel_rfl
theorem laidOut : laidOutB Try.prog = true := by kernel_rfl

set_option maxRecDepth 100000 in
theorem lifted (os : Os) (started : os.Started) (H : Type) (enc : TypeId × Value → H) :
    ReturnsInHanded {} Try.checked os 9 .any (Rows.fnAlternativesParsesBackSpec.pre6 enc Try.prog Try.f9 Rows.fnAlternativesParsesBackRow.domain false) (Rows.fnAlternativesParsesBackSpec.post enc Try.prog Try.f9 false true false false) := by
  refine returnsInHanded_of_change (C := Try.checked) own started (by kernel_rfl) Try.func9
    (ChangeSpec.witness6 (enc := enc) (C := Try.checked) false ⟨#[], #[.slice none 0 0], []⟩ 8 (by kernel_rfl) (by kernel_rfl) (by kernel_rfl) (by kernel_rfl)) ?_
  intro W base args ds gs before hval0 hW hcnd _
  have hval : ∀ (j : Nat) t v, Try.f9.params[j]? = some t → args[j]? = some v → Value.okWide Try.prog W .any base t v := hval0
  have hW' := hW
  obtain ⟨p, q, hA0, hV, rfl, hfz, hnd⟩ := hW
  have hA : DataW.TrodAll enc Try.prog W 0 (fun _ => true) true Try.f9.params.toList args.toList ds p := hA0
  rw [Try.params9] at hA hval
  obtain ⟨v0, vs0, d0, ds0, p0, q0, hargs, rfl, rfl, h0, r0⟩ := trodAll_cons hA
  obtain ⟨rfl, rfl, rfl⟩ := trodAll_nil r0
  obtain rfl : args = #[v0] := by cases args; simp_all
  obtain ⟨rfl, rfl⟩ := trodVars_none hV
  obtain ⟨a1, len1, cap1, rfl⟩ := okWide_slice Try.underlying29 (hval 0 29 v0 rfl rfl)
  have k0 := h0
  have lt0 : ∀ x ∈ p0, x.block < W.heap.size := by obtain ⟨m, hm⟩ := k0; exact DataW.trod_lt m _ _ _ hm
  obtain ⟨s1, hS1, hn1, hm1, hz1⟩ := St.view h0
  clear hA0 hval0
  have walk : Calls Try.prog 9 #[.slice a1 len1 cap1] W fun e w' => e = .returned (.bool true) ∧ Below W.heap.size W w' := by
    by_cases hT : len1 + St.tot s1 len1 ≤ 1048576
    · exact St.back_yes a1 len1 cap1 s1 W hS1 hn1 hT
    · exact St.back_no a1 len1 cap1 s1 W hS1 hm1 hz1 hT
  refine walk.mono fun e W' ⟨he, bel⟩ => ?_
  subst he
  exact ⟨_, rfl, _, _, _, [], _, [], hW', trodAll_mk1 (shut_bool Try.underlying4 _), (trodAll_cons_mk (Below.trod laidOut (by kernel_rfl) (of_decide_eq_true (by kernel_rfl)) k0 bel lt0) trodAll_mk0), rfl, bel.frame _, fun h => by cases h⟩

theorem over : Rows.fnAlternativesParsesBackRow.holds Try.pinned (OpenSpec.ofChange Rows.fnAlternativesParsesBackSpec) :=
  OpenClaim.holds_of_wide 9 Try.f9 rfl rfl rfl rfl rfl rfl rfl ⟨rfl, rfl, rfl, rfl, rfl⟩ rfl rfl rfl rfl rfl (by kernel_rfl) Try.func9 (by kernel_rfl)
    (of_decide_eq_true (by kernel_rfl)) (by unfold Func.isWrapper; first | (rw [if_pos (by decide +kernel)]; kernel_rfl) | (rw [if_neg (by decide +kernel)]; exact ⟨rfl, rfl⟩))
    (fun os started H enc _ => lifted os started H enc)

theorem proved : Rows.FnAlternativesParsesBackSaid := over
end Go.Proofs.Qxb6000578a.fnAlternativesParsesBack
