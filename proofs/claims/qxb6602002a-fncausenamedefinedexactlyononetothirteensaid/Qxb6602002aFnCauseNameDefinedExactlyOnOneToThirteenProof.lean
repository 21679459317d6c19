/-
  'FnCauseNameDefinedExactlyOnOneToThirteen' returns true for every uint16: the frame is the guide's template as the skeleton tool printed it; the walk is ours.
-/
import Derived.Test.Qxb6602002aRows
import Derived.WalkKit
import Derived.ProofKit
import Derived.OpenShut
import Derived.ShutString
namespace Go.Proofs.Qxb6602002a.fnCauseNameDefinedExactlyOnOneToThirteen
open Go.ChangeShapes Go.WideShapes Go.ChangeAt Go.RowKit
open Go.ChangeMaps (open_string shut_string)
set_option linter.unusedVariables false      -- a walk need not use every 'w<i>' (that an integer argument fits its kind)

theorem own : ownKnob Try.prog.godebug = none := by kernel_rfl

/-! ### STEP 1: THE WALK: the Go text returns true. 'Grown w w'': the world has at most new blocks (Derived/RowKit3.lean). Part the cases AHEAD of 'go_enter' where a test parts the walk; take each callee by a contract of your own. -/
theorem walk (a0 : Int) (w0 : (Lit.int .u16 a0).wf = true) (w : World) :
    Calls Try.prog 5 #[.int .u16 a0] w fun e w' => e = .returned (.bool true) ∧ Grown w w' := by
  have hb : 0 ≤ a0 ∧ a0 ≤ 65535 := bounds_u16 w0
  obtain ⟨h0, h1⟩ := hb
  by_cases hin : 1 ≤ a0 ∧ a0 ≤ 13
  · obtain ⟨l0, l1⟩ := hin
    have hc : a0 = 1 ∨ a0 = 2 ∨ a0 = 3 ∨ a0 = 4 ∨ a0 = 5 ∨ a0 = 6 ∨ a0 = 7 ∨ a0 = 8 ∨ a0 = 9 ∨ a0 = 10 ∨ a0 = 11 ∨ a0 = 12 ∨ a0 = 13 := by omega
    clear w0 h0 h1 l0 l1
    rcases hc with rfl | rfl | rfl | rfl | rfl | rfl | rfl | rfl | rfl | rfl | rfl | rfl | rfl
    all_goals
      go_enter Try.func5, Try.ntmps5
      go_wp2
      go_ret
      exact ⟨rfl, Grown.refl _⟩
  · by_cases hz : a0 < 1
    · obtain rfl : a0 = 0 := by omega
      clear w0 h0 h1 hin hz
      go_enter Try.func5, Try.ntmps5
      go_wp2
      go_ret
      exact ⟨rfl, Grown.refl _⟩
    · have h14 : 14 ≤ a0 := by omega
      have hd : decide (a0 ≤ 13) = false := by simp; omega
      clear w0 hin hz h0
      go_enter Try.func5, Try.ntmps5
      go_wp2
      go_ret
      exact ⟨rfl, Grown.refl _⟩

/-! ### THE ROW's STEP: WRITTEN OUT: LEAVE IT -/
set_option maxRecDepth 100000 in
theorem lifted (os : Os) (started : os.Started) (H : Type) (enc : TypeId × Value → H) :
    ReturnsInHanded {} Try.checked os 5 .any (Rows.fnCauseNameDefinedExactlyOnOneToThirteenSpec.pre6 enc Try.prog Try.f5 Rows.fnCauseNameDefinedExactlyOnOneToThirteenRow.domain false) (Rows.fnCauseNameDefinedExactlyOnOneToThirteenSpec.post enc Try.prog Try.f5 false true false false) := by
  refine returnsInHanded_of_change (C := Try.checked) own started (by kernel_rfl) Try.func5
    (ChangeSpec.witness6 (enc := enc) (C := Try.checked) false ⟨#[], #[.int .u16 0], []⟩ 8 (by kernel_rfl) (by kernel_rfl) (by kernel_rfl) (by kernel_rfl)) ?_
  intro W base args ds gs before hval0 hW hcnd _
  have hval : ∀ (j : Nat) t v, Try.f5.params[j]? = some t → args[j]? = some v → Value.okWide Try.prog W .any base t v := hval0
  have hW' := hW
  obtain ⟨p, q, hA0, hV, rfl, hfz, hnd⟩ := hW
  have hA : DataW.TrodAll enc Try.prog W 0 (fun _ => true) true Try.f5.params.toList args.toList ds p := hA0
  rw [Try.params5] at hA hval
  obtain ⟨v0, vs0, d0, ds0, p0, q0, hargs, rfl, rfl, h0, r0⟩ := trodAll_cons hA
  obtain ⟨rfl, rfl, rfl⟩ := trodAll_nil r0
  obtain rfl : args = #[v0] := by cases args; simp_all
  obtain ⟨rfl, rfl⟩ := trodVars_none hV
  obtain ⟨a0, rfl, rfl, rfl, w0⟩ := open_int Try.underlying26 (hval 0 26 v0 rfl rfl) h0
  clear hA0 hval0
  simp only [List.append_nil] at hW'
  refine (walk a0 w0 W).mono fun e W' ⟨he, hg⟩ => ?_
  subst he
  exact ⟨_, rfl, post_of_same (pa := []) (pv := []) hW' (fun _ _ _ => (trodAll_cons_mk (shut_bool Try.underlying4 _) trodAll_mk0)) (fun sp _ => (trodAll_cons_mk (shut_int Try.underlying26 w0) trodAll_mk0)) (fun _ _ => rfl) rfl
    (hg.frame _) hg.2.1 (ok_one (by kernel_rfl) rfl (okWide_bool_mk Try.underlying4 _))⟩

theorem over : Rows.fnCauseNameDefinedExactlyOnOneToThirteenRow.holds Try.pinned (OpenSpec.ofChange Rows.fnCauseNameDefinedExactlyOnOneToThirteenSpec) :=
  OpenClaim.holds_of_wide 5 Try.f5 rfl rfl rfl rfl rfl rfl rfl ⟨rfl, rfl, rfl, rfl, rfl⟩ rfl rfl rfl rfl rfl (by kernel_rfl) Try.func5 (by kernel_rfl)
    (of_decide_eq_true (by kernel_rfl)) (by unfold Func.isWrapper; first | (rw [if_pos (by decide +kernel)]; kernel_rfl) | (rw [if_neg (by decide +kernel)]; exact ⟨rfl, rfl⟩))
    (fun os started H enc _ => lifted os started H enc)

/-- ████ THE STATEMENT ████ -/
theorem proved : Rows.FnCauseNameDefinedExactlyOnOneToThirteenSaid :=
  over
#print axioms proved
end Go.Proofs.Qxb6602002a.fnCauseNameDefinedExactlyOnOneToThirteen
