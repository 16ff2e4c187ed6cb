/-
  A PROOF OF 'Rows.FnEmptyStmtSpanMatchesTextSaid'. The frame is the given shell's (by program); the walk is filled by hand: every test on the road is decided ahead of the walk.
-/
import Derived.Test.YoebcwRows
import Derived.WalkKit
import Derived.ProofKit
import Derived.OpenShut
import Derived.ShutString
namespace Go.Proofs.Yoebcw.fnEmptyStmtSpanMatchesText
open Go.ChangeShapes Go.WideShapes Go.ChangeAt Go.RowKit
open Go.ChangeMaps (open_string shut_string)
set_option linter.unusedVariables false      -- a walk need not use every 'w<i>' (that an integer argument fits its kind)

theorem own : ownKnob Ebcg.prog.godebug = none := by kernel_rfl

/-! ### THE WALK: the Go text returns true; the world has at most new blocks. -/
theorem walk (a0 : Int) (a1 : Bool) (w0 : (Lit.int .i64 a0).wf = true) (w : World) :
    Calls Ebcg.prog 3 #[.int .i64 a0, .bool a1] w fun e w' => e = .returned (.bool true) ∧ Grown w w' := by
  obtain ⟨l0, u0⟩ := bounds_i64 w0
  clear w0
  by_cases c2 : a0 < 9223372036854775807
  · have hc : (a0 == 9223372036854775807) = false := by rw [beq_eq_false_iff_ne]; omega
    cases a1
    · go_enter Ebcg.func3, Ebcg.ntmps3
      go_wp2
      go_ret
      exact ⟨rfl, by repeat (first | exact Grown.refl _ | apply Grown.drew | apply Grown.alloc)⟩
    · go_enter Ebcg.func3, Ebcg.ntmps3
      go_wp2
      go_ret
      exact ⟨rfl, by repeat (first | exact Grown.refl _ | apply Grown.drew | apply Grown.alloc)⟩
  · obtain rfl : a0 = 9223372036854775807 := by omega
    go_enter Ebcg.func3, Ebcg.ntmps3
    go_wp2
    go_ret
    exact ⟨rfl, by repeat (first | exact Grown.refl _ | apply Grown.drew | apply Grown.alloc)⟩

/-! ### THE ROW's STEP: the shell's text -/
set_option maxRecDepth 100000 in
theorem lifted (os : Os) (started : os.Started) (H : Type) (enc : TypeId × Value → H) :
    ReturnsInHanded {} Ebcg.checked os 3 .any (Rows.fnEmptyStmtSpanMatchesTextSpec.pre6 enc Ebcg.prog Ebcg.f3 Rows.fnEmptyStmtSpanMatchesTextRow.domain false) (Rows.fnEmptyStmtSpanMatchesTextSpec.post enc Ebcg.prog Ebcg.f3 false true false false) := by
  refine returnsInHanded_of_change (C := Ebcg.checked) own started (by kernel_rfl) Ebcg.func3
    (ChangeSpec.witness6 (enc := enc) (C := Ebcg.checked) false ⟨#[], #[.int .i64 0, .bool false], []⟩ 8 (by kernel_rfl) (by kernel_rfl) (by kernel_rfl) (by kernel_rfl)) ?_
  intro W base args ds gs before hval0 hW hcnd _
  have hval : ∀ (j : Nat) t v, Ebcg.f3.params[j]? = some t → args[j]? = some v → Value.okWide Ebcg.prog W .any base t v := hval0
  have hW' := hW
  obtain ⟨p, q, hA0, hV, rfl, hfz, hnd⟩ := hW
  have hA : DataW.TrodAll enc Ebcg.prog W 0 (fun _ => true) true Ebcg.f3.params.toList args.toList ds p := hA0
  rw [Ebcg.params3] at hA hval
  obtain ⟨v0, vs0, d0, ds0, p0, q0, hargs, rfl, rfl, h0, r0⟩ := trodAll_cons hA
  obtain ⟨v1, vs1, d1, ds1, p1, q1, rfl, rfl, rfl, h1, r1⟩ := trodAll_cons r0
  obtain ⟨rfl, rfl, rfl⟩ := trodAll_nil r1
  obtain rfl : args = #[v0, v1] := by cases args; simp_all
  obtain ⟨rfl, rfl⟩ := trodVars_none hV
  obtain ⟨a0, rfl, rfl, rfl, w0⟩ := open_int Ebcg.underlying3 (hval 0 3 v0 rfl rfl) h0
  obtain ⟨a1, rfl, rfl, rfl⟩ := open_bool Ebcg.underlying4 (hval 1 4 v1 rfl rfl) h1
  clear hA0 hval0
  simp only [List.append_nil] at hW'
  refine (walk a0 a1 w0 W).mono fun e W' ⟨he, hg⟩ => ?_
  subst he
  exact ⟨_, rfl, post_of_same (pa := []) (pv := []) hW' (fun _ _ _ => (trodAll_cons_mk (shut_bool Ebcg.underlying4 _) trodAll_mk0)) (fun sp _ => (trodAll_cons_mk (shut_int Ebcg.underlying3 w0) (trodAll_cons_mk (shut_bool Ebcg.underlying4 _) trodAll_mk0))) (fun _ _ => rfl) rfl
    (hg.frame _) hg.2.1 (ok_one (by kernel_rfl) rfl (okWide_bool_mk Ebcg.underlying4 _))⟩

theorem over : Rows.fnEmptyStmtSpanMatchesTextRow.holds Ebcg.pinned (OpenSpec.ofChange Rows.fnEmptyStmtSpanMatchesTextSpec) :=
  OpenClaim.holds_of_wide 3 Ebcg.f3 rfl rfl rfl rfl rfl rfl rfl ⟨rfl, rfl, rfl, rfl, rfl⟩ rfl rfl rfl rfl rfl (by kernel_rfl) Ebcg.func3 (by kernel_rfl)
    (of_decide_eq_true (by kernel_rfl)) (by unfold Func.isWrapper; first | (rw [if_pos (by decide +kernel)]; kernel_rfl) | (rw [if_neg (by decide +kernel)]; exact ⟨rfl, rfl⟩))
    (fun os started H enc _ => lifted os started H enc)

/-- THE STATEMENT. -/
theorem proved : Rows.FnEmptyStmtSpanMatchesTextSaid :=
  over
end Go.Proofs.Yoebcw.fnEmptyStmtSpanMatchesText
