/-
  A PROOF OF 'Rows.FnImportExprEndShiftsWithPosSaid'. The frame is the guide's shell for this function (proof-skeleton.mjs); the walk is typed by hand over the callees' contracts (YoedqwCallees.lean).
-/
import Derived.Test.YoedqwRows
import Derived.Test.YoedqwCallees
import Derived.WalkKit
import Derived.ProofKit
import Derived.OpenShut
import Derived.ShutString
namespace Go.Proofs.Yoedqw.fnImportExprEndShiftsWithPos
open Go.ChangeShapes Go.WideShapes Go.ChangeAt Go.RowKit
open Go.ChangeMaps (open_string shut_string)
set_option linter.unusedVariables false      -- a walk need not use every 'w<i>' (that an integer argument fits its kind)

theorem own : ownKnob Edqg.prog.godebug = none := by kernel_rfl

/-! ### STEP 1: THE WALK: the Go text returns true. 'Grown w w'': the world has at most new blocks (Derived/RowKit3.lean). Part the cases AHEAD of 'go_enter' where a test parts the walk; take each callee by a contract of your own. -/
theorem walk (a0 : ByteArray) (a1 : Int) (a2 : Int) (w0 : a0.size ≤ maxLen) (w1 : (Lit.int .i64 a1).wf = true) (w2 : (Lit.int .i64 a2).wf = true) (w : World) :
    Calls Edqg.prog 5 #[.string a0, .int .i64 a1, .int .i64 a2] w fun e w' => e = .returned (.bool true) ∧ Grown w w' := by
  by_cases h : a0.size ≤ 1048576
  · have h' : ¬ (1048576 : Int) < a0.size := by omega
    by_cases k1 : a2 < -1073741824
    · have d1 : decide (a2 < -1073741824) = true := decide_eq_true k1
      go_enter Edqg.func5, Edqg.ntmps5
      go_wp2_with fail
      refine (Callee.guard11_yes a0 a1 a2 _ h).mono ?_
      rintro e w' ⟨rfl, rfl⟩
      go_wp2_with fail
      go_ret
      exact ⟨rfl, Grown.refl _⟩
    by_cases k2 : 1073741824 < a2
    · have d1 : decide (a2 < -1073741824) = false := decide_eq_false k1
      have d2 : decide (1073741824 < a2) = true := decide_eq_true k2
      go_enter Edqg.func5, Edqg.ntmps5
      go_wp2_with fail
      refine (Callee.guard11_yes a0 a1 a2 _ h).mono ?_
      rintro e w' ⟨rfl, rfl⟩
      go_wp2_with fail
      go_ret
      exact ⟨rfl, Grown.refl _⟩
    have d1 : decide (a2 < -1073741824) = false := decide_eq_false k1
    have d2 : decide (1073741824 < a2) = false := decide_eq_false k2
    by_cases k3 : 9223372035778936831 < a1
    · have d3 : decide (9223372035778936831 < a1) = true := decide_eq_true k3
      go_enter Edqg.func5, Edqg.ntmps5
      go_wp2_with fail
      refine (Callee.guard11_yes a0 a1 a2 _ h).mono ?_
      rintro e w' ⟨rfl, rfl⟩
      go_wp2_with fail
      go_ret
      exact ⟨rfl, Grown.refl _⟩
    have d3 : decide (9223372035778936831 < a1) = false := decide_eq_false k3
    by_cases k4 : a1 < -9223372035778936831
    · have d4 : decide (a1 < -9223372035778936831) = true := decide_eq_true k4
      go_enter Edqg.func5, Edqg.ntmps5
      go_wp2_with fail
      refine (Callee.guard11_yes a0 a1 a2 _ h).mono ?_
      rintro e w' ⟨rfl, rfl⟩
      go_wp2_with fail
      go_ret
      exact ⟨rfl, Grown.refl _⟩
    have d4 : decide (a1 < -9223372035778936831) = false := decide_eq_false k4
    go_enter Edqg.func5, Edqg.ntmps5
    go_wp2_with fail
    refine (Callee.guard11_yes a0 a1 a2 _ h).mono ?_
    rintro e w' ⟨rfl, rfl⟩
    go_wp2_with fail
    refine (Callee.pos_any (w'.heap.size + 1) (a1 + a2) _ (by simp [go_sem])).mono ?_
    rintro e w2 ⟨rfl, rfl⟩
    go_wp2_with fail
    refine (Callee.pos_any w'.heap.size a1 _ (by simp [go_sem])).mono ?_
    rintro e w2 ⟨rfl, rfl⟩
    have p1 : (a1 + a2 - a1 != a2) = false := by rw [bne_eq_false_iff_eq]; omega
    go_wp2_with fail
    refine (Callee.end_any (w'.heap.size + 1) a0 (a1 + a2) _ (by omega) (by omega) (by simp [go_sem]) (by simp [go_sem])).mono ?_
    rintro e w2 ⟨rfl, n1, rfl⟩
    go_wp2_with fail
    refine (Callee.end_any w'.heap.size a0 a1 _ (by omega) (by omega) (by simp [go_sem]) (by simp [go_sem])).mono ?_
    rintro e w2 ⟨rfl, n2, rfl⟩
    have p2 : (a1 + a2 + 10 + (a0.size : Int) - (a1 + 10 + (a0.size : Int)) != a2) = false := by rw [bne_eq_false_iff_eq]; omega
    go_wp2_with fail
    refine (Callee.pos_any (w'.heap.size + 1 + 1) a1 _ (by simp [go_sem])).mono ?_
    rintro e w2 ⟨rfl, rfl⟩
    go_wp2_with fail
    refine (Callee.pos_any w'.heap.size a1 _ (by simp [go_sem])).mono ?_
    rintro e w2 ⟨rfl, rfl⟩
    go_wp2_with fail
    have hx : (a0 ++ (⟨#[120]⟩ : ByteArray)).size = a0.size + 1 := by rw [ByteArray.size_append]; rfl
    refine (Callee.end_any (w'.heap.size + 1 + 1) (a0 ++ ⟨#[120]⟩) a1 _ (by omega) (by omega) (by simp [go_sem]) (by simp [go_sem])).mono ?_
    rintro e w2 ⟨rfl, n3, rfl⟩
    go_wp2_with fail
    refine (Callee.end_any w'.heap.size a0 a1 _ (by omega) (by omega) (by simp [go_sem]) (by simp [go_sem])).mono ?_
    rintro e w2 ⟨rfl, n4, rfl⟩
    have p3 : (a1 + 10 + ((a0.size : Int) + 1) == a1 + 10 + (a0.size : Int) + 1) = true := beq_iff_eq.2 (by omega)
    go_wp2_with fail
    go_ret
    exact ⟨rfl, Callee.grown_drewN ((Callee.grown_drewN (((Grown.refl _).alloc _ _).alloc _ _) _).alloc _ _) _⟩
  · go_enter Edqg.func5, Edqg.ntmps5
    go_wp2_with fail
    refine (Callee.guard11_no a0 a1 a2 _ h).mono ?_
    rintro e w' ⟨rfl, rfl⟩
    go_wp2_with fail
    go_ret
    exact ⟨rfl, Grown.refl _⟩

/-! ### THE ROW's STEP: WRITTEN OUT: LEAVE IT -/
set_option maxRecDepth 100000 in
theorem lifted (os : Os) (started : os.Started) (H : Type) (enc : TypeId × Value → H) :
    ReturnsInHanded {} Edqg.checked os 5 .any (Rows.fnImportExprEndShiftsWithPosSpec.pre6 enc Edqg.prog Edqg.f5 Rows.fnImportExprEndShiftsWithPosRow.domain false) (Rows.fnImportExprEndShiftsWithPosSpec.post enc Edqg.prog Edqg.f5 false true false false) := by
  refine returnsInHanded_of_change (C := Edqg.checked) own started (by kernel_rfl) Edqg.func5
    (ChangeSpec.witness6 (enc := enc) (C := Edqg.checked) false ⟨#[], #[.string ByteArray.empty, .int .i64 0, .int .i64 0], []⟩ 8 (by kernel_rfl) (by kernel_rfl) (by kernel_rfl) (by kernel_rfl)) ?_
  intro W base args ds gs before hval0 hW hcnd _
  have hval : ∀ (j : Nat) t v, Edqg.f5.params[j]? = some t → args[j]? = some v → Value.okWide Edqg.prog W .any base t v := hval0
  have hW' := hW
  obtain ⟨p, q, hA0, hV, rfl, hfz, hnd⟩ := hW
  have hA : DataW.TrodAll enc Edqg.prog W 0 (fun _ => true) true Edqg.f5.params.toList args.toList ds p := hA0
  rw [Edqg.params5] at hA hval
  obtain ⟨v0, vs0, d0, ds0, p0, q0, hargs, rfl, rfl, h0, r0⟩ := trodAll_cons hA
  obtain ⟨v1, vs1, d1, ds1, p1, q1, rfl, rfl, rfl, h1, r1⟩ := trodAll_cons r0
  obtain ⟨v2, vs2, d2, ds2, p2, q2, rfl, rfl, rfl, h2, r2⟩ := trodAll_cons r1
  obtain ⟨rfl, rfl, rfl⟩ := trodAll_nil r2
  obtain rfl : args = #[v0, v1, v2] := by cases args; simp_all
  obtain ⟨rfl, rfl⟩ := trodVars_none hV
  obtain ⟨a0, rfl, rfl, rfl, w0⟩ := open_string Edqg.underlying9 (hval 0 9 v0 rfl rfl) h0
  obtain ⟨a1, rfl, rfl, rfl, w1⟩ := open_int Edqg.underlying3 (hval 1 3 v1 rfl rfl) h1
  obtain ⟨a2, rfl, rfl, rfl, w2⟩ := open_int Edqg.underlying3 (hval 2 3 v2 rfl rfl) h2
  clear hA0 hval0
  simp only [List.append_nil] at hW'
  refine (walk a0 a1 a2 w0 w1 w2 W).mono fun e W' ⟨he, hg⟩ => ?_
  subst he
  exact ⟨_, rfl, post_of_same (pa := []) (pv := []) hW' (fun _ _ _ => (trodAll_cons_mk (shut_bool Edqg.underlying4 _) trodAll_mk0)) (fun sp _ => (trodAll_cons_mk (shut_string Edqg.underlying9 w0) (trodAll_cons_mk (shut_int Edqg.underlying3 w1) (trodAll_cons_mk (shut_int Edqg.underlying3 w2) trodAll_mk0)))) (fun _ _ => rfl) rfl
    (hg.frame _) hg.2.1 (ok_one (by kernel_rfl) rfl (okWide_bool_mk Edqg.underlying4 _))⟩

theorem over : Rows.fnImportExprEndShiftsWithPosRow.holds Edqg.pinned (OpenSpec.ofChange Rows.fnImportExprEndShiftsWithPosSpec) :=
  OpenClaim.holds_of_wide 5 Edqg.f5 rfl rfl rfl rfl rfl rfl rfl ⟨rfl, rfl, rfl, rfl, rfl⟩ rfl rfl rfl rfl rfl (by kernel_rfl) Edqg.func5 (by kernel_rfl)
    (of_decide_eq_true (by kernel_rfl)) (by unfold Func.isWrapper; first | (rw [if_pos (by decide +kernel)]; kernel_rfl) | (rw [if_neg (by decide +kernel)]; exact ⟨rfl, rfl⟩))
    (fun os started H enc _ => lifted os started H enc)

/-- ████ THE STATEMENT ████ -/
theorem proved : Rows.FnImportExprEndShiftsWithPosSaid :=
  over
#print axioms proved
end Go.Proofs.Yoedqw.fnImportExprEndShiftsWithPos
