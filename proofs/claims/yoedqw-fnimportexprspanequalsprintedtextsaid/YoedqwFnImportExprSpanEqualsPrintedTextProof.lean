/-
  A PROOF OF 'Rows.FnImportExprSpanEqualsPrintedTextSaid'. The frame is the guide's shell for this function (proof-skeleton.mjs); the walk is typed by hand over the callees' contracts (YoedqwCallees.lean).
-/
import Derived.Test.YoedqwRows
import Derived.Test.YoedqwCallees
import Derived.WalkKit
import Derived.ProofKit
import Derived.OpenShut
import Derived.ShutString
namespace Go.Proofs.Yoedqw.fnImportExprSpanEqualsPrintedText
open Go.ChangeShapes Go.WideShapes Go.ChangeAt Go.RowKit
open Go.ChangeMaps (open_string shut_string)
set_option linter.unusedVariables false      -- a walk need not use every 'w<i>' (that an integer argument fits its kind)

theorem own : ownKnob Edqg.prog.godebug = none := by kernel_rfl

/-! ### STEP 1: THE WALK: the Go text returns true. 'Grown w w'': the world has at most new blocks (Derived/RowKit3.lean). Part the cases AHEAD of 'go_enter' where a test parts the walk; take each callee by a contract of your own. -/
theorem walk (a0 : ByteArray) (a1 : Int) (a2 : Int) (w0 : a0.size ≤ maxLen) (w1 : (Lit.int .i64 a1).wf = true) (w2 : (Lit.int .i64 a2).wf = true) (w : World) :
    Calls Edqg.prog 4 #[.string a0, .int .i64 a1, .int .i64 a2] w fun e w' => e = .returned (.bool true) ∧ Grown w w' := by
  obtain ⟨lo, hi⟩ := bounds_i64 w2
  by_cases h : a0.size ≤ 1048576
  · have h' : ¬ (1048576 : Int) < a0.size := by omega
    by_cases hp : 9223372036854775797 - (a0.size : Int) < a2
    · go_enter Edqg.func4, Edqg.ntmps4
      go_wp2_with fail
      refine (Callee.guard8_yes a0 a1 a2 _ h).mono ?_
      rintro e w' ⟨rfl, rfl⟩
      go_wp2_with fail
      go_ret
      exact ⟨rfl, Grown.refl _⟩
    · have hq : a2 + 10 + a0.size ≤ 9223372036854775807 := by omega
      go_enter Edqg.func4, Edqg.ntmps4
      go_wp2_with fail
      refine (Callee.guard8_yes a0 a1 a2 _ h).mono ?_
      rintro e w' ⟨rfl, rfl⟩
      go_wp2_with fail
      refine (Callee.pos_any w'.heap.size a2 _ (by simp [go_sem])).mono ?_
      rintro e w2 ⟨rfl, rfl⟩
      go_wp2_with fail
      refine (Callee.end_any w'.heap.size a0 a2 _ lo hq (by simp [go_sem]) (by simp [go_sem])).mono ?_
      rintro e w2 ⟨rfl, n1, rfl⟩
      go_wp2_with fail
      refine (Callee.pos_any w'.heap.size a2 _ (by simp [go_sem])).mono ?_
      rintro e w2 ⟨rfl, rfl⟩
      have hgt : decide (a2 < a2 + 10 + (a0.size : Int)) = true := decide_eq_true (by omega)
      go_wp2_with fail
      refine (Callee.end_any w'.heap.size a0 a2 _ lo hq (by simp [go_sem]) (by simp [go_sem])).mono ?_
      rintro e w2 ⟨rfl, n2, rfl⟩
      go_wp2_with fail
      refine (Callee.pos_any w'.heap.size a2 _ (by simp [go_sem])).mono ?_
      rintro e w2 ⟨rfl, rfl⟩
      go_wp2_with fail
      refine (Callee.string_any w'.heap.size a0 _ h (by simp [go_sem])).mono ?_
      rintro e w2 ⟨rfl, rfl⟩
      have hz := Callee.printed_size a0
      have hfin : (a2 + 10 + (a0.size : Int) - a2 == (a0.size : Int) + 10) = true := beq_iff_eq.2 (by omega)
      go_wp2_with fail
      go_ret
      exact ⟨rfl, Callee.grown_drewN ((Grown.refl _).alloc _ _) _⟩
  · go_enter Edqg.func4, Edqg.ntmps4
    go_wp2_with fail
    refine (Callee.guard8_no a0 a1 a2 _ h).mono ?_
    rintro e w' ⟨rfl, rfl⟩
    go_wp2_with fail
    go_ret
    exact ⟨rfl, Grown.refl _⟩

/-! ### THE ROW's STEP: WRITTEN OUT: LEAVE IT -/
set_option maxRecDepth 100000 in
theorem lifted (os : Os) (started : os.Started) (H : Type) (enc : TypeId × Value → H) :
    ReturnsInHanded {} Edqg.checked os 4 .any (Rows.fnImportExprSpanEqualsPrintedTextSpec.pre6 enc Edqg.prog Edqg.f4 Rows.fnImportExprSpanEqualsPrintedTextRow.domain false) (Rows.fnImportExprSpanEqualsPrintedTextSpec.post enc Edqg.prog Edqg.f4 false true false false) := by
  refine returnsInHanded_of_change (C := Edqg.checked) own started (by kernel_rfl) Edqg.func4
    (ChangeSpec.witness6 (enc := enc) (C := Edqg.checked) false ⟨#[], #[.string ByteArray.empty, .int .i64 0, .int .i64 0], []⟩ 8 (by kernel_rfl) (by kernel_rfl) (by kernel_rfl) (by kernel_rfl)) ?_
  intro W base args ds gs before hval0 hW hcnd _
  have hval : ∀ (j : Nat) t v, Edqg.f4.params[j]? = some t → args[j]? = some v → Value.okWide Edqg.prog W .any base t v := hval0
  have hW' := hW
  obtain ⟨p, q, hA0, hV, rfl, hfz, hnd⟩ := hW
  have hA : DataW.TrodAll enc Edqg.prog W 0 (fun _ => true) true Edqg.f4.params.toList args.toList ds p := hA0
  rw [Edqg.params4] at hA hval
  obtain ⟨v0, vs0, d0, ds0, p0, q0, hargs, rfl, rfl, h0, r0⟩ := trodAll_cons hA
  obtain ⟨v1, vs1, d1, ds1, p1, q1, rfl, rfl, rfl, h1, r1⟩ := trodAll_cons r0
  obtain ⟨v2, vs2, d2, ds2, p2, q2, rfl, rfl, rfl, h2, r2⟩ := trodAll_cons r1
  obtain ⟨rfl, rfl, rfl⟩ := trodAll_nil r2
  obtain rfl : args = #[v0, v1, v2] := by cases args; simp_all
  obtain ⟨rfl, rfl⟩ := trodVars_none hV
  obtain ⟨a0, rfl, rfl, rfl, w0⟩ := open_string Edqg.underlying9 (hval 0 9 v0 rfl rfl) h0
  obtain ⟨a1, rfl, rfl, rfl, w1⟩ := open_int Edqg.underlying3 (hval 1 3 v1 rfl rfl) h1
  obtain ⟨a2, rfl, rfl, rfl, w2⟩ := open_int Edqg.underlying3 (hval 2 3 v2 rfl rfl) h2
  clear hA0 hval0
  simp only [List.append_nil] at hW'
  refine (walk a0 a1 a2 w0 w1 w2 W).mono fun e W' ⟨he, hg⟩ => ?_
  subst he
  exact ⟨_, rfl, post_of_same (pa := []) (pv := []) hW' (fun _ _ _ => (trodAll_cons_mk (shut_bool Edqg.underlying4 _) trodAll_mk0)) (fun sp _ => (trodAll_cons_mk (shut_string Edqg.underlying9 w0) (trodAll_cons_mk (shut_int Edqg.underlying3 w1) (trodAll_cons_mk (shut_int Edqg.underlying3 w2) trodAll_mk0)))) (fun _ _ => rfl) rfl
    (hg.frame _) hg.2.1 (ok_one (by kernel_rfl) rfl (okWide_bool_mk Edqg.underlying4 _))⟩

theorem over : Rows.fnImportExprSpanEqualsPrintedTextRow.holds Edqg.pinned (OpenSpec.ofChange Rows.fnImportExprSpanEqualsPrintedTextSpec) :=
  OpenClaim.holds_of_wide 4 Edqg.f4 rfl rfl rfl rfl rfl rfl rfl ⟨rfl, rfl, rfl, rfl, rfl⟩ rfl rfl rfl rfl rfl (by kernel_rfl) Edqg.func4 (by kernel_rfl)
    (of_decide_eq_true (by kernel_rfl)) (by unfold Func.isWrapper; first | (rw [if_pos (by decide +kernel)]; kernel_rfl) | (rw [if_neg (by decide +kernel)]; exact ⟨rfl, rfl⟩))
    (fun os started H enc _ => lifted os started H enc)

/-- ████ THE STATEMENT ████ -/
theorem proved : Rows.FnImportExprSpanEqualsPrintedTextSaid :=
  over
#print axioms proved
end Go.Proofs.Yoedqw.fnImportExprSpanEqualsPrintedText
