/-
  THE SHELL OF A PROOF OF 'Rows.LawS1031AFieldsSaid' ('example.com/tracewright/tracewright.LawS1031AFields'), WRITTEN BY PROGRAM (proof-skeleton.mjs) off the guide's own print for that function.
  THE WALK IS FILLED IN BY HAND; all else is the guide's template at this function's number and types.
-/
import Derived.Test.YbulkuieRows
import Derived.Test.YbulkuieFieldsPlain
import Derived.Test.YbulkuieRefWalk
import Derived.WalkKit
import Derived.ProofKit
import Derived.OpenShut
import Derived.ShutString
namespace Go.Proofs.Ybulkuie.lawS1031AFields
open Go.ChangeShapes Go.WideShapes Go.ChangeAt Go.RowKit
open Go.ChangeMaps (open_string shut_string)
set_option linter.unusedVariables false      -- a walk need not use every 'w<i>' (that an integer argument fits its kind)

theorem own : ownKnob Yba.prog.godebug = none := by kernel_rfl

/-! ### STEP 1: THE WALK: the Go text returns true. 'Grown w w'': the world has at most new blocks (Derived/RowKit3.lean). Part the cases AHEAD of 'go_enter' where a test parts the walk; take each callee by a contract of your own. -/
theorem walk_at (a0 a1 a2 a3 : Int) (b00 : 0 ≤ a0) (b01 : a0 ≤ 65535) (b10 : 0 ≤ a1) (b11 : a1 ≤ 18446744073709551615) (b20 : 0 ≤ a2) (b21 : a2 ≤ 18446744073709551615) (b30 : 0 ≤ a3) (b31 : a3 ≤ 255) (d : Nat) (hd1 : 1 ≤ d) (hd2 : d ≤ 47) (hd : 1 + a3 % 47 = (d : Int)) (w : World) :
    Calls Yba.prog 4 #[.int .u16 a0, .int .u64 a1, .int .u64 a2, .int .u8 a3] w fun e w' => e = .returned (.bool true) ∧ Grown w w' := by
  obtain ⟨E, A, S, R, hE, hA, hS, hR, h1, h2, h3, r0, r1, g0, g1⟩ := Plain.fields a0 a1 a2 d b00 b01 b10 b11 b20 b21 hd1 hd2
  have z1 := zero39
  have z2 := zc39_size
  have z3 := zc39_ne
  by_cases hz : A = 0
  · subst hz
    clear h1 h2 h3
    go_enter Yba.func4, Yba.ntmps4
    go_wp2_with (go_at_call 5; refine (ref_zero _ _).mono ?_; rintro e w' ⟨rfl, c, rfl⟩)
    go_ret
    exact ⟨rfl, by repeat (first | exact Grown.refl _ | apply Grown.drew | apply Grown.alloc)⟩
  · have hb0 : (A == 0) = false := by simpa using hz
    clear hz
    go_enter Yba.func4, Yba.ntmps4
    go_wp2_with (go_at_call 5; refine (ref_other _ S A _ hb0 ?_ ?_).mono ?_; simp; simp [go_sem, zc39_size]; rintro e w' ⟨rfl, c, rfl⟩)
    go_ret
    exact ⟨rfl, by repeat (first | exact Grown.refl _ | apply Grown.drew | apply Grown.alloc)⟩

theorem walk (a0 : Int) (a1 : Int) (a2 : Int) (a3 : Int) (w0 : (Lit.int .u16 a0).wf = true) (w1 : (Lit.int .u64 a1).wf = true) (w2 : (Lit.int .u64 a2).wf = true) (w3 : (Lit.int .u8 a3).wf = true) (w : World) :
    Calls Yba.prog 4 #[.int .u16 a0, .int .u64 a1, .int .u64 a2, .int .u8 a3] w fun e w' => e = .returned (.bool true) ∧ Grown w w' := by
  obtain ⟨b00, b01⟩ := bounds_u16 w0
  obtain ⟨b10, b11⟩ := bounds_u64 w1
  obtain ⟨b20, b21⟩ := bounds_u64 w2
  obtain ⟨b30, b31⟩ := bounds_u8 w3
  exact walk_at a0 a1 a2 a3 b00 b01 b10 b11 b20 b21 b30 b31 (1 + a3 % 47).toNat (by omega) (by omega) (by omega) w

/-! ### THE ROW's STEP: WRITTEN OUT: LEAVE IT -/
set_option maxRecDepth 100000 in
theorem lifted (os : Os) (started : os.Started) (H : Type) (enc : TypeId × Value → H) :
    ReturnsInHanded {} Yba.checked os 4 .any (Rows.lawS1031AFieldsSpec.pre6 enc Yba.prog Yba.f4 Rows.lawS1031AFieldsRow.domain false) (Rows.lawS1031AFieldsSpec.post enc Yba.prog Yba.f4 false true false false) := by
  refine returnsInHanded_of_change (C := Yba.checked) own started (by kernel_rfl) Yba.func4
    (ChangeSpec.witness6 (enc := enc) (C := Yba.checked) false ⟨#[], #[.int .u16 0, .int .u64 0, .int .u64 0, .int .u8 0], []⟩ 8 (by kernel_rfl) (by kernel_rfl) (by kernel_rfl) (by kernel_rfl)) ?_
  intro W base args ds gs before hval0 hW hcnd _
  have hval : ∀ (j : Nat) t v, Yba.f4.params[j]? = some t → args[j]? = some v → Value.okWide Yba.prog W .any base t v := hval0
  have hW' := hW
  obtain ⟨p, q, hA0, hV, rfl, hfz, hnd⟩ := hW
  have hA : DataW.TrodAll enc Yba.prog W 0 (fun _ => true) true Yba.f4.params.toList args.toList ds p := hA0
  rw [Yba.params4] at hA hval
  obtain ⟨v0, vs0, d0, ds0, p0, q0, hargs, rfl, rfl, h0, r0⟩ := trodAll_cons hA
  obtain ⟨v1, vs1, d1, ds1, p1, q1, rfl, rfl, rfl, h1, r1⟩ := trodAll_cons r0
  obtain ⟨v2, vs2, d2, ds2, p2, q2, rfl, rfl, rfl, h2, r2⟩ := trodAll_cons r1
  obtain ⟨v3, vs3, d3, ds3, p3, q3, rfl, rfl, rfl, h3, r3⟩ := trodAll_cons r2
  obtain ⟨rfl, rfl, rfl⟩ := trodAll_nil r3
  obtain rfl : args = #[v0, v1, v2, v3] := by cases args; simp_all
  obtain ⟨rfl, rfl⟩ := trodVars_none hV
  obtain ⟨a0, rfl, rfl, rfl, w0⟩ := open_int Yba.underlying44 (hval 0 44 v0 rfl rfl) h0
  obtain ⟨a1, rfl, rfl, rfl, w1⟩ := open_int Yba.underlying22 (hval 1 22 v1 rfl rfl) h1
  obtain ⟨a2, rfl, rfl, rfl, w2⟩ := open_int Yba.underlying22 (hval 2 22 v2 rfl rfl) h2
  obtain ⟨a3, rfl, rfl, rfl, w3⟩ := open_int Yba.underlying5 (hval 3 5 v3 rfl rfl) h3
  clear hA0 hval0
  simp only [List.append_nil] at hW'
  refine (walk a0 a1 a2 a3 w0 w1 w2 w3 W).mono fun e W' ⟨he, hg⟩ => ?_
  subst he
  exact ⟨_, rfl, post_of_same (pa := []) (pv := []) hW' (fun _ _ _ => (trodAll_cons_mk (shut_bool Yba.underlying4 _) trodAll_mk0)) (fun sp _ => (trodAll_cons_mk (shut_int Yba.underlying44 w0) (trodAll_cons_mk (shut_int Yba.underlying22 w1) (trodAll_cons_mk (shut_int Yba.underlying22 w2) (trodAll_cons_mk (shut_int Yba.underlying5 w3) trodAll_mk0))))) (fun _ _ => rfl) rfl
    (hg.frame _) hg.2.1 (ok_one (by kernel_rfl) rfl (okWide_bool_mk Yba.underlying4 _))⟩

theorem over : Rows.lawS1031AFieldsRow.holds Yba.pinned (OpenSpec.ofChange Rows.lawS1031AFieldsSpec) :=
  OpenClaim.holds_of_wide 4 Yba.f4 rfl rfl rfl rfl rfl rfl rfl ⟨rfl, rfl, rfl, rfl, rfl⟩ rfl rfl rfl rfl rfl (by kernel_rfl) Yba.func4 (by kernel_rfl)
    (of_decide_eq_true (by kernel_rfl)) (by unfold Func.isWrapper; first | (rw [if_pos (by decide +kernel)]; kernel_rfl) | (rw [if_neg (by decide +kernel)]; exact ⟨rfl, rfl⟩))
    (fun os started H enc _ => lifted os started H enc)

/-- ████ THE STATEMENT ████ -/
theorem proved : Rows.LawS1031AFieldsSaid :=
  over
end Go.Proofs.Ybulkuie.lawS1031AFields
