/-
  A PROOF OF 'Rows.FnPortOrDefaultSameOnlyWhenSamePortSaid': the guide's shell at this function's number and types (laid by its own program); the walk's step is filled by hand.
-/
import Derived.Test.Qxb6623408aRows
import Derived.WalkKit
import Derived.ProofKit
import Derived.OpenShut
import Derived.ShutString
namespace Go.Proofs.Qxb6623408a.fnPortOrDefaultSameOnlyWhenSamePort
open Go.ChangeShapes Go.WideShapes Go.ChangeAt Go.RowKit
open Go.ChangeMaps (open_string shut_string)
set_option linter.unusedVariables false      -- a walk need not use every 'w<i>' (that an integer argument fits its kind)

theorem own : ownKnob Try.prog.godebug = none := by kernel_rfl

/-! ### THE CALLEE: PortOrDefault on the ports from 0 to 65535 -/
theorem port0 (w : World) : Calls Try.prog 4 #[.int .i64 0] w fun e w' => e = .returned (.int .u16 5060) ∧ w' = w := by
  go_enter Try.func4, Try.ntmps4
  go_wp2
  go_ret
  exact ⟨rfl, rfl⟩
theorem port1 (a : Int) (h1 : 0 < a) (h2 : a ≤ 65535) (w : World) : Calls Try.prog 4 #[.int .i64 a] w fun e w' => e = .returned (.int .u16 a) ∧ w' = w := by
  have e : IntKind.u16.wrap a = a := by simp only [IntKind.wrap, IntKind.bits, IntKind.signed]; simp; omega
  go_enter Try.func4, Try.ntmps4
  go_wp2
  go_ret
  exact ⟨rfl, rfl⟩

theorem ne_true {a : Int} (h : ¬ a = 0) : (a != 0) = true := by simpa using h

/-! ### STEP 1: THE WALK: the Go text returns true. 'Grown w w'': the world has at most new blocks (Derived/RowKit3.lean). Part the cases AHEAD of 'go_enter' where a test parts the walk; take each callee by a contract of your own. -/
set_option maxHeartbeats 1000000 in
theorem walk (a0 : Int) (a1 : Int) (w0 : (Lit.int .i64 a0).wf = true) (w1 : (Lit.int .i64 a1).wf = true) (w : World) :
    Calls Try.prog 3 #[.int .i64 a0, .int .i64 a1] w fun e w' => e = .returned (.bool true) ∧ Grown w w' := by
  by_cases c1 : a0 < 0
  · go_enter Try.func3, Try.ntmps3
    go_wp2
    go_ret
    exact ⟨rfl, Grown.refl _⟩
  by_cases c2 : 65535 < a0
  · go_enter Try.func3, Try.ntmps3
    go_wp2
    go_ret
    exact ⟨rfl, Grown.refl _⟩
  by_cases c3 : a1 < 0
  · go_enter Try.func3, Try.ntmps3
    go_wp2
    go_ret
    exact ⟨rfl, Grown.refl _⟩
  by_cases c4 : 65535 < a1
  · go_enter Try.func3, Try.ntmps3
    go_wp2
    go_ret
    exact ⟨rfl, Grown.refl _⟩
  -- both are ports: every test on the road is decided ahead of the walk
  by_cases z0 : a0 = 0
  · subst z0
    by_cases z1 : a1 = 0
    · subst z1
      go_enter Try.func3, Try.ntmps3
      go_wp2_with (go_at_call 4; refine (port0 _).mono ?_; rintro e w' ⟨rfl, rfl⟩)
      go_ret
      exact ⟨rfl, Grown.refl _⟩
    have n1 : (0 == a1) = false := by rw [beq_eq_false_iff_ne]; omega
    have p1 : (a1 != 0) = true := ne_true z1
    by_cases d1 : a1 = 5060
    · subst d1
      go_enter Try.func3, Try.ntmps3
      go_wp2_with (first | (go_at_call 4; refine (port0 _).mono ?_; rintro e w' ⟨rfl, rfl⟩) | (go_at_call 4; refine (port1 _ (by omega) (by omega) _).mono ?_; rintro e w' ⟨rfl, rfl⟩))
      go_ret
      exact ⟨rfl, Grown.refl _⟩
    have n2 : (a1 == 5060) = false := by rw [beq_eq_false_iff_ne]; omega
    have n3 : (5060 == a1) = false := by rw [beq_eq_false_iff_ne]; omega
    go_enter Try.func3, Try.ntmps3
    go_wp2_with (first | (go_at_call 4; refine (port0 _).mono ?_; rintro e w' ⟨rfl, rfl⟩) | (go_at_call 4; refine (port1 _ (by omega) (by omega) _).mono ?_; rintro e w' ⟨rfl, rfl⟩))
    go_ret
    exact ⟨rfl, Grown.refl _⟩
  have n0 : (a0 == 0) = false := by rw [beq_eq_false_iff_ne]; omega
  have p0 : (a0 != 0) = true := ne_true z0
  by_cases z1 : a1 = 0
  · subst z1
    by_cases d0 : a0 = 5060
    · subst d0
      go_enter Try.func3, Try.ntmps3
      go_wp2_with (first | (go_at_call 4; refine (port0 _).mono ?_; rintro e w' ⟨rfl, rfl⟩) | (go_at_call 4; refine (port1 _ (by omega) (by omega) _).mono ?_; rintro e w' ⟨rfl, rfl⟩))
      go_ret
      exact ⟨rfl, Grown.refl _⟩
    have n2 : (a0 == 5060) = false := by rw [beq_eq_false_iff_ne]; omega
    go_enter Try.func3, Try.ntmps3
    go_wp2_with (first | (go_at_call 4; refine (port0 _).mono ?_; rintro e w' ⟨rfl, rfl⟩) | (go_at_call 4; refine (port1 _ (by omega) (by omega) _).mono ?_; rintro e w' ⟨rfl, rfl⟩))
    go_ret
    exact ⟨rfl, Grown.refl _⟩
  have n1 : (a1 == 0) = false := by rw [beq_eq_false_iff_ne]; omega
  have p1 : (a1 != 0) = true := ne_true z1
  by_cases q : a0 = a1
  · subst q
    go_enter Try.func3, Try.ntmps3
    go_wp2_with (go_at_call 4; refine (port1 _ (by omega) (by omega) _).mono ?_; rintro e w' ⟨rfl, rfl⟩)
    go_ret
    exact ⟨rfl, Grown.refl _⟩
  have n2 : (a0 == a1) = false := by rw [beq_eq_false_iff_ne]; omega
  by_cases d0 : a0 = 5060
  · subst d0
    go_enter Try.func3, Try.ntmps3
    go_wp2_with (go_at_call 4; refine (port1 _ (by omega) (by omega) _).mono ?_; rintro e w' ⟨rfl, rfl⟩)
    go_ret
    exact ⟨rfl, Grown.refl _⟩
  have n3 : (a0 == 5060) = false := by rw [beq_eq_false_iff_ne]; omega
  go_enter Try.func3, Try.ntmps3
  go_wp2_with (go_at_call 4; refine (port1 _ (by omega) (by omega) _).mono ?_; rintro e w' ⟨rfl, rfl⟩)
  go_ret
  exact ⟨rfl, Grown.refl _⟩

/-! ### THE ROW's STEP: WRITTEN OUT: LEAVE IT -/
set_option maxRecDepth 100000 in
theorem lifted (os : Os) (started : os.Started) (H : Type) (enc : TypeId × Value → H) :
    ReturnsInHanded {} Try.checked os 3 .any (Rows.fnPortOrDefaultSameOnlyWhenSamePortSpec.pre6 enc Try.prog Try.f3 Rows.fnPortOrDefaultSameOnlyWhenSamePortRow.domain false) (Rows.fnPortOrDefaultSameOnlyWhenSamePortSpec.post enc Try.prog Try.f3 false true false false) := by
  refine returnsInHanded_of_change (C := Try.checked) own started (by kernel_rfl) Try.func3
    (ChangeSpec.witness6 (enc := enc) (C := Try.checked) false ⟨#[], #[.int .i64 0, .int .i64 0], []⟩ 8 (by kernel_rfl) (by kernel_rfl) (by kernel_rfl) (by kernel_rfl)) ?_
  intro W base args ds gs before hval0 hW hcnd _
  have hval : ∀ (j : Nat) t v, Try.f3.params[j]? = some t → args[j]? = some v → Value.okWide Try.prog W .any base t v := hval0
  have hW' := hW
  obtain ⟨p, q, hA0, hV, rfl, hfz, hnd⟩ := hW
  have hA : DataW.TrodAll enc Try.prog W 0 (fun _ => true) true Try.f3.params.toList args.toList ds p := hA0
  rw [Try.params3] at hA hval
  obtain ⟨v0, vs0, d0, ds0, p0, q0, hargs, rfl, rfl, h0, r0⟩ := trodAll_cons hA
  obtain ⟨v1, vs1, d1, ds1, p1, q1, rfl, rfl, rfl, h1, r1⟩ := trodAll_cons r0
  obtain ⟨rfl, rfl, rfl⟩ := trodAll_nil r1
  obtain rfl : args = #[v0, v1] := by cases args; simp_all
  obtain ⟨rfl, rfl⟩ := trodVars_none hV
  obtain ⟨a0, rfl, rfl, rfl, w0⟩ := open_int Try.underlying3 (hval 0 3 v0 rfl rfl) h0
  obtain ⟨a1, rfl, rfl, rfl, w1⟩ := open_int Try.underlying3 (hval 1 3 v1 rfl rfl) h1
  clear hA0 hval0
  simp only [List.append_nil] at hW'
  refine (walk a0 a1 w0 w1 W).mono fun e W' ⟨he, hg⟩ => ?_
  subst he
  exact ⟨_, rfl, post_of_same (pa := []) (pv := []) hW' (fun _ _ _ => (trodAll_cons_mk (shut_bool Try.underlying4 _) trodAll_mk0)) (fun sp _ => (trodAll_cons_mk (shut_int Try.underlying3 w0) (trodAll_cons_mk (shut_int Try.underlying3 w1) trodAll_mk0))) (fun _ _ => rfl) rfl
    (hg.frame _) hg.2.1 (ok_one (by kernel_rfl) rfl (okWide_bool_mk Try.underlying4 _))⟩

theorem over : Rows.fnPortOrDefaultSameOnlyWhenSamePortRow.holds Try.pinned (OpenSpec.ofChange Rows.fnPortOrDefaultSameOnlyWhenSamePortSpec) :=
  OpenClaim.holds_of_wide 3 Try.f3 rfl rfl rfl rfl rfl rfl rfl ⟨rfl, rfl, rfl, rfl, rfl⟩ rfl rfl rfl rfl rfl (by kernel_rfl) Try.func3 (by kernel_rfl)
    (of_decide_eq_true (by kernel_rfl)) (by unfold Func.isWrapper; first | (rw [if_pos (by decide +kernel)]; kernel_rfl) | (rw [if_neg (by decide +kernel)]; exact ⟨rfl, rfl⟩))
    (fun os started H enc _ => lifted os started H enc)

/-- ████ THE STATEMENT ████ -/
theorem proved : Rows.FnPortOrDefaultSameOnlyWhenSamePortSaid :=
  over
#print axioms proved
end Go.Proofs.Qxb6623408a.fnPortOrDefaultSameOnlyWhenSamePort
