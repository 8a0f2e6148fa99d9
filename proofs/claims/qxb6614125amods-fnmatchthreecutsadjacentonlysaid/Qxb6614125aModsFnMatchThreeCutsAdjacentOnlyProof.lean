import Derived.Test.Qxb6614125aModsRows
import Derived.WalkKit
import Derived.ProofKit
import Derived.OpenShut
import Derived.ShutString
import Derived.Test.Qxb6614125aModsCont
namespace Go.Proofs.Qxb6614125aMods.fnMatchThreeCutsAdjacentOnly
open Go.ChangeShapes Go.WideShapes Go.ChangeAt Go.RowKit
open Go.ChangeMaps (open_string shut_string)
set_option linter.unusedVariables false      -- a walk need not use every 'w<i>' (that an integer argument fits its kind)

theorem own : ownKnob Trym.prog.godebug = none := by kernel_rfl

open Go.Proofs.Qxb6614125aMods.Cont

theorem bnd {a : Int} (h : (Lit.int .i64 a).wf = true) : -9223372036854775808 ≤ a ∧ a ≤ 9223372036854775807 := by
  simp only [Lit.wf, IntKind.min, IntKind.max, IntKind.signed, IntKind.bits, Bool.and_eq_true, decide_eq_true_eq, if_true] at h
  omega

/-- A by B. -/
theorem ab_true (a0 a1 k1 k2 : Int) (h2 : k2 ≤ 9223372036854775807) (h3 : 0 ≤ k1) (h4 : k1 ≤ k2) :
    cont a0 a1 k1 (wrap64 (a0 + k1)) (wrap64 (a1 + k1)) (k2 - k1) = true := by
  unfold cont
  have : k1 ≤ wrap64 (9223372036854775807 - (k2 - k1)) := by unfold wrap64; omega
  simp [this]

/-- B by C. -/
theorem bc_true (a0 a1 n k1 k2 : Int) (h2 : n ≤ 9223372036854775807) (h3 : 0 ≤ k1) (h4 : k1 ≤ k2) (h5 : k2 ≤ n) :
    cont (wrap64 (a0 + k1)) (wrap64 (a1 + k1)) (k2 - k1) (wrap64 (a0 + k2)) (wrap64 (a1 + k2)) (n - k2) = true := by
  unfold cont
  have e1 : wrap64 (wrap64 (a0 + k1) + (k2 - k1)) = wrap64 (a0 + k2) := by unfold wrap64; omega
  have e2 : wrap64 (wrap64 (a1 + k1) + (k2 - k1)) = wrap64 (a1 + k2) := by unfold wrap64; omega
  have : k2 - k1 ≤ wrap64 (9223372036854775807 - (n - k2)) := by unfold wrap64; omega
  simp [this, e1, e2]

/-- A by C: where B is empty. -/
theorem ac_is (a0 a1 n k1 k2 : Int) (h2 : n ≤ 9223372036854775807) (h3 : 0 ≤ k1) (h4 : k1 ≤ k2) (h5 : k2 ≤ n) :
    cont a0 a1 k1 (wrap64 (a0 + k2)) (wrap64 (a1 + k2)) (n - k2) = (k1 == k2) := by
  unfold cont
  by_cases h : k1 = k2
  · subst h
    have : k1 ≤ wrap64 (9223372036854775807 - (n - k1)) := by unfold wrap64; omega
    simp [this]
  · have e1 : ¬ wrap64 (a0 + k1) = wrap64 (a0 + k2) := by unfold wrap64; omega
    rw [beq_false_of_ne e1, beq_false_of_ne h, Bool.false_and]

/-- C by A: where the whole is empty. -/
theorem ca_is (a0 a1 n k1 k2 : Int) (b0 : -9223372036854775808 ≤ a0) (c0 : a0 ≤ 9223372036854775807) (b1 : -9223372036854775808 ≤ a1) (c1 : a1 ≤ 9223372036854775807) (h2 : n ≤ 9223372036854775807) (h3 : 0 ≤ k1) (h4 : k1 ≤ k2) (h5 : k2 ≤ n) :
    cont (wrap64 (a0 + k2)) (wrap64 (a1 + k2)) (n - k2) a0 a1 k1 = (n == 0) := by
  unfold cont
  by_cases h : n = 0
  · subst h
    have hk : k2 = 0 := by omega
    have hk1 : k1 = 0 := by omega
    subst hk
    subst hk1
    have e1 : wrap64 (wrap64 (a0 + 0) + (0 - 0)) = a0 := by unfold wrap64; omega
    have e2 : wrap64 (wrap64 (a1 + 0) + (0 - 0)) = a1 := by unfold wrap64; omega
    have e3 : (0 : Int) - 0 ≤ wrap64 (9223372036854775807 - 0) := by unfold wrap64; omega
    rw [e1, e2, decide_eq_true e3]
    simp
  · have e1 : ¬ wrap64 (wrap64 (a0 + k2) + (n - k2)) = a0 := by unfold wrap64; omega
    rw [beq_false_of_ne e1, beq_false_of_ne h, Bool.false_and]


theorem walk (a0 : Int) (a1 : Int) (a2 : Int) (a3 : Int) (a4 : Int) (w0 : (Lit.int .i64 a0).wf = true) (w1 : (Lit.int .i64 a1).wf = true) (w2 : (Lit.int .i64 a2).wf = true) (w3 : (Lit.int .i64 a3).wf = true) (w4 : (Lit.int .i64 a4).wf = true) (w : World) :
    Calls Trym.prog 4 #[.int .i64 a0, .int .i64 a1, .int .i64 a2, .int .i64 a3, .int .i64 a4] w fun e w' => e = .returned (.bool true) ∧ Grown w w' := by
  obtain ⟨b0, c0⟩ := bnd w0
  obtain ⟨b1, c1⟩ := bnd w1
  obtain ⟨b2, c2⟩ := bnd w2
  clear w0 w1 w2 w3 w4
  by_cases g1 : a2 < 0
  · go_enter Trym.func4, Trym.ntmps4
    go_wp2
    go_ret
    exact ⟨rfl, Grown.refl _⟩
  by_cases g2 : a3 < 0
  · go_enter Trym.func4, Trym.ntmps4
    go_wp2
    go_ret
    exact ⟨rfl, Grown.refl _⟩
  by_cases g3 : a4 < a3
  · go_enter Trym.func4, Trym.ntmps4
    go_wp2
    go_ret
    exact ⟨rfl, Grown.refl _⟩
  by_cases g4 : a2 < a4
  · go_enter Trym.func4, Trym.ntmps4
    go_wp2
    go_ret
    exact ⟨rfl, Grown.refl _⟩
  have hab := ab_true a0 a1 a3 a4 (by omega) (by omega) (by omega)
  have hbc := bc_true a0 a1 a2 a3 a4 (by omega) (by omega) (by omega) (by omega)
  have hac := ac_is a0 a1 a2 a3 a4 (by omega) (by omega) (by omega) (by omega)
  have hca := ca_is a0 a1 a2 a3 a4 b0 c0 b1 c1 (by omega) (by omega) (by omega) (by omega)
  go_enter Trym.func4, Trym.ntmps4
  go_wp2_with (go_at_call 7; refine (shim _ _ _ _ _ _ _).mono ?_; rintro e w' ⟨rfl, c1, c2, rfl⟩)
  all_goals
    go_ret
    exact ⟨by simp, by repeat (first | exact Grown.refl _ | apply Grown.alloc)⟩

/-! ### THE ROW's STEP: WRITTEN OUT: LEAVE IT -/
set_option maxRecDepth 100000 in
theorem lifted (os : Os) (started : os.Started) (H : Type) (enc : TypeId × Value → H) :
    ReturnsInHanded {} Trym.checked os 4 .any (Rows.fnMatchThreeCutsAdjacentOnlySpec.pre6 enc Trym.prog Trym.f4 Rows.fnMatchThreeCutsAdjacentOnlyRow.domain false) (Rows.fnMatchThreeCutsAdjacentOnlySpec.post enc Trym.prog Trym.f4 false true false false) := by
  refine returnsInHanded_of_change (C := Trym.checked) own started (by kernel_rfl) Trym.func4
    (ChangeSpec.witness6 (enc := enc) (C := Trym.checked) false ⟨#[], #[.int .i64 0, .int .i64 0, .int .i64 0, .int .i64 0, .int .i64 0], []⟩ 8 (by kernel_rfl) (by kernel_rfl) (by kernel_rfl) (by kernel_rfl)) ?_
  intro W base args ds gs before hval0 hW hcnd _
  have hval : ∀ (j : Nat) t v, Trym.f4.params[j]? = some t → args[j]? = some v → Value.okWide Trym.prog W .any base t v := hval0
  have hW' := hW
  obtain ⟨p, q, hA0, hV, rfl, hfz, hnd⟩ := hW
  have hA : DataW.TrodAll enc Trym.prog W 0 (fun _ => true) true Trym.f4.params.toList args.toList ds p := hA0
  rw [Trym.params4] at hA hval
  obtain ⟨v0, vs0, d0, ds0, p0, q0, hargs, rfl, rfl, h0, r0⟩ := trodAll_cons hA
  obtain ⟨v1, vs1, d1, ds1, p1, q1, rfl, rfl, rfl, h1, r1⟩ := trodAll_cons r0
  obtain ⟨v2, vs2, d2, ds2, p2, q2, rfl, rfl, rfl, h2, r2⟩ := trodAll_cons r1
  obtain ⟨v3, vs3, d3, ds3, p3, q3, rfl, rfl, rfl, h3, r3⟩ := trodAll_cons r2
  obtain ⟨v4, vs4, d4, ds4, p4, q4, rfl, rfl, rfl, h4, r4⟩ := trodAll_cons r3
  obtain ⟨rfl, rfl, rfl⟩ := trodAll_nil r4
  obtain rfl : args = #[v0, v1, v2, v3, v4] := by cases args; simp_all
  obtain ⟨rfl, rfl⟩ := trodVars_none hV
  obtain ⟨a0, rfl, rfl, rfl, w0⟩ := open_int Trym.underlying2 (hval 0 2 v0 rfl rfl) h0
  obtain ⟨a1, rfl, rfl, rfl, w1⟩ := open_int Trym.underlying2 (hval 1 2 v1 rfl rfl) h1
  obtain ⟨a2, rfl, rfl, rfl, w2⟩ := open_int Trym.underlying3 (hval 2 3 v2 rfl rfl) h2
  obtain ⟨a3, rfl, rfl, rfl, w3⟩ := open_int Trym.underlying3 (hval 3 3 v3 rfl rfl) h3
  obtain ⟨a4, rfl, rfl, rfl, w4⟩ := open_int Trym.underlying3 (hval 4 3 v4 rfl rfl) h4
  clear hA0 hval0
  simp only [List.append_nil] at hW'
  refine (walk a0 a1 a2 a3 a4 w0 w1 w2 w3 w4 W).mono fun e W' ⟨he, hg⟩ => ?_
  subst he
  exact ⟨_, rfl, post_of_same (pa := []) (pv := []) hW' (fun _ _ _ => (trodAll_cons_mk (shut_bool Trym.underlying4 _) trodAll_mk0)) (fun sp _ => (trodAll_cons_mk (shut_int Trym.underlying2 w0) (trodAll_cons_mk (shut_int Trym.underlying2 w1) (trodAll_cons_mk (shut_int Trym.underlying3 w2) (trodAll_cons_mk (shut_int Trym.underlying3 w3) (trodAll_cons_mk (shut_int Trym.underlying3 w4) trodAll_mk0)))))) (fun _ _ => rfl) rfl
    (hg.frame _) hg.2.1 (ok_one (by kernel_rfl) rfl (okWide_bool_mk Trym.underlying4 _))⟩

theorem over : Rows.fnMatchThreeCutsAdjacentOnlyRow.holds Trym.pinned (OpenSpec.ofChange Rows.fnMatchThreeCutsAdjacentOnlySpec) :=
  OpenClaim.holds_of_wide 4 Trym.f4 rfl rfl rfl rfl rfl rfl rfl ⟨rfl, rfl, rfl, rfl, rfl⟩ rfl rfl rfl rfl rfl (by kernel_rfl) Trym.func4 (by kernel_rfl)
    (of_decide_eq_true (by kernel_rfl)) (by unfold Func.isWrapper; first | (rw [if_pos (by decide +kernel)]; kernel_rfl) | (rw [if_neg (by decide +kernel)]; exact ⟨rfl, rfl⟩))
    (fun os started H enc _ => lifted os started H enc)

/-- ████ THE STATEMENT ████ -/
theorem proved : Rows.FnMatchThreeCutsAdjacentOnlySaid :=
  over
end Go.Proofs.Qxb6614125aMods.fnMatchThreeCutsAdjacentOnly
