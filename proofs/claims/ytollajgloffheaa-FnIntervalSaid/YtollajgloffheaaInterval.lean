/-
  For every two 64-bit integers the Go function 'laws.FnInterval' returns true and leaves its arguments as they were; that is, with both first taken to numbers from 0 to 2^60 - 1 as the law itself does: the repeating trigger's next moment is the previous one plus the interval; the one-time trigger's first moment is the previous one plus the delay, and it does not come again.
  Conditions: none. The statement is 'Rows.FnIntervalSaid'. The part from 'own' on began as the shell that the given 'proof-skeleton.mjs' writes; the walk and the contracts ahead of it are this session's.
-/
import Derived.Test.YtollajgloffheaaRows
import Derived.WalkKit
import Derived.ProofKit
import Derived.OpenShut
import Derived.Deep.QuietTactic
import Derived.BigQuiet
namespace Go.Proofs.Ytollajgloffheaa.fnInterval
open Go.ChangeShapes Go.WideShapes Go.ChangeAt Go.RowKit
set_option linter.unusedVariables false      -- a walk need not use every 'w<i>' (that an integer argument fits its kind)

/-! ### Plain facts on numbers -/

/-- The greater of a number and its complement is not negative: the complement, as 64 bits hold it. -/
theorem right_nonneg (x : Int) (hl : -9223372036854775808 ≤ x) (hh : x ≤ 9223372036854775807) (h : x < wrap64 (-wrap64 (x + 1))) : 0 ≤ wrap64 (-wrap64 (x + 1)) := by
  unfold wrap64 at *; omega
theorem left_nonneg (x : Int) (hl : -9223372036854775808 ≤ x) (hh : x ≤ 9223372036854775807) (h : wrap64 (-wrap64 (x + 1)) ≤ x) : 0 ≤ x := by
  unfold wrap64 at *; omega
/-- What is left of a number that is not negative, by 2^60. -/
theorem rest_small (y : Int) (h : 0 ≤ y) : 0 ≤ y.tmod 1152921504606846976 ∧ y.tmod 1152921504606846976 < 1152921504606846976 :=
  ⟨Int.tmod_nonneg _ h, Int.tmod_lt_of_pos _ (by omega)⟩

/-! ### The contracts -/

/-- The call returns some number from 0 to 2^60 - 1, and leaves the world as it is. -/
def Small (w : World) (e : Ending) (w' : World) : Prop := ∃ v : Int, 0 ≤ v ∧ v < 1152921504606846976 ∧ e = .returned (.int .i64 v) ∧ w = w'

/-- 'laws.below' at the bound 2^60. -/
theorem below_any (x : Int) (hl : -9223372036854775808 ≤ x) (hh : x ≤ 9223372036854775807) (w : World) :
    Calls Try.prog 4 #[.int .i64 x, .int .i64 1152921504606846976] w (Small w) := by
  go_enter Try.func4, Try.ntmps4
  go_wp2
  · have h : x < wrap64 (-wrap64 (x + 1)) := by assumption
    have hr := rest_small _ (right_nonneg x hl hh h)
    go_ret
    exact ⟨_, hr.1, hr.2, rfl, rfl⟩
  · have h : wrap64 (-wrap64 (x + 1)) ≤ x := by assumption
    have hr := rest_small _ (left_nonneg x hl hh h)
    go_ret
    exact ⟨_, hr.1, hr.2, rfl, rfl⟩

/-- 'impl.Each' (and through it 'quartz.NewSimpleTrigger', '(*SimpleTrigger).NextFireTime', 'Duration.Nanoseconds'): so much later. -/
theorem each_any (d p : Int) (w : World) (hd : 0 ≤ d) (hd' : d < 1152921504606846976) (hp : 0 ≤ p) (hp' : p < 1152921504606846976) :
    Calls Try.prog 5 #[.int .i64 d, .int .i64 p] w fun e w' => e = .returned (.tuple #[.int .i64 (p + d), .bool true]) ∧ Grown w w' := by
  go_enter Try.func5, Try.ntmps5
  go_wp2
  go_quiet (fail)
  go_wp2
  go_ret2
  exact ⟨rfl, ((Grown.refl w).alloc _ _)⟩

/-- 'impl.Once' (and through it 'quartz.NewRunOnceTrigger', '(*RunOnceTrigger).NextFireTime' twice, 'Duration.Nanoseconds'): so much later, and not again. -/
theorem once_any (d p : Int) (w : World) (hd : 0 ≤ d) (hd' : d < 1152921504606846976) (hp : 0 ≤ p) (hp' : p < 1152921504606846976) :
    Calls Try.prog 6 #[.int .i64 d, .int .i64 p] w fun e w' => e = .returned (.tuple #[.int .i64 (p + d), .bool true, .bool false]) ∧ Grown w w' := by
  go_enter Try.func6, Try.ntmps6
  go_wp2
  go_quiet (fail)
  go_wp2
  go_ret3
  exact ⟨rfl, ((Grown.refl w).alloc _ _)⟩

theorem grown_trans {a b c : World} (h : Grown a b) (g : Grown b c) : Grown a c :=
  ⟨World.keptBut_trans h.1 g.1, fun x => (g.2.1 x).trans (h.2.1 x), Nat.le_trans h.2.2 g.2.2⟩

/-- The law's end: it returned true, and the world has at most new blocks. -/
def TrueAndGrown (w : World) (e : Ending) (w' : World) : Prop := e = .returned (.bool true) ∧ Grown w w'

theorem own : ownKnob Try.prog.godebug = none := by kernel_rfl

/-! ### The walk: the Go text returns true -/
theorem walk_true (a0 a1 : Int) (l0 : -9223372036854775808 ≤ a0) (u0 : a0 ≤ 9223372036854775807) (l1 : -9223372036854775808 ≤ a1) (u1 : a1 ≤ 9223372036854775807) (w : World) :
    Calls Try.prog 3 #[.int .i64 a0, .int .i64 a1] w (TrueAndGrown w) := by
  go_enter Try.func3, Try.ntmps3
  go_wp2_with fail
  refine (below_any a0 l0 u0 _).mono ?_
  rintro e w' ⟨d, hd, hd', rfl, rfl⟩
  go_wp2_with fail
  refine (below_any a1 l1 u1 _).mono ?_
  rintro e w' ⟨p, hp, hp', rfl, rfl⟩
  go_wp2_with fail
  refine (each_any d p _ hd hd' hp hp').mono ?_
  rintro e w1 ⟨rfl, hg1⟩
  go_wp2_with fail
  refine (once_any d p _ hd hd' hp hp').mono ?_
  rintro e w2 ⟨rfl, hg2⟩
  have hg := grown_trans hg1 hg2
  clear hg1 hg2
  go_wp2
  go_ret
  exact ⟨rfl, hg⟩

theorem walk (a0 : Int) (a1 : Int) (w0 : (Lit.int .i64 a0).wf = true) (w1 : (Lit.int .i64 a1).wf = true) (w : World) :
    Calls Try.prog 3 #[.int .i64 a0, .int .i64 a1] w fun e w' => e = .returned (.bool true) ∧ Grown w w' :=
  (walk_true a0 a1 (bounds_i64 w0).1 (bounds_i64 w0).2 (bounds_i64 w1).1 (bounds_i64 w1).2 w).mono fun _ _ h => h

/-! ### THE ROW's STEP: WRITTEN OUT: LEAVE IT -/
set_option maxRecDepth 100000 in
theorem lifted (os : Os) (started : os.Started) (H : Type) (enc : TypeId × Value → H) :
    ReturnsInHanded {} Try.checked os 3 .any (Rows.fnIntervalSpec.pre6 enc Try.prog Try.f3 Rows.fnIntervalRow.domain false) (Rows.fnIntervalSpec.post enc Try.prog Try.f3 false true false false) := by
  refine returnsInHanded_of_change (C := Try.checked) own started (by kernel_rfl) Try.func3
    (ChangeSpec.witness6 (enc := enc) (C := Try.checked) false ⟨#[], #[.int .i64 0, .int .i64 0], []⟩ 8 (by kernel_rfl) (by kernel_rfl) (by kernel_rfl) (by kernel_rfl)) ?_
  intro W base args ds gs before hval0 hW hcnd _
  have hval : ∀ (j : Nat) t v, Try.f3.params[j]? = some t → args[j]? = some v → Value.okWide Try.prog W .any base t v := hval0
  have hW' := hW
  obtain ⟨p, q, hA0, hV, rfl, hfz, hnd⟩ := hW
  have hA : DataW.TrodAll enc Try.prog W 0 (fun _ => true) true Try.f3.params.toList args.toList ds p := hA0
  rw [Try.params3] at hA hval
  obtain ⟨v0, vs0, d0, ds0, p0, q0, hargs, rfl, rfl, h0, r0⟩ := trodAll_cons hA
  obtain ⟨v1, vs1, d1, ds1, p1, q1, rfl, rfl, rfl, h1, r1⟩ := trodAll_cons r0
  obtain ⟨rfl, rfl, rfl⟩ := trodAll_nil r1
  obtain rfl : args = #[v0, v1] := by cases args; simp_all
  obtain ⟨rfl, rfl⟩ := trodVars_none hV
  obtain ⟨a0, rfl, rfl, rfl, w0⟩ := open_int Try.underlying3 (hval 0 3 v0 rfl rfl) h0
  obtain ⟨a1, rfl, rfl, rfl, w1⟩ := open_int Try.underlying3 (hval 1 3 v1 rfl rfl) h1
  clear hA0 hval0
  simp only [List.append_nil] at hW'
  refine (walk a0 a1 w0 w1 W).mono fun e W' ⟨he, hg⟩ => ?_
  subst he
  exact ⟨_, rfl, post_of_same (pa := []) (pv := []) hW' (fun _ _ _ => (trodAll_cons_mk (shut_bool Try.underlying4 _) trodAll_mk0)) (fun sp _ => (trodAll_cons_mk (shut_int Try.underlying3 w0) (trodAll_cons_mk (shut_int Try.underlying3 w1) trodAll_mk0))) (fun _ _ => rfl) rfl
    (hg.frame _) hg.2.1 (ok_one (by kernel_rfl) rfl (okWide_bool_mk Try.underlying4 _))⟩

theorem over : Rows.fnIntervalRow.holds Try.pinned (OpenSpec.ofChange Rows.fnIntervalSpec) :=
  OpenClaim.holds_of_wide 3 Try.f3 rfl rfl rfl rfl rfl rfl rfl ⟨rfl, rfl, rfl, rfl, rfl⟩ rfl rfl rfl rfl rfl (by kernel_rfl) Try.func3 (by kernel_rfl)
    (of_decide_eq_true (by kernel_rfl)) (by unfold Func.isWrapper; first | (rw [if_pos (by decide +kernel)]; kernel_rfl) | (rw [if_neg (by decide +kernel)]; exact ⟨rfl, rfl⟩))
    (fun os started H enc _ => lifted os started H enc)

/-- ████ THE STATEMENT ████ -/
theorem proved : Rows.FnIntervalSaid :=
  over
#print axioms proved
end Go.Proofs.Ytollajgloffheaa.fnInterval
