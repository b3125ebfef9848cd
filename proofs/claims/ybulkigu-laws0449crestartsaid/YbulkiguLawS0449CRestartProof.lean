/-
  THE SHELL OF A PROOF OF 'Rows.LawS0449CRestartSaid' ('example.com/byzantime/byzantime/internal/engine.LawS0449CRestart'), WRITTEN BY PROGRAM (proof-skeleton.mjs) off the guide's own print for that function. Not trusted: Lean checks it.
  The walk is filled out of YbulkiguRestart.lean and YbulkiguFloat.lean; the world behind the call is told by 'Below', so 'post' is given limb by limb.
-/
import Derived.Test.YbulkiguRestart
import Derived.WalkKit
import Derived.ProofKit
import Derived.OpenShut
import Derived.ShutString
namespace Go.Proofs.Ybulkigu.lawS0449CRestart
open Go.ChangeShapes Go.WideShapes Go.ChangeAt Go.RowKit
open Go.ChangeMaps (open_string shut_string)
set_option linter.unusedVariables false      -- a walk need not use every 'w<i>' (that an integer argument fits its kind)

theorem own : ownKnob Yba.prog.godebug = none := by kernel_rfl

/-! ### STEP 1: THE WALK: the Go text returns true. 'Grown w w'': the world has at most new blocks (Derived/RowKit3.lean). Part the cases AHEAD of 'go_enter' where a test parts the walk; take each callee by a contract of your own. -/
theorem order_flt (a b : Nat) (ha : a < 2 ^ 53) (hb : b < 2 ^ 53) : FloatKind.f64.format.order (Flt.fl a) (Flt.fl b) = some (compare a b) := Flt.order_fl a b ha hb

theorem float_nat (n : Nat) : floatOfInt .f64 (n : Int) = Flt.fl n := by
  have h : decide ((n : Int) < 0) = false := decide_eq_false (by omega)
  show Ieee.double.nearest (decide ((n : Int) < 0)) (n : Int).natAbs 0 = Flt.fl n
  rw [h, Int.natAbs_natCast]
  rfl

theorem walk (a0 : Int) (a1 : Int) (a2 : Int) (w0 : (Lit.int .u64 a0).wf = true) (w1 : (Lit.int .u16 a1).wf = true) (w2 : (Lit.int .u16 a2).wf = true) (w : World) :
    Calls Yba.prog 7 #[.int .u64 a0, .int .u16 a1, .int .u16 a2] w fun e w' => e = .returned (.bool true) ∧ Below w.heap.size w w' := by
  have b1 : 0 ≤ a1 ∧ a1 ≤ 65535 := bounds_u16 w1
  have b2 : 0 ≤ a2 ∧ a2 ≤ 65535 := bounds_u16 w2
  obtain ⟨a, rfl⟩ : ∃ a : Nat, a1 = (a : Int) := ⟨a1.toNat, by omega⟩
  obtain ⟨b, rfl⟩ : ∃ b : Nat, a2 = (b : Int) := ⟨a2.toNat, by omega⟩
  have ha : a < 2 ^ 53 := by omega
  have hb : b < 2 ^ 53 := by omega
  have hab : a + b < 2 ^ 53 := by omega
  refine restart_core a0 a b (Flt.fl a) (Flt.fl b) (Flt.fl (a + b)) w (float_nat a) (float_nat b)
    (fun t w => run_float_arith w .add t .f64 _ _ _ (Flt.add_fl a b ha hb hab))
    (Flt.not_above_max a ha) ?_ (Flt.not_above_max (a + b) hab) ?_ ?_
  · rw [order_flt a a ha ha, Nat.compare_eq_eq.2 rfl]
  · rw [order_flt _ _ hab hab, Nat.compare_eq_eq.2 rfl]
  · by_cases h : b = 0
    · exact Or.inl (by rw [h, Nat.add_zero])
    · exact Or.inr (by rw [order_flt a (a + b) ha hab, Nat.compare_eq_lt.2 (by omega)])

/-! ### THE ROW's STEP: WRITTEN OUT: LEAVE IT -/
set_option maxRecDepth 100000 in
theorem lifted (os : Os) (started : os.Started) (H : Type) (enc : TypeId × Value → H) :
    ReturnsInHanded {} Yba.checked os 7 .any (Rows.lawS0449CRestartSpec.pre6 enc Yba.prog Yba.f7 Rows.lawS0449CRestartRow.domain false) (Rows.lawS0449CRestartSpec.post enc Yba.prog Yba.f7 false true false false) := by
  refine returnsInHanded_of_change (C := Yba.checked) own started (by kernel_rfl) Yba.func7
    (ChangeSpec.witness6 (enc := enc) (C := Yba.checked) false ⟨#[], #[.int .u64 0, .int .u16 0, .int .u16 0], []⟩ 8 (by kernel_rfl) (by kernel_rfl) (by kernel_rfl) (by kernel_rfl)) ?_
  intro W base args ds gs before hval0 hW hcnd _
  have hval : ∀ (j : Nat) t v, Yba.f7.params[j]? = some t → args[j]? = some v → Value.okWide Yba.prog W .any base t v := hval0
  have hW' := hW
  obtain ⟨p, q, hA0, hV, rfl, hfz, hnd⟩ := hW
  have hA : DataW.TrodAll enc Yba.prog W 0 (fun _ => true) true Yba.f7.params.toList args.toList ds p := hA0
  rw [Yba.params7] at hA hval
  obtain ⟨v0, vs0, d0, ds0, p0, q0, hargs, rfl, rfl, h0, r0⟩ := trodAll_cons hA
  obtain ⟨v1, vs1, d1, ds1, p1, q1, rfl, rfl, rfl, h1, r1⟩ := trodAll_cons r0
  obtain ⟨v2, vs2, d2, ds2, p2, q2, rfl, rfl, rfl, h2, r2⟩ := trodAll_cons r1
  obtain ⟨rfl, rfl, rfl⟩ := trodAll_nil r2
  obtain rfl : args = #[v0, v1, v2] := by cases args; simp_all
  obtain ⟨rfl, rfl⟩ := trodVars_none hV
  obtain ⟨a0, rfl, rfl, rfl, w0⟩ := open_int Yba.underlying48 (hval 0 48 v0 rfl rfl) h0
  obtain ⟨a1, rfl, rfl, rfl, w1⟩ := open_int Yba.underlying36 (hval 1 36 v1 rfl rfl) h1
  obtain ⟨a2, rfl, rfl, rfl, w2⟩ := open_int Yba.underlying36 (hval 2 36 v2 rfl rfl) h2
  clear hA0 hval0
  refine (walk a0 a1 a2 w0 w1 w2 W).mono fun e W' ⟨he, bel⟩ => ?_
  subst he
  exact ⟨_, rfl, _, _, _, [], _, [], hW', trodAll_mk1 (shut_bool Yba.underlying4 _), trodAll_cons_mk (shut_int Yba.underlying48 w0) (trodAll_cons_mk (shut_int Yba.underlying36 w1) (trodAll_cons_mk (shut_int Yba.underlying36 w2) trodAll_mk0)), rfl, bel.frame _, fun h => by cases h⟩

theorem over : Rows.lawS0449CRestartRow.holds Yba.pinned (OpenSpec.ofChange Rows.lawS0449CRestartSpec) :=
  OpenClaim.holds_of_wide 7 Yba.f7 rfl rfl rfl rfl rfl rfl rfl ⟨rfl, rfl, rfl, rfl, rfl⟩ rfl rfl rfl rfl rfl (by kernel_rfl) Yba.func7 (by kernel_rfl)
    (of_decide_eq_true (by kernel_rfl)) (by unfold Func.isWrapper; first | (rw [if_pos (by decide +kernel)]; kernel_rfl) | (rw [if_neg (by decide +kernel)]; exact ⟨rfl, rfl⟩))
    (fun os started H enc _ => lifted os started H enc)

/-- ████ THE STATEMENT ████ -/
theorem proved : Rows.LawS0449CRestartSaid :=
  over
#print axioms proved
end Go.Proofs.Ybulkigu.lawS0449CRestart
