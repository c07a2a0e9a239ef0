/-
  A PROOF OF 'Rows.FnFenceSeparatesSaid': the row's frame over the walk of Qxb6618727aSep.
-/
import Derived.Test.Qxb6618727aSep
import Derived.WalkKit
import Derived.ProofKit
import Derived.OpenShut
import Derived.ShutString
import Derived.ChangeOld
import Derived.Below
import Derived.Lib.SmallJoins
namespace Go.Proofs.Qxb6618727a.fnFenceSeparates
open Go.ChangeShapes Go.WideShapes Go.ChangeAt Go.RowKit Go.Joins
open Go.ChangeMaps (open_string shut_string)
set_option linter.unusedVariables false

theorem own : ownKnob Try.prog.godebug = none := by kernel_rfl
theorem laidOut : laidOutB Try.prog = true := by kernel_rfl
theorem cells55 : Try.prog.cellsOf 55 = 4 := by kernel_rfl
theorem below_of {w w1 : World} (h : w.grownBy w1 none) : Below w.heap.size w w1 := (Below.refl _ _).grown h (Nat.le_refl _) (fun k e => by cases e)

set_option maxRecDepth 100000 in
theorem lifted (os : Os) (started : os.Started) (H : Type) (enc : TypeId × Value → H) :
    ReturnsInHanded {} Try.checked os 5 .any (Rows.fnFenceSeparatesSpec.pre6 enc Try.prog Try.f5 Rows.fnFenceSeparatesRow.domain false) (Rows.fnFenceSeparatesSpec.post enc Try.prog Try.f5 false true false false) := by
  refine returnsInHanded_of_change (C := Try.checked) own started (by kernel_rfl) Try.func5
    (ChangeSpec.witness6 (enc := enc) (C := Try.checked) false ⟨#[], #[.string ByteArray.empty, .string ByteArray.empty, .int .i64 0, .agg #[.string ByteArray.empty, .int .i64 0, .int .i64 0, .int .i64 0], .string ByteArray.empty, .string ByteArray.empty, .int .i64 0, .agg #[.string ByteArray.empty, .int .i64 0, .int .i64 0, .int .i64 0]], []⟩ 8 (by kernel_rfl) (by kernel_rfl) (by kernel_rfl) (by kernel_rfl)) ?_
  intro W base args ds gs before hval0 hW hcnd _
  have hval : ∀ (j : Nat) t v, Try.f5.params[j]? = some t → args[j]? = some v → Value.okWide Try.prog W .any base t v := hval0
  have hW' := hW
  obtain ⟨p, q, hA0, hV, rfl, hfz, hnd⟩ := hW
  have hA : DataW.TrodAll enc Try.prog W 0 (fun _ => true) true Try.f5.params.toList args.toList ds p := hA0
  rw [Try.params5] at hA hval
  obtain ⟨v0, vs0, d0, ds0, p0, q0, hargs, rfl, rfl, h0, r0⟩ := trodAll_cons hA
  obtain ⟨v1, vs1, d1, ds1, p1, q1, rfl, rfl, rfl, h1, r1⟩ := trodAll_cons r0
  obtain ⟨v2, vs2, d2, ds2, p2, q2, rfl, rfl, rfl, h2, r2⟩ := trodAll_cons r1
  obtain ⟨v3, vs3, d3, ds3, p3, q3, rfl, rfl, rfl, h3, r3⟩ := trodAll_cons r2
  obtain ⟨v4, vs4, d4, ds4, p4, q4, rfl, rfl, rfl, h4, r4⟩ := trodAll_cons r3
  obtain ⟨v5, vs5, d5, ds5, p5, q5, rfl, rfl, rfl, h5, r5⟩ := trodAll_cons r4
  obtain ⟨v6, vs6, d6, ds6, p6, q6, rfl, rfl, rfl, h6, r6⟩ := trodAll_cons r5
  obtain ⟨v7, vs7, d7, ds7, p7, q7, rfl, rfl, rfl, h7, r7⟩ := trodAll_cons r6
  obtain ⟨rfl, rfl, rfl⟩ := trodAll_nil r7
  obtain rfl : args = #[v0, v1, v2, v3, v4, v5, v6, v7] := by cases args; simp_all
  obtain ⟨rfl, rfl⟩ := trodVars_none hV
  have k3 := h3
  have k7 := h7
  have lt3 : ∀ x ∈ p3, x.block < W.heap.size := by obtain ⟨m, hm⟩ := k3; exact DataW.trod_lt m _ _ _ hm
  have lt7 : ∀ x ∈ p7, x.block < W.heap.size := by obtain ⟨m, hm⟩ := k7; exact DataW.trod_lt m _ _ _ hm
  obtain ⟨a0, rfl, rfl, rfl, w0⟩ := open_string Try.underlying9 (hval 0 9 v0 rfl rfl) h0
  obtain ⟨a1, rfl, rfl, rfl, w1⟩ := open_string Try.underlying9 (hval 1 9 v1 rfl rfl) h1
  obtain ⟨a2, rfl, rfl, rfl, w2⟩ := open_int Try.underlying2 (hval 2 2 v2 rfl rfl) h2
  obtain ⟨a4, rfl, rfl, rfl, w4⟩ := open_string Try.underlying9 (hval 4 9 v4 rfl rfl) h4
  obtain ⟨a5, rfl, rfl, rfl, w5⟩ := open_string Try.underlying9 (hval 5 9 v5 rfl rfl) h5
  obtain ⟨a6, rfl, rfl, rfl, w6⟩ := open_int Try.underlying2 (hval 6 2 v6 rfl rfl) h6
  obtain ⟨c0, c1, c2, c3, y0, y1, y2, y3, m3, rfl, hd3, hp3, hy0, hy1, hy2, hy3⟩ := open_agg4 Try.underlying55 (by kernel_rfl) cells55 (hval 3 55 v3 rfl rfl) h3
  obtain ⟨b0, b1, b2, b3, z0, z1, z2, z3, m7, rfl, hd7, hp7, hz0, hz1, hz2, hz3⟩ := open_agg4 Try.underlying55 (by kernel_rfl) cells55 (hval 7 55 v7 rfl rfl) h7
  obtain ⟨s0, e0, _, ws0⟩ := DataW.trod_string Try.underlying9 hy0
  obtain ⟨i1, e1, _, wi1⟩ := DataW.trod_int Try.underlying3 hy1
  obtain ⟨i2, e2, _, wi2⟩ := DataW.trod_int Try.underlying2 hy2
  obtain ⟨i3, e3, _, wi3⟩ := DataW.trod_int Try.underlying2 hy3
  obtain ⟨t0, f0, _, wt0⟩ := DataW.trod_string Try.underlying9 hz0
  obtain ⟨j1, f1, _, wj1⟩ := DataW.trod_int Try.underlying3 hz1
  obtain ⟨j2, f2, _, wj2⟩ := DataW.trod_int Try.underlying2 hz2
  obtain ⟨j3, f3, _, wj3⟩ := DataW.trod_int Try.underlying2 hz3
  simp only [List.cons.injEq, and_true] at e0 e1 e2 e3 f0 f1 f2 f3
  subst e0 e1 e2 e3 f0 f1 f2 f3
  clear hA0 hval0
  refine (tm.f5 a0 a1 s0 a4 a5 t0 a2 i1 i2 i3 a6 j1 j2 j3 W w0 w1 ws0 w4 w5 wt0 (bounds_i64 w2) (bounds_i64 wi2) (bounds_i64 wi3) (bounds_i64 w6) (bounds_i64 wj2) (bounds_i64 wj3)).mono fun e W' ⟨he, hg⟩ => ?_
  have bel := below_of hg
  subst he
  exact ⟨_, rfl, _, _, _, [], _, [], hW', trodAll_mk1 (shut_bool Try.underlying4 _), (trodAll_cons_mk (shut_string Try.underlying9 w0) (trodAll_cons_mk (shut_string Try.underlying9 w1) (trodAll_cons_mk (shut_int Try.underlying2 w2) (trodAll_cons_mk (Below.trod laidOut (by kernel_rfl) (of_decide_eq_true (by kernel_rfl)) k3 bel lt3) (trodAll_cons_mk (shut_string Try.underlying9 w4) (trodAll_cons_mk (shut_string Try.underlying9 w5) (trodAll_cons_mk (shut_int Try.underlying2 w6) (trodAll_cons_mk (Below.trod laidOut (by kernel_rfl) (of_decide_eq_true (by kernel_rfl)) k7 bel lt7) trodAll_mk0)))))))), rfl, bel.frame _, fun h => by cases h⟩

theorem over : Rows.fnFenceSeparatesRow.holds Try.pinned (OpenSpec.ofChange Rows.fnFenceSeparatesSpec) :=
  OpenClaim.holds_of_wide 5 Try.f5 rfl rfl rfl rfl rfl rfl rfl ⟨rfl, rfl, rfl, rfl, rfl⟩ rfl rfl rfl rfl rfl (by kernel_rfl) Try.func5 (by kernel_rfl)
    (of_decide_eq_true (by kernel_rfl)) (by unfold Func.isWrapper; first | (rw [if_pos (by decide +kernel)]; kernel_rfl) | (rw [if_neg (by decide +kernel)]; exact ⟨rfl, rfl⟩))
    (fun os started H enc _ => lifted os started H enc)

/-- THE STATEMENT -/
theorem proved : Rows.FnFenceSeparatesSaid := over
end Go.Proofs.Qxb6618727a.fnFenceSeparates
