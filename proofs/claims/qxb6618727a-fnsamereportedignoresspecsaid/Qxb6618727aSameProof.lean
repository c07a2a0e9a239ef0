/-
  A PROOF OF 'Rows.FnSameReportedIgnoresSpecSaid': the row's frame over the walk of Qxb6618727aLaw; the opener of an instance (a struct of fourteen fields, 17 cells).
-/
import Derived.Test.Qxb6618727aLaw
import Derived.WalkKit
import Derived.ProofKit
import Derived.OpenShut
import Derived.ShutString
import Derived.SliceStrings
import Derived.ChangeOld
import Derived.Below
import Derived.Lib.SmallJoins
namespace Go.Proofs.Qxb6618727a.fnSameReportedIgnoresSpec
open Go.ChangeShapes Go.WideShapes Go.ChangeAt Go.RowKit Go.Joins
open Go.Proofs.Qxb6618727a.tm (In Cmds)
set_option linter.unusedVariables false
set_option linter.unusedSimpArgs false

theorem own : ownKnob Try.prog.godebug = none := by kernel_rfl
theorem laidOut : laidOutB Try.prog = true := by kernel_rfl
theorem below_of {w w1 : World} (h : w.grownBy w1 none) : Below w.heap.size w w1 := (Below.refl _ _).grown h (Nat.le_refl _) (fun k e => by cases e)
theorem c36 : Try.prog.cellsOf 36 = 17 := by kernel_rfl
theorem c34 : Try.prog.cellsOf 34 = 4 := by kernel_rfl
theorem c23 : Try.prog.cellsOf 23 = 1 := by kernel_rfl
theorem c22 : Try.prog.cellsOf 22 = 1 := by kernel_rfl
theorem c9 : Try.prog.cellsOf 9 = 1 := by kernel_rfl
theorem c4 : Try.prog.cellsOf 4 = 1 := by kernel_rfl
theorem c3 : Try.prog.cellsOf 3 = 1 := by kernel_rfl
theorem c2 : Try.prog.cellsOf 2 = 1 := by kernel_rfl

theorem uncons {l : List Value} {n : Nat} (h : l.length = n + 1) : ∃ a t, l = a :: t ∧ t.length = n := by
  cases l with
  | nil => simp at h
  | cons a t => exact ⟨a, t, rfl, by simpa using h⟩

section
variable {H : Type} {enc : TypeId × Value → H} {w : World} {base : Nat} {spare : Nat → Bool} {held : Bool}

theorem cmds_of {n : Nat} {v : Value} {y : DataW H × List MemPlace} (h : DataW.trod enc Try.prog w base spare held n 23 [v] = some y) : ∃ a l c, v = .slice a l c ∧ Cmds w a l := by
  rcases open_strings Try.underlying23 Try.underlying9 c9 h with ⟨hcs, -⟩ | ⟨a, len, cap, ss, hcs, _, hl, hm, hz, -, hcell, hsz⟩
  · simp only [List.cons.injEq, and_true] at hcs
    exact ⟨_, _, _, hcs, Nat.zero_le _, fun h0 => by omega⟩
  · simp only [List.cons.injEq, and_true] at hcs
    have hlen : len ≤ ss.length := by rw [hz]; split <;> omega
    refine ⟨_, _, _, hcs, by omega, fun h0 => ?_⟩
    obtain ⟨b, o, spot⟩ := a
    have hspot : spot = none := by simpa [Addr.add] using World.cell?_spot (hcell 0 (by omega))
    subst hspot
    refine ⟨b, o, rfl, fun k hk => ⟨ss.getD k ByteArray.empty, ?_, ?_⟩⟩
    · have := hcell k (by omega)
      rwa [add_plain] at this
    · refine hsz _ ?_
      have hlt : k < ss.length := by omega
      simp [List.getD, List.getElem?_eq_getElem hlt]

theorem fld_at {n : Nat} {fs : Array Field} {cs : List Value} {xs : List (DataW H × List MemPlace)} (hlen : xs.length = fs.size)
    (hf : ∀ (i : Nat) (f : Field), fs[i]? = some f → DataW.trod enc Try.prog w base spare held n f.type ((cs.drop f.offset).take (Try.prog.cellsOf f.type)) = xs[i]?)
    (i : Nat) {f : Field} (h : fs[i]? = some f) (k : Nat) (hk : Try.prog.cellsOf f.type = k) (o : Nat) (ho : f.offset = o) (t : TypeId) (ht : f.type = t) : ∃ y, DataW.trod enc Try.prog w base spare held n t ((cs.drop o).take k) = some y := by
  have hlt : i < xs.length := by rw [hlen]; exact (Array.getElem?_eq_some_iff.1 h).1
  refine ⟨xs[i], ?_⟩
  have := hf i f h
  rw [hk, ho, ht, List.getElem?_eq_getElem hlt] at this
  exact this

theorem ex_of {n : Nat} {v0 v1 v2 v3 : Value} {y : DataW H × List MemPlace} (h : DataW.trod enc Try.prog w base spare held n 34 [v0, v1, v2, v3] = some y) :
    ∃ (code : Int) (sig : ByteArray) (oom : Bool) (at_ : Int), v0 = .int .i64 code ∧ v1 = .string sig ∧ v2 = .bool oom ∧ v3 = .int .i64 at_ ∧ sig.size ≤ maxLen ∧ (-9223372036854775808 ≤ at_ ∧ at_ ≤ 9223372036854775807) := by
  obtain ⟨xs, m, -, -, -, hlen, hf⟩ := DataW.trod_struct Try.underlying34 h
  obtain ⟨y0, e0⟩ := fld_at hlen hf 0 rfl 1 c3 0 rfl 3 rfl
  obtain ⟨y1, e1⟩ := fld_at hlen hf 1 rfl 1 c9 1 rfl 9 rfl
  obtain ⟨y2, e2⟩ := fld_at hlen hf 2 rfl 1 c4 2 rfl 4 rfl
  obtain ⟨y3, e3⟩ := fld_at hlen hf 3 rfl 1 c2 3 rfl 2 rfl
  obtain ⟨i0, g0, _, w0⟩ := DataW.trod_int Try.underlying3 e0
  obtain ⟨i1, g1, _, w1⟩ := DataW.trod_string Try.underlying9 e1
  obtain ⟨i2, g2, _⟩ := DataW.trod_bool Try.underlying4 e2
  obtain ⟨i3, g3, _, w3⟩ := DataW.trod_int Try.underlying2 e3
  simp only [List.drop_succ_cons, List.drop_zero, List.take_succ_cons, List.take_zero, List.cons.injEq, and_true] at g0 g1 g2 g3
  exact ⟨i0, i1, i2, i3, g0, g1, g2, g3, w1, bounds_i64 w3⟩

set_option maxRecDepth 20000 in
theorem open_in {r : Reach} {b0 : Nat} {v : Value} {d : DataW H} {p : List MemPlace} (hv : Value.okWide Try.prog w r b0 36 v) (h : DataW.Trod enc Try.prog w base spare held 36 v d p) :
    ∃ i : In, v = .agg i.cells ∧ i.Ok w := by
  obtain ⟨cs, rfl, hsz⟩ := okWide_struct Try.underlying36 hv
  rw [c36] at hsz
  obtain ⟨fuel, hf⟩ := h
  obtain ⟨xs, n, -, -, -, hlen, hfld⟩ := DataW.trod_struct Try.underlying36 hf
  obtain ⟨cs⟩ := cs
  simp only [Value.cells] at hfld
  replace hsz : cs.length = 17 := hsz
  obtain ⟨y0, e0⟩ := fld_at hlen hfld 0 rfl 1 c9 0 rfl 9 rfl
  obtain ⟨y1, e1⟩ := fld_at hlen hfld 1 rfl 1 c9 1 rfl 9 rfl
  obtain ⟨y2, e2⟩ := fld_at hlen hfld 2 rfl 1 c23 2 rfl 23 rfl
  obtain ⟨y3, e3⟩ := fld_at hlen hfld 3 rfl 1 c3 3 rfl 3 rfl
  obtain ⟨y4, e4⟩ := fld_at hlen hfld 4 rfl 1 c22 4 rfl 22 rfl
  obtain ⟨y5, e5⟩ := fld_at hlen hfld 5 rfl 1 c9 5 rfl 9 rfl
  obtain ⟨y6, e6⟩ := fld_at hlen hfld 6 rfl 1 c9 6 rfl 9 rfl
  obtain ⟨y7, e7⟩ := fld_at hlen hfld 7 rfl 1 c3 7 rfl 3 rfl
  obtain ⟨y8, e8⟩ := fld_at hlen hfld 8 rfl 1 c3 8 rfl 3 rfl
  obtain ⟨y9, e9⟩ := fld_at hlen hfld 9 rfl 4 c34 9 rfl 34 rfl
  obtain ⟨y10, e10⟩ := fld_at hlen hfld 10 rfl 1 c9 13 rfl 9 rfl
  obtain ⟨y11, e11⟩ := fld_at hlen hfld 11 rfl 1 c22 14 rfl 22 rfl
  obtain ⟨y12, e12⟩ := fld_at hlen hfld 12 rfl 1 c2 15 rfl 2 rfl
  obtain ⟨y13, e13⟩ := fld_at hlen hfld 13 rfl 1 c2 16 rfl 2 rfl
  clear hfld hlen hf hv
  obtain ⟨v0, t0, rfl, h0⟩ := uncons hsz
  obtain ⟨v1, t1, rfl, h1⟩ := uncons h0
  obtain ⟨v2, t2, rfl, h2⟩ := uncons h1
  obtain ⟨v3, t3, rfl, h3⟩ := uncons h2
  obtain ⟨v4, t4, rfl, h4⟩ := uncons h3
  obtain ⟨v5, t5, rfl, h5⟩ := uncons h4
  obtain ⟨v6, t6, rfl, h6⟩ := uncons h5
  obtain ⟨v7, t7, rfl, h7⟩ := uncons h6
  obtain ⟨v8, t8, rfl, h8⟩ := uncons h7
  obtain ⟨v9, t9, rfl, h9⟩ := uncons h8
  obtain ⟨v10, t10, rfl, h10⟩ := uncons h9
  obtain ⟨v11, t11, rfl, h11⟩ := uncons h10
  obtain ⟨v12, t12, rfl, h12⟩ := uncons h11
  obtain ⟨v13, t13, rfl, h13⟩ := uncons h12
  obtain ⟨v14, t14, rfl, h14⟩ := uncons h13
  obtain ⟨v15, t15, rfl, h15⟩ := uncons h14
  obtain ⟨v16, t16, rfl, h16⟩ := uncons h15
  obtain rfl : t16 = [] := List.eq_nil_of_length_eq_zero h16
  clear h0 h1 h2 h3 h4 h5 h6 h7 h8 h9 h10 h11 h12 h13 h14 h15 h16 hsz
  simp only [List.drop_succ_cons, List.drop_zero, List.take_succ_cons, List.take_zero] at e0 e1 e2 e3 e4 e5 e6 e7 e8 e9 e10 e11 e12 e13
  obtain ⟨i0, g0, _, w0⟩ := DataW.trod_string Try.underlying9 e0
  obtain ⟨i1, g1, _, w1⟩ := DataW.trod_string Try.underlying9 e1
  obtain ⟨ca, cl, cc, rfl, hcm⟩ := cmds_of e2
  obtain ⟨i3, g3, _, w3⟩ := DataW.trod_int Try.underlying3 e3
  obtain ⟨i4, g4, _, w4⟩ := DataW.trod_int Try.underlying22 e4
  obtain ⟨i5, g5, _, w5⟩ := DataW.trod_string Try.underlying9 e5
  obtain ⟨i6, g6, _, w6⟩ := DataW.trod_string Try.underlying9 e6
  obtain ⟨i7, g7, _, w7⟩ := DataW.trod_int Try.underlying3 e7
  obtain ⟨i8, g8, _, w8⟩ := DataW.trod_int Try.underlying3 e8
  obtain ⟨code, sig, oom, at_, rfl, rfl, rfl, rfl, hsig, hat⟩ := ex_of e9
  obtain ⟨i10, g10, _, w10⟩ := DataW.trod_string Try.underlying9 e10
  obtain ⟨i11, g11, _, w11⟩ := DataW.trod_int Try.underlying22 e11
  obtain ⟨i12, g12, _, w12⟩ := DataW.trod_int Try.underlying2 e12
  obtain ⟨i13, g13, _, w13⟩ := DataW.trod_int Try.underlying2 e13
  simp only [List.cons.injEq, and_true] at g0 g1 g3 g4 g5 g6 g7 g8 g10 g11 g12 g13
  subst g0 g1 g3 g4 g5 g6 g7 g8 g10 g11 g12 g13
  exact ⟨⟨i0, i1, ca, cl, cc, i3, i4, i5, i6, i7, i8, code, sig, oom, at_, i10, i11, i12, i13⟩, rfl, ⟨w0, w1, w5, w6, hsig, w10, hcm, hat, bounds_i64 w12, bounds_i64 w13⟩⟩
end

set_option maxRecDepth 100000 in
theorem lifted (os : Os) (started : os.Started) (H : Type) (enc : TypeId × Value → H) :
    ReturnsInHanded {} Try.checked os 4 .any (Rows.fnSameReportedIgnoresSpecSpec.pre6 enc Try.prog Try.f4 Rows.fnSameReportedIgnoresSpecRow.domain false) (Rows.fnSameReportedIgnoresSpecSpec.post enc Try.prog Try.f4 false true false false) := by
  refine returnsInHanded_of_change (C := Try.checked) own started (by kernel_rfl) Try.func4
    (ChangeSpec.witness6 (enc := enc) (C := Try.checked) false ⟨#[], #[.agg #[.string ByteArray.empty, .string ByteArray.empty, .slice .none 0 0, .int .i64 0, .int .u64 0, .string ByteArray.empty, .string ByteArray.empty, .int .i64 0, .int .i64 0, .int .i64 0, .string ByteArray.empty, .bool false, .int .i64 0, .string ByteArray.empty, .int .u64 0, .int .i64 0, .int .i64 0], .agg #[.string ByteArray.empty, .string ByteArray.empty, .slice .none 0 0, .int .i64 0, .int .u64 0, .string ByteArray.empty, .string ByteArray.empty, .int .i64 0, .int .i64 0, .int .i64 0, .string ByteArray.empty, .bool false, .int .i64 0, .string ByteArray.empty, .int .u64 0, .int .i64 0, .int .i64 0], .agg #[.string ByteArray.empty, .string ByteArray.empty, .slice .none 0 0, .int .i64 0, .int .u64 0, .string ByteArray.empty, .string ByteArray.empty, .int .i64 0, .int .i64 0, .int .i64 0, .string ByteArray.empty, .bool false, .int .i64 0, .string ByteArray.empty, .int .u64 0, .int .i64 0, .int .i64 0]], []⟩ 8 (by kernel_rfl) (by kernel_rfl) (by kernel_rfl) (by kernel_rfl)) ?_
  intro W base args ds gs before hval0 hW hcnd _
  have hval : ∀ (j : Nat) t v, Try.f4.params[j]? = some t → args[j]? = some v → Value.okWide Try.prog W .any base t v := hval0
  have hW' := hW
  obtain ⟨p, q, hA0, hV, rfl, hfz, hnd⟩ := hW
  have hA : DataW.TrodAll enc Try.prog W 0 (fun _ => true) true Try.f4.params.toList args.toList ds p := hA0
  rw [Try.params4] at hA hval
  obtain ⟨v0, vs0, d0, ds0, p0, q0, hargs, rfl, rfl, h0, r0⟩ := trodAll_cons hA
  obtain ⟨v1, vs1, d1, ds1, p1, q1, rfl, rfl, rfl, h1, r1⟩ := trodAll_cons r0
  obtain ⟨v2, vs2, d2, ds2, p2, q2, rfl, rfl, rfl, h2, r2⟩ := trodAll_cons r1
  obtain ⟨rfl, rfl, rfl⟩ := trodAll_nil r2
  obtain rfl : args = #[v0, v1, v2] := by cases args; simp_all
  obtain ⟨rfl, rfl⟩ := trodVars_none hV
  have lt0 : ∀ x ∈ p0, x.block < W.heap.size := by obtain ⟨m, hm⟩ := h0; exact DataW.trod_lt m _ _ _ hm
  have lt1 : ∀ x ∈ p1, x.block < W.heap.size := by obtain ⟨m, hm⟩ := h1; exact DataW.trod_lt m _ _ _ hm
  have lt2 : ∀ x ∈ p2, x.block < W.heap.size := by obtain ⟨m, hm⟩ := h2; exact DataW.trod_lt m _ _ _ hm
  obtain ⟨i, rfl, hi⟩ := open_in (hval 0 36 v0 rfl rfl) h0
  obtain ⟨j, rfl, hj⟩ := open_in (hval 1 36 v1 rfl rfl) h1
  obtain ⟨k, rfl, hk⟩ := open_in (hval 2 36 v2 rfl rfl) h2
  clear hA0 hval0
  refine (blk.f4 i j k W hi hj hk).mono fun e W' ⟨he, hg⟩ => ?_
  have bel := below_of hg
  subst he
  exact ⟨_, rfl, _, _, _, [], _, [], hW', trodAll_mk1 (shut_bool Try.underlying4 _), (trodAll_cons_mk (Below.trod laidOut (by kernel_rfl) (of_decide_eq_true (by kernel_rfl)) h0 bel lt0) (trodAll_cons_mk (Below.trod laidOut (by kernel_rfl) (of_decide_eq_true (by kernel_rfl)) h1 bel lt1) (trodAll_cons_mk (Below.trod laidOut (by kernel_rfl) (of_decide_eq_true (by kernel_rfl)) h2 bel lt2) trodAll_mk0))), rfl, bel.frame _, fun h => by cases h⟩

theorem over : Rows.fnSameReportedIgnoresSpecRow.holds Try.pinned (OpenSpec.ofChange Rows.fnSameReportedIgnoresSpecSpec) :=
  OpenClaim.holds_of_wide 4 Try.f4 rfl rfl rfl rfl rfl rfl rfl ⟨rfl, rfl, rfl, rfl, rfl⟩ rfl rfl rfl rfl rfl (by kernel_rfl) Try.func4 (by kernel_rfl)
    (of_decide_eq_true (by kernel_rfl)) (by unfold Func.isWrapper; first | (rw [if_pos (by decide +kernel)]; kernel_rfl) | (rw [if_neg (by decide +kernel)]; exact ⟨rfl, rfl⟩))
    (fun os started H enc _ => lifted os started H enc)

/-- THE STATEMENT -/
theorem proved : Rows.FnSameReportedIgnoresSpecSaid := over
end Go.Proofs.Qxb6618727a.fnSameReportedIgnoresSpec
