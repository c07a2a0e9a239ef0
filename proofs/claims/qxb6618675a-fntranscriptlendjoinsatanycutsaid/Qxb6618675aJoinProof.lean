/-
  A PROOF OF 'Rows.FnTranscriptLendJoinsAtAnyCutSaid': the row's frame over the walk of Qxb6618675aLaw; the opener of a slice of messages.
-/
import Derived.Test.Qxb6618675aLaw
import Derived.WalkKit
import Derived.ProofKit
import Derived.OpenShut
import Derived.ShutString
import Derived.ChangeOld
import Derived.Below
import Derived.Lib.SmallJoins
namespace Go.Proofs.Qxb6618675a.fnTranscriptLendJoinsAtAnyCut
open Go.ChangeShapes Go.WideShapes Go.ChangeAt Go.RowKit Go.Joins
open Go.Proofs.Qxb6618675a.mem
set_option linter.unusedVariables false
set_option linter.unusedSimpArgs false

theorem own : ownKnob Try.prog.godebug = none := by kernel_rfl
theorem laidOut : laidOutB Try.prog = true := by kernel_rfl
theorem below_of {w w1 : World} (h : w.grownBy w1 none) : Below w.heap.size w w1 := (Below.refl _ _).grown h (Nat.le_refl _) (fun k e => by cases e)
theorem c41 : Try.prog.cellsOf 41 = 5 := by kernel_rfl
theorem c50 : Try.prog.cellsOf 50 = 3 := by kernel_rfl
theorem c52 : Try.prog.cellsOf 52 = 4 := by kernel_rfl
theorem c38 : Try.prog.cellsOf 38 = 1 := by kernel_rfl
theorem c39 : Try.prog.cellsOf 39 = 1 := by kernel_rfl
theorem c48 : Try.prog.cellsOf 48 = 1 := by kernel_rfl
theorem c9 : Try.prog.cellsOf 9 = 1 := by kernel_rfl
theorem c5 : Try.prog.cellsOf 5 = 1 := by kernel_rfl
theorem c4 : Try.prog.cellsOf 4 = 1 := by kernel_rfl

theorem uncons {l : List Value} {n : Nat} (h : l.length = n + 1) : ∃ a t, l = a :: t ∧ t.length = n := by
  cases l with
  | nil => simp at h
  | cons a t => exact ⟨a, t, rfl, by simpa using h⟩

section
variable {H : Type} {enc : TypeId × Value → H} {w : World} {base : Nat} {spare : Nat → Bool} {held : Bool}

theorem fld_at {n : Nat} {fs : Array Field} {cs : List Value} {xs : List (DataW H × List MemPlace)} (hlen : xs.length = fs.size)
    (hf : ∀ (i : Nat) (f : Field), fs[i]? = some f → DataW.trod enc Try.prog w base spare held n f.type ((cs.drop f.offset).take (Try.prog.cellsOf f.type)) = xs[i]?)
    (i : Nat) {f : Field} (h : fs[i]? = some f) (k : Nat) (hk : Try.prog.cellsOf f.type = k) (o : Nat) (ho : f.offset = o) (t : TypeId) (ht : f.type = t) : ∃ y, DataW.trod enc Try.prog w base spare held n t ((cs.drop o).take k) = some y := by
  have hlt : i < xs.length := by rw [hlen]; exact (Array.getElem?_eq_some_iff.1 h).1
  refine ⟨xs[i], ?_⟩
  have := hf i f h
  rw [hk, ho, ht, List.getElem?_eq_getElem hlt] at this
  exact this

/-- the cells that were read, one by one -/
theorem at_of {a : Addr} {n : Nat} {cs : List Value} (h : w.cells? base a n = some cs) : cs.length = n ∧ ∀ i v, cs[i]? = some v → w.cell? (a.add i) = some v := by
  obtain ⟨-, h2, h3⟩ := World.cells?_some h
  exact ⟨h2, fun i v hv => by rw [h3 i (by rw [← h2]; exact (List.getElem?_eq_some_iff.1 hv).1)]; exact hv⟩

/-- a list of whatever is read by 'At' -/
theorem open_list {α : Type} {At : Nat → Nat → α → Prop} {t e : TypeId} {sz fuel : Nat} {v : Value} {y : DataW H × List MemPlace} (ht : Try.prog.underlying t = some (.slice e)) (hc : Try.prog.cellsOf e = sz) (hsz : 0 < sz)
    (hone : ∀ n b o cs y, w.cells? base ⟨b, o, none⟩ sz = some cs → DataW.trod enc Try.prog w base spare held n e cs = some y → ∃ m, At b o m) (h : DataW.trod enc Try.prog w base spare held fuel t [v] = some y) :
    ∃ x : Option (List α), RL At sz w.heap.size v x := by
  rcases DataW.trod_slice ht h with ⟨h0, -⟩ | ⟨a, len, cap, elems, rest, n, -, h0, -, hb, hl, hm, hlen, hel, -⟩
  · simp only [List.cons.injEq, and_true] at h0
    exact ⟨none, h0⟩
  · simp only [List.cons.injEq, and_true] at h0
    subst h0
    rw [hc] at hel
    have hat : ∀ i, i < len → ∃ m, a.spot = none ∧ a.block < w.heap.size ∧ At a.block (a.off + i * sz) m := by
      intro i hi
      have h1 := hel i hi
      rw [List.getElem?_eq_getElem (by omega)] at h1
      obtain ⟨cs, hcs, hy⟩ := Option.bind_eq_some_iff.1 h1
      have hlt := World.cells?_block hcs hsz
      have hspot : a.spot = none := by
        have h2 := hel 0 (by omega)
        rw [List.getElem?_eq_getElem (by omega)] at h2
        obtain ⟨cs0, hcs0, -⟩ := Option.bind_eq_some_iff.1 h2
        obtain ⟨hl0, hc0⟩ := at_of hcs0
        have := hc0 0 _ (List.getElem?_eq_getElem (by omega))
        have := World.cell?_spot this
        simpa [Addr.add] using this
      obtain ⟨b, o, sp⟩ := a
      cases hspot
      rw [walks.add_none] at hcs hlt
      obtain ⟨m, hm⟩ := hone _ _ _ _ _ hcs hy
      exact ⟨m, rfl, hlt, hm⟩
    refine ⟨some (List.ofFn fun i : Fin len => (hat i.1 i.2).choose), a, cap, by simp, by simpa using hl, hm, fun i m hi => ?_⟩
    have hil : i < len := by have := (List.getElem?_eq_some_iff.1 hi).1; simpa using this
    have e : m = (hat i hil).choose := by
      rw [List.getElem?_ofFn] at hi
      simp [hil] at hi
      exact hi.symm
    rw [e]
    exact (hat i hil).choose_spec

/-- the same, with what the elements' cells are -/
theorem cells_at {b o n : Nat} {cs : List Value} (h : w.cells? base ⟨b, o, none⟩ n = some cs) : cs.length = n ∧ ∀ i v, cs[i]? = some v → w.cell? ⟨b, o + i, none⟩ = some v := by
  obtain ⟨h1, h2⟩ := at_of h
  exact ⟨h1, fun i v hv => by have := h2 i v hv; rwa [walks.add_none] at this⟩
theorem open_bytes {n : Nat} {v : Value} {y : DataW H × List MemPlace} (h : DataW.trod enc Try.prog w base spare held n 48 [v] = some y) : ∃ x, RB w w.heap.size v x :=
  open_list Try.underlying48 c5 (by omega) (fun n b o cs y hcs hy => by
    obtain ⟨z, rfl, -, hz⟩ := DataW.trod_int Try.underlying5 hy
    have hb : 0 ≤ z ∧ z < 256 := by
      simp [Lit.wf, IntKind.min, IntKind.max, IntKind.signed, IntKind.bits] at hz
      omega
    have h0 : w.cell? ⟨b, o, none⟩ = some (.int .u8 z) := (cells_at hcs).2 0 _ rfl
    refine ⟨UInt8.ofNat z.toNat, ?_⟩
    show w.cell? _ = _
    rw [h0]
    congr 2
    simp
    omega) h
theorem open_calls {n : Nat} {v : Value} {y : DataW H × List MemPlace} (h : DataW.trod enc Try.prog w base spare held n 38 [v] = some y) : ∃ x, RC w w.heap.size v x :=
  open_list Try.underlying38 c50 (by omega) (fun n b o cs y hcs hy => by
    obtain ⟨hl, hat⟩ := cells_at hcs
    obtain ⟨xs, m, -, -, -, hlen, hf⟩ := DataW.trod_struct Try.underlying50 hy
    obtain ⟨y0, e0⟩ := fld_at hlen hf 0 rfl 1 c9 0 rfl 9 rfl
    obtain ⟨y1, e1⟩ := fld_at hlen hf 1 rfl 1 c9 1 rfl 9 rfl
    obtain ⟨y2, e2⟩ := fld_at hlen hf 2 rfl 1 c48 2 rfl 48 rfl
    obtain ⟨v0, t0, rfl, h0⟩ := uncons hl
    obtain ⟨v1, t1, rfl, h1⟩ := uncons h0
    obtain ⟨v2, t2, rfl, h2⟩ := uncons h1
    obtain rfl : t2 = [] := List.eq_nil_of_length_eq_zero h2
    simp only [List.drop_succ_cons, List.drop_zero, List.take_succ_cons, List.take_zero] at e0 e1 e2
    obtain ⟨s0, g0, -, w0⟩ := DataW.trod_string Try.underlying9 e0
    obtain ⟨s1, g1, -, w1⟩ := DataW.trod_string Try.underlying9 e1
    obtain ⟨x2, hx2⟩ := open_bytes e2
    simp only [List.cons.injEq, and_true] at g0 g1
    subst g0 g1
    exact ⟨⟨s0, s1, x2⟩, v2, hat 0 _ rfl, hat 1 _ rfl, hat 2 _ rfl, hx2, w0, w1⟩) h
theorem open_res {n : Nat} {v : Value} {y : DataW H × List MemPlace} (h : DataW.trod enc Try.prog w base spare held n 39 [v] = some y) : ∃ x, RR w w.heap.size v x :=
  open_list Try.underlying39 c52 (by omega) (fun n b o cs y hcs hy => by
    obtain ⟨hl, hat⟩ := cells_at hcs
    obtain ⟨xs, m, -, -, -, hlen, hf⟩ := DataW.trod_struct Try.underlying52 hy
    obtain ⟨y0, e0⟩ := fld_at hlen hf 0 rfl 1 c9 0 rfl 9 rfl
    obtain ⟨y1, e1⟩ := fld_at hlen hf 1 rfl 1 c9 1 rfl 9 rfl
    obtain ⟨y2, e2⟩ := fld_at hlen hf 2 rfl 1 c9 2 rfl 9 rfl
    obtain ⟨y3, e3⟩ := fld_at hlen hf 3 rfl 1 c4 3 rfl 4 rfl
    obtain ⟨v0, t0, rfl, h0⟩ := uncons hl
    obtain ⟨v1, t1, rfl, h1⟩ := uncons h0
    obtain ⟨v2, t2, rfl, h2⟩ := uncons h1
    obtain ⟨v3, t3, rfl, h3⟩ := uncons h2
    obtain rfl : t3 = [] := List.eq_nil_of_length_eq_zero h3
    simp only [List.drop_succ_cons, List.drop_zero, List.take_succ_cons, List.take_zero] at e0 e1 e2 e3
    obtain ⟨s0, g0, -, w0⟩ := DataW.trod_string Try.underlying9 e0
    obtain ⟨s1, g1, -, w1⟩ := DataW.trod_string Try.underlying9 e1
    obtain ⟨s2, g2, -, w2⟩ := DataW.trod_string Try.underlying9 e2
    obtain ⟨s3, g3, -⟩ := DataW.trod_bool Try.underlying4 e3
    simp only [List.cons.injEq, and_true] at g0 g1 g2 g3
    subst g0 g1 g2 g3
    exact ⟨⟨s0, s1, s2, s3⟩, hat 0 _ rfl, hat 1 _ rfl, hat 2 _ rfl, hat 3 _ rfl, w0, w1, w2⟩) h
theorem open_msgs {n : Nat} {v : Value} {y : DataW H × List MemPlace} (h : DataW.trod enc Try.prog w base spare held n 22 [v] = some y) : ∃ x, RM w w.heap.size v x :=
  open_list Try.underlying22 c41 (by omega) (fun n b o cs y hcs hy => by
    obtain ⟨hl, hat⟩ := cells_at hcs
    obtain ⟨xs, m, -, -, -, hlen, hf⟩ := DataW.trod_struct Try.underlying41 hy
    obtain ⟨y0, e0⟩ := fld_at hlen hf 0 rfl 1 c9 0 rfl 9 rfl
    obtain ⟨y1, e1⟩ := fld_at hlen hf 1 rfl 1 c9 1 rfl 9 rfl
    obtain ⟨y2, e2⟩ := fld_at hlen hf 2 rfl 1 c9 2 rfl 9 rfl
    obtain ⟨y3, e3⟩ := fld_at hlen hf 3 rfl 1 c38 3 rfl 38 rfl
    obtain ⟨y4, e4⟩ := fld_at hlen hf 4 rfl 1 c39 4 rfl 39 rfl
    obtain ⟨v0, t0, rfl, h0⟩ := uncons hl
    obtain ⟨v1, t1, rfl, h1⟩ := uncons h0
    obtain ⟨v2, t2, rfl, h2⟩ := uncons h1
    obtain ⟨v3, t3, rfl, h3⟩ := uncons h2
    obtain ⟨v4, t4, rfl, h4⟩ := uncons h3
    obtain rfl : t4 = [] := List.eq_nil_of_length_eq_zero h4
    simp only [List.drop_succ_cons, List.drop_zero, List.take_succ_cons, List.take_zero] at e0 e1 e2 e3 e4
    obtain ⟨s0, g0, -, w0⟩ := DataW.trod_string Try.underlying9 e0
    obtain ⟨s1, g1, -, w1⟩ := DataW.trod_string Try.underlying9 e1
    obtain ⟨s2, g2, -, w2⟩ := DataW.trod_string Try.underlying9 e2
    obtain ⟨x3, hx3⟩ := open_calls e3
    obtain ⟨x4, hx4⟩ := open_res e4
    simp only [List.cons.injEq, and_true] at g0 g1 g2
    subst g0 g1 g2
    exact ⟨⟨s0, s1, s2, x3, x4⟩, v3, v4, hat 0 _ rfl, hat 1 _ rfl, hat 2 _ rfl, hat 3 _ rfl, hat 4 _ rfl, hx3, hx4, w0, w1, w2⟩) h
end

set_option maxRecDepth 100000 in
theorem lifted (os : Os) (started : os.Started) (H : Type) (enc : TypeId × Value → H) :
    ReturnsInHanded {} Try.checked os 5 .any (Rows.fnTranscriptLendJoinsAtAnyCutSpec.pre6 enc Try.prog Try.f5 Rows.fnTranscriptLendJoinsAtAnyCutRow.domain false) (Rows.fnTranscriptLendJoinsAtAnyCutSpec.post enc Try.prog Try.f5 false true false false) := by
  refine returnsInHanded_of_change (C := Try.checked) own started (by kernel_rfl) Try.func5
    (ChangeSpec.witness6 (enc := enc) (C := Try.checked) false ⟨#[], #[.slice .none 0 0, .int .i64 0, .int .i64 0, .int .i64 0], []⟩ 8 (by kernel_rfl) (by kernel_rfl) (by kernel_rfl) (by kernel_rfl)) ?_
  intro W base args ds gs before hval0 hW hcnd _
  have hval : ∀ (j : Nat) t v, Try.f5.params[j]? = some t → args[j]? = some v → Value.okWide Try.prog W .any base t v := hval0
  have hW' := hW
  obtain ⟨p, q, hA0, hV, rfl, hfz, hnd⟩ := hW
  have hA : DataW.TrodAll enc Try.prog W 0 (fun _ => true) true Try.f5.params.toList args.toList ds p := hA0
  rw [Try.params5] at hA hval
  obtain ⟨v0, vs0, d0, ds0, p0, q0, hargs, rfl, rfl, h0, r0⟩ := trodAll_cons hA
  obtain ⟨v1, vs1, d1, ds1, p1, q1, rfl, rfl, rfl, h1, r1⟩ := trodAll_cons r0
  obtain ⟨v2, vs2, d2, ds2, p2, q2, rfl, rfl, rfl, h2, r2⟩ := trodAll_cons r1
  obtain ⟨v3, vs3, d3, ds3, p3, q3, rfl, rfl, rfl, h3, r3⟩ := trodAll_cons r2
  obtain ⟨rfl, rfl, rfl⟩ := trodAll_nil r3
  obtain rfl : args = #[v0, v1, v2, v3] := by cases args; simp_all
  obtain ⟨rfl, rfl⟩ := trodVars_none hV
  have lt0 : ∀ x ∈ p0, x.block < W.heap.size := by obtain ⟨m, hm⟩ := h0; exact DataW.trod_lt m _ _ _ hm
  obtain ⟨a, len, cap, rfl⟩ := okWide_slice Try.underlying22 (hval 0 22 v0 rfl rfl)
  obtain ⟨i, rfl, rfl, rfl, hi⟩ := open_int Try.underlying3 (hval 1 3 v1 rfl rfl) h1
  obtain ⟨j, rfl, rfl, rfl, hj⟩ := open_int Try.underlying3 (hval 2 3 v2 rfl rfl) h2
  obtain ⟨k, rfl, rfl, rfl, hk⟩ := open_int Try.underlying3 (hval 3 3 v3 rfl rfl) h3
  obtain ⟨x, hx⟩ : ∃ x, RM W W.heap.size (.slice a len cap) x := by
    obtain ⟨fuel, hf⟩ := h0
    exact open_msgs hf
  clear hA0 hval0
  refine (walks.f5 _ x i j k W hx).mono fun e W' ⟨he, hg⟩ => ?_
  have bel := below_of hg
  subst he
  exact ⟨_, rfl, _, _, _, [], _, [], hW', trodAll_mk1 (shut_bool Try.underlying4 _), (trodAll_cons_mk (Below.trod laidOut (by kernel_rfl) (of_decide_eq_true (by kernel_rfl)) h0 bel lt0) (trodAll_cons_mk (shut_int Try.underlying3 hi) (trodAll_cons_mk (shut_int Try.underlying3 hj) (trodAll_cons_mk (shut_int Try.underlying3 hk) trodAll_mk0)))), rfl, bel.frame _, fun h => by cases h⟩

theorem over : Rows.fnTranscriptLendJoinsAtAnyCutRow.holds Try.pinned (OpenSpec.ofChange Rows.fnTranscriptLendJoinsAtAnyCutSpec) :=
  OpenClaim.holds_of_wide 5 Try.f5 rfl rfl rfl rfl rfl rfl rfl ⟨rfl, rfl, rfl, rfl, rfl⟩ rfl rfl rfl rfl rfl (by kernel_rfl) Try.func5 (by kernel_rfl)
    (of_decide_eq_true (by kernel_rfl)) (by unfold Func.isWrapper; first | (rw [if_pos (by decide +kernel)]; kernel_rfl) | (rw [if_neg (by decide +kernel)]; exact ⟨rfl, rfl⟩))
    (fun os started H enc _ => lifted os started H enc)

/-- THE STATEMENT -/
theorem proved : Rows.FnTranscriptLendJoinsAtAnyCutSaid := over
end Go.Proofs.Qxb6618675a.fnTranscriptLendJoinsAtAnyCut
