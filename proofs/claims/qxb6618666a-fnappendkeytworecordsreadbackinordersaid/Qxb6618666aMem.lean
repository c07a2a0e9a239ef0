/-
  SLICES OF BYTES IN MEMORY: no dump. 'Rd w v l': the slice v reads as the bytes l. 'Own w B v l': v is a row of the call's own that holds l.
  'Grew w w1 v v1': v has been appended to and is v1 now: of what was there only v's own block has turned; v1 lies in v's block or in a new one.
-/
import Derived.WalkKit
import Derived.Below
import Derived.Maps.Range
import Derived.Maps.AppendAt
import Derived.Laws.AppendOwnNone
import Derived.Lib.AppendStr
import Derived.Lib.VarintMem
import Derived.Laws.CopyOwn
import Derived.Deep.QuietTactic
import Derived.BigQuiet
import Derived.OpenShut
namespace Go.Proofs.Qxb6618666a.mem
open Go.RowKit

/-! ### appended to -/
structure Grew (w w1 : World) (v v1 : Value) : Prop where
  grown : w.grownBy w1 v.ownBlock
  lies : ∀ k, v1.ownBlock = some k → w.heap.size ≤ k ∨ v.ownBlock = some k

theorem grownBy_refl (w : World) (row : Option Nat) : w.grownBy w row := ⟨rfl, rfl, rfl, Nat.le_refl _, fun _ _ _ => rfl⟩
theorem grownBy_but {a c : World} (h : a.grownBy c none) (row : Option Nat) : a.grownBy c row := ⟨h.os, h.tape, h.output, h.size, fun i hi _ => h.block i hi (by simp)⟩
theorem grownBy_drew {a c : World} {row : Option Nat} (h : a.grownBy c row) : a.grownBy c.drew row := ⟨h.os, h.tape, h.output, h.size, h.block⟩
theorem grownBy_drewN {a c : World} {row : Option Nat} (h : a.grownBy c row) (n : Nat) : a.grownBy (c.drewN n) row := ⟨h.os, h.tape, h.output, h.size, h.block⟩

theorem Grew.refl (w : World) (v : Value) : Grew w w v v := ⟨grownBy_refl _ _, fun _ h => .inr h⟩

theorem Grew.trans {w w1 w2 : World} {v v1 v2 : Value} (h : Grew w w1 v v1) (k : Grew w1 w2 v1 v2) : Grew w w2 v v2 :=
  ⟨h.grown.andThen k.grown h.lies, fun j hj => by
    rcases k.lies j hj with h1 | h1
    · exact .inl (Nat.le_trans h.grown.size h1)
    · exact h.lies j h1⟩

theorem Grew.after {w w0 w1 : World} {v v1 : Value} (h0 : w.grownBy w0 none) (h : Grew w0 w1 v v1) : Grew w w1 v v1 :=
  ⟨(grownBy_but h0 _).trans h.grown, fun j hj => by
    rcases h.lies j hj with h1 | h1
    · exact .inl (Nat.le_trans h0.size h1)
    · exact .inr h1⟩

theorem Grew.then_quiet {w w1 w2 : World} {v v1 : Value} (h : Grew w w1 v v1) (k : w1.grownBy w2 none) : Grew w w2 v v1 :=
  ⟨h.grown.trans (grownBy_but k _), h.lies⟩

theorem grew_of {w w1 : World} {v v1 : Value} (hg : w.grownBy w1 v.ownBlock) (hat : v1.ownBlock = v.ownBlock ∨ v1.ownBlock = some w.heap.size) : Grew w w1 v v1 :=
  ⟨hg, fun k hk => by
    rcases hat with h | h
    · exact .inr (h ▸ hk)
    · rw [h] at hk; exact .inl (by cases hk; exact Nat.le_refl _)⟩

theorem add_lit (g o j : Nat) : (⟨g, o, none⟩ : Addr).add j = ⟨g, o + j, none⟩ := by unfold Addr.add; split <;> simp_all

/-! ### bytes -/
def bc (l : List UInt8) : List Value := Lib.byteCells l
theorem bc_length (l : List UInt8) : (bc l).length = l.length := by simp [bc, Lib.byteCells]
theorem bc_append (a b : List UInt8) : bc (a ++ b) = bc a ++ bc b := by simp [bc, Lib.byteCells]
theorem bc_str (s : ByteArray) : Lib.strCells s = bc s.data.toList := rfl
theorem bc_one (l : List UInt8) : ∀ u ∈ bc l, u.oneCell' = true := by
  intro u hu; simp only [bc, Lib.byteCells, List.mem_map] at hu; obtain ⟨b, _, rfl⟩ := hu; rfl
theorem bc_at (l : List UInt8) (j : Nat) (h : j < l.length) : (bc l)[j]? = some (.int .u8 ((l.getD j 0).toNat : Int)) := by
  simp [bc, Lib.byteCells, List.getElem?_map, List.getD_eq_getElem?_getD, List.getElem?_eq_getElem h]
theorem bc_get {l : List UInt8} {j : Nat} {u : Value} (h : (bc l)[j]? = some u) : j < l.length ∧ u = .int .u8 ((l.getD j 0).toNat : Int) := by
  have hj : j < l.length := by rw [← bc_length]; exact (List.getElem?_eq_some_iff.1 h).1
  rw [bc_at l j hj] at h
  exact ⟨hj, (Option.some.inj h).symm⟩

/-- a row of the call's own -/
def Own (w : World) (B : Nat) (v : Value) (l : List UInt8) : Prop := w.ownsRow B 5 1 v l.length (bc l)

/-- what can be read -/
def Rd (w : World) (v : Value) (l : List UInt8) : Prop :=
  ∃ a cap, v = .slice a l.length cap ∧ l.length ≤ cap ∧ cap ≤ maxLen ∧ (a = none → cap = 0) ∧
    (l ≠ [] → ∃ g o, a = some ⟨g, o, none⟩ ∧ ∀ i, i < l.length → w.cell? ⟨g, o + i, none⟩ = some (.int .u8 ((l.getD i 0).toNat : Int)))

theorem Rd.parts {w : World} {v : Value} {l : List UInt8} (h : Rd w v l) :
    (l = [] ∧ ∃ a cap, v = .slice a 0 cap ∧ cap ≤ maxLen ∧ (a = none → cap = 0)) ∨
    ∃ g o cap, v = .slice (some ⟨g, o, none⟩) l.length cap ∧ 0 < l.length ∧ l.length ≤ cap ∧ cap ≤ maxLen ∧ ∀ i, i < l.length → w.cell? ⟨g, o + i, none⟩ = some (.int .u8 ((l.getD i 0).toNat : Int)) := by
  obtain ⟨a, cap, rfl, h1, h2, h3, h4⟩ := h
  cases l with
  | nil => exact .inl ⟨rfl, a, cap, rfl, h2, h3⟩
  | cons x r =>
    obtain ⟨g, o, rfl, hc⟩ := h4 (by simp)
    exact .inr ⟨g, o, cap, rfl, by simp, h1, h2, hc⟩

theorem Rd.kept {w w1 : World} {v : Value} {l : List UInt8} {row : Option Nat} (h : Rd w v l) (hg : w.grownBy w1 row) (hne : ∀ k, v.ownBlock = some k → some k ≠ row) : Rd w1 v l := by
  obtain ⟨a, cap, rfl, h1, h2, h3, h4⟩ := h
  refine ⟨a, cap, rfl, h1, h2, h3, fun hl => ?_⟩
  obtain ⟨g, o, rfl, hc⟩ := h4 hl
  exact ⟨g, o, rfl, fun i hi => hg.cell (hc i hi) (hne g rfl)⟩

theorem Rd.quiet {w w1 : World} {v : Value} {l : List UInt8} (h : Rd w v l) (hg : w.grownBy w1 none) : Rd w1 v l := h.kept hg (fun _ _ => by simp)

theorem Own.rd {w : World} {B : Nat} {v : Value} {l : List UInt8} (h : Own w B v l) : Rd w v l := by
  have hw := h
  rcases h.2 with ⟨rfl, hn⟩ | ⟨g, cap, cur, rfl, hb, hg, hnc, hcm, _⟩
  · have : l = [] := List.eq_nil_of_length_eq_zero hn
    subst this
    exact ⟨none, 0, rfl, Nat.le_refl _, Nat.zero_le _, fun _ => rfl, fun h => absurd rfl h⟩
  · refine ⟨some ⟨g, 0, none⟩, cap, rfl, hnc, hcm, fun h => (by cases h), fun _ => ⟨g, 0, rfl, fun i hi => ?_⟩⟩
    have := hw.cells (g := g) rfl i _ (bc_at l i hi)
    rw [← this, add_lit]

theorem Own.kept {w w1 : World} {B : Nat} {v : Value} {l : List UInt8} {row : Option Nat} (h : Own w B v l) (hg : w.grownBy w1 row) (hne : ∀ k, v.ownBlock = some k → some k ≠ row) : Own w1 B v l :=
  World.ownsRow.kept h hg (by
    cases hv : v.ownBlock with
    | none => exact .inl rfl
    | some k => exact .inr (hne k hv))
theorem Own.quiet {w w1 : World} {B : Nat} {v : Value} {l : List UInt8} (h : Own w B v l) (hg : w.grownBy w1 none) : Own w1 B v l := h.kept hg (fun _ _ => by simp)
theorem Own.lt {w : World} {B : Nat} {v : Value} {l : List UInt8} (h : Own w B v l) : ∀ k, v.ownBlock = some k → B ≤ k ∧ k < w.heap.size := World.ownsRow.lt h
theorem Own.base {w : World} {B B' : Nat} {v : Value} {l : List UInt8} (h : Own w B v l) (hB : B' ≤ B) : Own w B' v l := by
  refine ⟨h.1, ?_⟩
  rcases h.2 with h1 | ⟨g, cap, cur, e, hb, rest⟩
  · exact .inl h1
  · exact .inr ⟨g, cap, cur, e, Nat.le_trans hB hb, rest⟩
theorem Own.nil (w : World) (B : Nat) : Own w B (.slice none 0 0) [] := World.ownsRow_nil w B 5 1
/-- a value of the call's own, written out -/
theorem Own.form {w : World} {B : Nat} {v : Value} {l : List UInt8} (h : Own w B v l) (hl : 0 < l.length) : ∃ g cap, v = .slice (some ⟨g, 0, none⟩) l.length cap ∧ l.length ≤ cap ∧ cap ≤ maxLen := by
  rcases h.2 with ⟨_, hn⟩ | ⟨g, cap, cur, rfl, _, _, hnc, hcm, _⟩
  · omega
  · exact ⟨g, cap, rfl, hnc, hcm⟩

theorem Own.spell {w : World} {B n : Nat} {v : Value} {l : List UInt8} (h : Own w B v l) (hn : l.length = n) (hl : 0 < n) :
    ∃ g cap, v = .slice (some ⟨g, 0, none⟩) n cap ∧ n ≤ cap ∧ cap ≤ maxLen ∧ ∀ i, i < n → w.cell? ⟨g, i, none⟩ = some (.int .u8 ((l.getD i 0).toNat : Int)) := by
  subst hn
  have hw := h
  rcases h.2 with ⟨_, hn⟩ | ⟨g, cap, cur, rfl, _, _, hnc, hcm, _⟩
  · omega
  · refine ⟨g, cap, rfl, hnc, hcm, fun i hi => ?_⟩
    have := hw.cells (g := g) rfl i _ (bc_at l i hi)
    rw [← this, add_lit, Nat.zero_add]

theorem Rd.take {w : World} {a : Option Addr} {n m cap : Nat} {l : List UInt8} (h : Rd w (.slice a n cap) l) (hm : m ≤ l.length) : Rd w (.slice a m cap) (l.take m) := by
  obtain ⟨a', cap', e, h1, h2, h3, h4⟩ := h
  cases e
  have hl : (l.take m).length = m := by rw [List.length_take]; omega
  refine ⟨a, cap, by rw [hl], by omega, h2, h3, fun hne => ?_⟩
  obtain ⟨g, o, rfl, hc⟩ := h4 (by rintro rfl; simp at hne)
  refine ⟨g, o, rfl, fun i hi => ?_⟩
  rw [hc i (by omega)]
  simp only [List.getD_eq_getElem?_getD, List.getElem?_take]
  rw [if_pos (by omega)]

theorem Rd.drop {w : World} {g o n m k c cap : Nat} {l : List UInt8} (h : Rd w (.slice (some ⟨g, o, none⟩) n cap) l) (hk : k = n - m) (hc : c = cap - m) (hm : m < l.length) : Rd w (.slice (some ⟨g, o + m, none⟩) k c) (l.drop m) := by
  obtain ⟨a', cap', e, h1, h2, h3, h4⟩ := h
  cases e
  have hl : (l.drop m).length = l.length - m := List.length_drop
  refine ⟨some ⟨g, o + m, none⟩, c, by rw [hl, hk], by omega, by omega, fun h => by (cases h), fun hne => ?_⟩
  obtain ⟨g', o', e, hc⟩ := h4 (by rintro rfl; simp at hm)
  cases e
  refine ⟨g, o + m, rfl, fun i hi => ?_⟩
  rw [Nat.add_assoc, hc (m + i) (by omega)]
  simp [List.getD_eq_getElem?_getD]

/-- a slice that came in, as the row's opener tells it, can be read -/
theorem rd_of_came {w : World} {a : Option Addr} {len cap : Nat} {zs : List Int} (h : (a = none ∧ len = 0 ∧ cap = 0 ∧ zs = []) ∨
    ∃ x, a = some x ∧ len ≤ cap ∧ cap ≤ maxLen ∧ zs.length = cap ∧ (∀ i, i < zs.length → w.cell? (x.add i) = some (.int .u8 (zs.getD i 0))) ∧ ∀ n ∈ zs, (Lit.int .u8 n).wf = true) :
    ∃ l, Rd w (.slice a len cap) l := by
  rcases h with ⟨rfl, rfl, rfl, _⟩ | ⟨x, rfl, h1, h2, h3, h4, h5⟩
  · exact ⟨[], none, 0, rfl, Nat.le_refl _, Nat.zero_le _, fun _ => rfl, fun h => absurd rfl h⟩
  · have hl : ((zs.take len).map fun z => z.toNat.toUInt8).length = len := by simp; omega
    refine ⟨(zs.take len).map fun z => z.toNat.toUInt8, some x, cap, by rw [hl], by omega, h2, fun h => by (cases h), fun hne => ?_⟩
    have hpos : 0 < len := by
      rcases Nat.eq_zero_or_pos len with h0 | h0
      · subst h0; simp at hne
      · exact h0
    obtain ⟨b, off, spot⟩ := x
    have hspot : spot = none := by simpa [Addr.add] using World.cell?_spot (h4 0 (by omega))
    subst hspot
    refine ⟨b, off, rfl, fun i hi => ?_⟩
    have hz := h4 i (by omega)
    rw [add_lit] at hz
    rw [hz]
    have hi' : i < zs.length := by omega
    have hw := h5 (zs[i]) (List.getElem_mem hi')
    have hb : 0 ≤ zs[i] ∧ zs[i] ≤ 255 := bounds_u8 hw
    congr 2
    have e1 : zs.getD i 0 = zs[i] := by simp [List.getD_eq_getElem?_getD, List.getElem?_eq_getElem hi']
    have e2 : (((zs.take len).map fun z => z.toNat.toUInt8).getD i 0) = zs[i].toNat.toUInt8 := by
      simp only [List.getD_eq_getElem?_getD, List.getElem?_map, List.getElem?_take]
      rw [if_pos (by omega), List.getElem?_eq_getElem hi']
      rfl
    rw [e1, e2, Lib.toUInt8_toNat (by omega)]
    omega

/-! ### a string appended, with where the new slice lies -/
section
variable {P : Program} (w : World)
theorem run_append_string_at (base : Nat) (t u ty e : TypeId) (i : TypeInfo) (ht : P.underlying t = some (.slice e)) (hu : P.underlying u = some .string) (hi : P.info? e = some i) (hz : i.zero = some (.int .u8 0))
    (hsize : i.size = 1) (hby : i.bytes = 1)
    (v : Value) (n : Nat) (xs : List Value) (hown : w.ownsRow base e 1 v n xs) (s : ByteArray)
    (h63 : n + s.size ≤ maxLen) (hbytes : n + s.size ≤ 140737488355328) (hbase : base ≤ w.heap.size) :
    ∃ v' w', (Builtin.append_ #[t, u] ty #[v, .string s]).run P w = .ok v' w' ∧ w'.ownsRow base e 1 v' (n + s.size) (xs ++ Lib.strCells s) ∧ w.grownBy w' v.ownBlock ∧
      (v'.ownBlock = v.ownBlock ∨ v'.ownBlock = some w.heap.size) := by
  obtain ⟨v', w', hr, h2, h3, h4⟩ := Lib.run_append_own_string (P := P) w base t u ty e i ht hu hi hz hsize hby v n xs hown s h63 hbytes hbase
  refine ⟨v', w', hr, h2, h3, ?_⟩
  have hsmall : n + s.size ≤ 9223372036854775807 := by simp only [maxLen] at h63; omega
  have hxl : xs.length = n := by simpa using hown.1
  rcases hown.2 with ⟨rfl, rfl⟩ | ⟨g, cap, cur, rfl, hbg, hg, hnc, hcm, hcs, htake⟩
  · by_cases hm : s.size = 0
    · rw [h4.2 ⟨rfl, hm⟩]; exact .inl rfl
    · have hr' := run_append_nil_string (P := P) w t u ty e i (.int .u8 0) ht hu hi hz s (by omega) (by omega) (by rw [hby]; omega)
      rw [hr] at hr'
      injection hr' with e1 e2
      rw [e1]; exact .inr rfl
  · by_cases hroom : n + s.size ≤ cap
    · have hcs' : cur.size = cap := by simpa using hcs
      have hr' := Lib.run_append_room_string (P := P) w t u ty e i ht hu hi hsize g n cap cur hg s hroom (by omega)
      rw [hr] at hr'
      injection hr' with e1 e2
      rw [e1]; exact .inl rfl
    · have holds : ∀ j u, xs[j]? = some u → w.cell? ((⟨g, 0, none⟩ : Addr).add j) = some u := hown.cells (g := g) rfl
      have hr' := Lib.run_append_grow_string (P := P) w t u ty e i (.int .u8 0) ht hu hi hz ⟨g, 0, none⟩ n cap xs (by rw [hsize]; simpa using hxl) holds s (by omega) (by omega) (by rw [hby]; exact growslice_fits (by omega) (by omega))
      rw [hr] at hr'
      injection hr' with e1 e2
      rw [e1]; exact .inr rfl

/-- append(v, s...), s a string -/
theorem wpList_app_string {ops : Array Oper} {rest : List Oper} {o : Oper} {a : Act} {Q : Exit → Act → World → Prop} (hgd : o.guard = none) (sl x : Operand) (t u : TypeId)
    (ho : o.op = .call { callee := .builtin .append, args := #[sl, x], argTypes := #[t, u] })
    (ht : P.underlying t = some (.slice 5)) (hu : P.underlying u = some .string) (hinfo : (P.info? 5).map (fun i => (i.zero, i.size, i.bytes)) = some (some (.int .u8 0), 1, 1))
    (B : Nat) (v : Value) (l : List UInt8) (hs : a.eval sl = v) (hown : Own w B v l) (s : ByteArray) (hx : a.eval x = .string s)
    (hbytes : l.length + s.size ≤ 140737488355328) (hbase : B ≤ w.heap.size)
    (h : ∀ v' w', Own w' B v' (l ++ s.data.toList) → Grew w w' v v' → wpList P ops Q rest (a.put o.dst v') w') : wpList P ops Q (o :: rest) a w := by
  refine wpList_plain hgd fun K hK => ?_
  obtain ⟨i, hi, hz, hsize, hby⟩ := info_parts hinfo
  obtain ⟨v', w', hr, h2, h3, h4⟩ := run_append_string_at (P := P) w B t u o.type 5 i ht hu hi hz hsize hby v l.length (bc l) hown s (by simp only [maxLen]; omega) hbytes hbase
  unfold Oper.wp execOp
  simp only [ho, resolve, invoke, builtin, Sem.run_bind, Sem.run_pure, Result.andThen_ok, List.map_toArray, List.map_cons, List.map_nil, hs, hx, hr]
  refine hK _ _ (h v' w' ?_ (grew_of h3 h4))
  unfold Own
  rw [bc_append, List.length_append]
  exact h2

/-- the same, as one step of a region that draws its order -/
theorem step_app_string {ops : Array Oper} {o : Oper} {a : Act} {K : Act → World → Prop} {Q : Exit → Act → World → Prop} {E : Prop} (hgd : o.guard = none) (sl x : Operand) (t u : TypeId)
    (ho : o.op = .call { callee := .builtin .append, args := #[sl, x], argTypes := #[t, u] })
    (ht : P.underlying t = some (.slice 5)) (hu : P.underlying u = some .string) (hinfo : (P.info? 5).map (fun i => (i.zero, i.size, i.bytes)) = some (some (.int .u8 0), 1, 1))
    (B : Nat) (v : Value) (l : List UInt8) (hs : a.eval sl = v) (hown : Own w B v l) (s : ByteArray) (hx : a.eval x = .string s)
    (hbytes : l.length + s.size ≤ 140737488355328) (hbase : B ≤ w.heap.size)
    (h : ∀ v' w', Own w' B v' (l ++ s.data.toList) → Grew w w' v v' → K (a.put o.dst v') w') :
    if Region.wanted o (yielded ops a.tmps) = true then Oper.wp P o a w K Q else E := by
  have hw : Region.wanted o (yielded ops a.tmps) = true := by simp [Region.wanted, hgd]
  rw [if_pos hw]
  obtain ⟨i, hi, hz, hsize, hby⟩ := info_parts hinfo
  obtain ⟨v', w', hr, h2, h3, h4⟩ := run_append_string_at (P := P) w B t u o.type 5 i ht hu hi hz hsize hby v l.length (bc l) hown s (by simp only [maxLen]; omega) hbytes hbase
  unfold Oper.wp execOp
  simp only [ho, resolve, invoke, builtin, Sem.run_bind, Sem.run_pure, Result.andThen_ok, List.map_toArray, List.map_cons, List.map_nil, hs, hx, hr]
  refine h v' w' ?_ (grew_of h3 h4)
  unfold Own
  rw [bc_append, List.length_append]
  exact h2

/-- append(v, x...), x a slice of bytes that can be read (nil too) -/
theorem wpList_app_rd {ops : Array Oper} {rest : List Oper} {o : Oper} {a : Act} {Q : Exit → Act → World → Prop} (hgd : o.guard = none) (sl x : Operand) (t : TypeId)
    (ho : o.op = .call { callee := .builtin .append, args := #[sl, x], argTypes := #[t, t] })
    (ht : P.underlying t = some (.slice 5)) (hinfo : (P.info? 5).map (fun i => (i.zero, i.size, i.bytes)) = some (some (.int .u8 0), 1, 1))
    (B : Nat) (v : Value) (l : List UInt8) (hs : a.eval sl = v) (hown : Own w B v l) (vx : Value) (m : List UInt8) (hx : a.eval x = vx) (hrd : Rd w vx m)
    (hbytes : l.length + m.length ≤ 140737488355328) (hbase : B ≤ w.heap.size)
    (h : ∀ v' w', Own w' B v' (l ++ m) → Grew w w' v v' → wpList P ops Q rest (a.put o.dst v') w') : wpList P ops Q (o :: rest) a w := by
  obtain ⟨i, hi, hz, hsize, hby⟩ := info_parts hinfo
  obtain ⟨ad, cap, rfl, h1, h2, h3, h4⟩ := hrd
  cases ad with
  | none =>
    have hc : cap = 0 := h3 rfl
    have hm : m = [] := List.eq_nil_of_length_eq_zero (by omega)
    subst hm; subst hc
    refine wpList_append_own_none hgd sl x t ho B 5 i 1 ht hi v l.length (bc l) hs hown hx (h v w ?_ (Grew.refl _ _))
    simpa using hown
  | some ad =>
    refine wpList_append_own_at w hgd sl x t ho B 5 i (.int .u8 0) 1 1 ht hi hz hsize hby rfl (by decide) v l.length (bc l) hs hown ad m.length cap (bc m) hx (by simp [bc_length]) ?_ (bc_one m) (by simp only [maxLen]; omega) (by omega) hbase ?_
    · intro j u hu
      obtain ⟨hj, rfl⟩ := bc_get hu
      obtain ⟨g, o, e, hc⟩ := h4 (by rintro rfl; simp at hj)
      cases e
      rw [← hc j hj, add_lit]
    · intro v' w' ho' hg' _ hat
      refine h v' w' ?_ (grew_of hg' hat)
      unfold Own
      rw [bc_append, List.length_append]
      exact ho'

/-- the same, as one step of a region that draws its order; x is not nil -/
theorem step_app_rd {ops : Array Oper} {o : Oper} {a : Act} {K : Act → World → Prop} {Q : Exit → Act → World → Prop} {E : Prop} (hgd : o.guard = none) (sl x : Operand) (t : TypeId)
    (ho : o.op = .call { callee := .builtin .append, args := #[sl, x], argTypes := #[t, t] })
    (ht : P.underlying t = some (.slice 5)) (hinfo : (P.info? 5).map (fun i => (i.zero, i.size, i.bytes)) = some (some (.int .u8 0), 1, 1))
    (B : Nat) (v : Value) (l : List UInt8) (hs : a.eval sl = v) (hown : Own w B v l) (vx : Value) (m : List UInt8) (hx : a.eval x = vx) (hrd : Rd w vx m) (hpos : 0 < m.length)
    (hbytes : l.length + m.length ≤ 140737488355328) (hbase : B ≤ w.heap.size)
    (h : ∀ v' w', Own w' B v' (l ++ m) → Grew w w' v v' → K (a.put o.dst v') w') :
    if Region.wanted o (yielded ops a.tmps) = true then Oper.wp P o a w K Q else E := by
  have hw : Region.wanted o (yielded ops a.tmps) = true := by simp [Region.wanted, hgd]
  rw [if_pos hw]
  obtain ⟨i, hi, hz, hsize, hby⟩ := info_parts hinfo
  rcases hrd.parts with ⟨rfl, _⟩ | ⟨g, o2, cap, rfl, _, _, _, hc⟩
  · simp at hpos
  · obtain ⟨v', w', hr, h2, h3, _, h4⟩ := run_append_own_at (P := P) w B t o.type 5 i (.int .u8 0) 1 1 ht hi hz hsize hby rfl (by decide) v l.length (bc l) hown ⟨g, o2, none⟩ m.length cap (bc m) (by simp [bc_length]) (fun j u hu => by
      obtain ⟨hj, rfl⟩ := bc_get hu
      rw [← hc j hj, add_lit]) (bc_one m) (by simp only [maxLen]; omega) (by omega) hbase
    unfold Oper.wp execOp
    simp only [ho, resolve, invoke, builtin, Sem.run_bind, Sem.run_pure, Result.andThen_ok, List.map_toArray, List.map_cons, List.map_nil, hs, hx, hr]
    refine h v' w' ?_ (grew_of h3 h4)
    unfold Own
    rw [bc_append, List.length_append]
    exact h2

/-- copy(c, b), c a row of the call's own that is just as long -/
theorem run_copy_rd (t ty : TypeId) (ht : P.underlying t = some (.slice 5)) (hsz : (P.info? 5).map (·.size) = some 1)
    (B g : Nat) (l : List UInt8) (zs : List Value) (hown : w.ownsRow B 5 1 (.slice (some ⟨g, 0, none⟩) l.length l.length) l.length zs)
    (vx : Value) (hrd : Rd w vx l) :
    ∃ w', (Builtin.copy_ #[t, t] ty #[.slice (some ⟨g, 0, none⟩) l.length l.length, vx]).run P w = .ok (goInt l.length) w' ∧
      Own w' B (.slice (some ⟨g, 0, none⟩) l.length l.length) l ∧ w.grownBy w' (some g) := by
  obtain ⟨ad, cap, rfl, h1, h2, h3, h4⟩ := hrd
  rcases hown.2 with ⟨e, _⟩ | ⟨g', cap', cur, e, hb, hg, hnc, hcm, hcs, htake⟩
  · cases e
  · cases e
    have hcs' : cur.size = l.length := by simpa using hcs
    by_cases hl : l = []
    · subst hl
      refine ⟨w, run_copy_none w t t ty 5 _ _ _ _ _ _ ht hsz (by simp), ?_, grownBy_refl _ _⟩
      exact ⟨by simp [bc, Lib.byteCells], .inr ⟨g, _, cur, rfl, hb, hg, hnc, hcm, by simpa using hcs', by simp [bc, Lib.byteCells]⟩⟩
    · obtain ⟨g2, o2, rfl, hc⟩ := h4 hl
      have hr := run_copy_row (P := P) w t t ty 5 g 0 l.length l.length ⟨g2, o2, none⟩ l.length cap cur 5 (bc l) ht hsz hg (by simp [bc_length]) (fun j u hu => by
        obtain ⟨hj, rfl⟩ := bc_get hu
        rw [← hc j hj, add_lit]) (by rw [bc_length]; omega) (bc_one l)
      rw [bc_length] at hr
      refine ⟨_, hr, ⟨by simp [bc_length], .inr ⟨g, _, _, rfl, hb, setRow_heap w g cur _ 5 _ hg, hnc, hcm, ?_, ?_⟩⟩, ⟨rfl, rfl, rfl, by simp [World.setRow], fun k _ hk => setRow_other w g k _ (fun e => hk (by rw [e]))⟩⟩
      · simp [bc_length, hcs']
      · simp [bc_length]
end
end Go.Proofs.Qxb6618666a.mem
